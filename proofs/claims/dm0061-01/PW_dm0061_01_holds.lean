import PyProof.Rows.All
import Wide.All
import OpenK.AllK
import Wide.FinOn
import Lean
import PySem.Challenge.RW_dm0061_01
set_option Elab.async false
set_option linter.all false
set_option compiler.extract_closed false
section
set_option compiler.extract_closed false
namespace Mini
open PySem in
instance:Nonempty Params:=⟨{strHash:=fun _=>0,shareClass:=fun _=>default,mergeTok:=fun t=>t,idOf:=fun _=>0,idOfShared:=fun _ _=>0,followText:=fun _=>false,idOfImm:=fun _=>0}⟩
instance:Nonempty PySem.World:=let ⟨p⟩:=(inferInstance:Nonempty PySem.Params);⟨⟨fun _ _=>0,p⟩⟩
instance:Nonempty PySem.Setting:=let ⟨p⟩:=(inferInstance:Nonempty PySem.Params);⟨⟨default,p⟩⟩
instance:Nonempty PySem.Around:=⟨{}⟩
instance:Nonempty PySem.Shared:=⟨{}⟩
instance:Nonempty PySem.Drawn:=⟨{}⟩
instance:Nonempty PySem.Sre.Seen:=⟨{}⟩
instance:Nonempty PySem.Sre.M:=⟨{code:=#[],text:=#[],lim:=0,start:=0,pc:=0,pos:=0,handed:=0,marks:=#[]}⟩
theorem Tg {α:Type} (n:Nonempty α) (p:α->Prop):∃x,(∃y,p y)->p x:=by
 by_cases h:∃y,p y
 ·exact h.elim fun y hy=>⟨y,fun _=>hy⟩
 ·exact n.elim fun x=>⟨x,fun q=>absurd q h⟩
noncomputable def ep1 {α:Type} (n:Nonempty α) (p:α->Prop):α:=Classical.choose (Tg n p)
theorem eps1 {α:Type} [n:Nonempty α] {p:α->Prop} (h:∃x,p x):p (ep1 n p):=Classical.choose_spec (Tg n p) h
noncomputable def e1 {α:Type} (n:Nonempty α) (p:α->Prop):α:=ep1 n fun x=>¬p x
theorem ei1 {α:Type} [n:Nonempty α] {p:α->Prop} (h:p (e1 n p)):∀x,p x:=fun x=>Classical.byContradiction fun q=>eps1 (p:=fun x=>¬p x) ⟨x,q⟩ h
noncomputable def e2 {α1 α2:Type} (n:Nonempty (α1×α2)) (p:α1->α2->Prop):α1×α2:=ep1 n fun t=>¬p t.1 t.2
theorem ei2 {α1 α2:Type} [n:Nonempty (α1×α2)] {p:α1->α2->Prop} (h:p (e2 n p).1 (e2 n p).2):∀x1 x2,p x1 x2:=fun x1 x2=>Classical.byContradiction fun q=>eps1 (p:=fun t:α1×α2=>¬p t.1 t.2) ⟨(x1,x2),q⟩ h
noncomputable def ep2 {α1 α2:Type} (n:Nonempty (α1×α2)) (p:α1->α2->Prop):α1×α2:=ep1 n fun t=>p t.1 t.2
theorem eps2 {α1 α2:Type} [n:Nonempty (α1×α2)] {p:α1->α2->Prop} (h:∃x1 x2,p x1 x2):p (ep2 n p).1 (ep2 n p).2:=eps1 (p:=fun t:α1×α2=>p t.1 t.2) (h.elim fun x1 h=>h.elim fun x2 h=>⟨(x1,x2),h⟩)
noncomputable def e3 {α1 α2 α3:Type} (n:Nonempty (α1×α2×α3)) (p:α1->α2->α3->Prop):α1×α2×α3:=ep1 n fun t=>¬p t.1 t.2.1 t.2.2
theorem ei3 {α1 α2 α3:Type} [n:Nonempty (α1×α2×α3)] {p:α1->α2->α3->Prop} (h:p (e3 n p).1 (e3 n p).2.1 (e3 n p).2.2):∀x1 x2 x3,p x1 x2 x3:=fun x1 x2 x3=>Classical.byContradiction fun q=>eps1 (p:=fun t:α1×α2×α3=>¬p t.1 t.2.1 t.2.2) ⟨(x1,x2,x3),q⟩ h
noncomputable def ep3 {α1 α2 α3:Type} (n:Nonempty (α1×α2×α3)) (p:α1->α2->α3->Prop):α1×α2×α3:=ep1 n fun t=>p t.1 t.2.1 t.2.2
theorem eps3 {α1 α2 α3:Type} [n:Nonempty (α1×α2×α3)] {p:α1->α2->α3->Prop} (h:∃x1 x2 x3,p x1 x2 x3):p (ep3 n p).1 (ep3 n p).2.1 (ep3 n p).2.2:=eps1 (p:=fun t:α1×α2×α3=>p t.1 t.2.1 t.2.2) (h.elim fun x1 h=>h.elim fun x2 h=>h.elim fun x3 h=>⟨(x1,x2,x3),h⟩)
noncomputable def e4 {α1 α2 α3 α4:Type} (n:Nonempty (α1×α2×α3×α4)) (p:α1->α2->α3->α4->Prop):α1×α2×α3×α4:=ep1 n fun t=>¬p t.1 t.2.1 t.2.2.1 t.2.2.2
theorem ei4 {α1 α2 α3 α4:Type} [n:Nonempty (α1×α2×α3×α4)] {p:α1->α2->α3->α4->Prop} (h:p (e4 n p).1 (e4 n p).2.1 (e4 n p).2.2.1 (e4 n p).2.2.2):∀x1 x2 x3 x4,p x1 x2 x3 x4:=fun x1 x2 x3 x4=>Classical.byContradiction fun q=>eps1 (p:=fun t:α1×α2×α3×α4=>¬p t.1 t.2.1 t.2.2.1 t.2.2.2) ⟨(x1,x2,x3,x4),q⟩ h
noncomputable def ep4 {α1 α2 α3 α4:Type} (n:Nonempty (α1×α2×α3×α4)) (p:α1->α2->α3->α4->Prop):α1×α2×α3×α4:=ep1 n fun t=>p t.1 t.2.1 t.2.2.1 t.2.2.2
theorem eps4 {α1 α2 α3 α4:Type} [n:Nonempty (α1×α2×α3×α4)] {p:α1->α2->α3->α4->Prop} (h:∃x1 x2 x3 x4,p x1 x2 x3 x4):p (ep4 n p).1 (ep4 n p).2.1 (ep4 n p).2.2.1 (ep4 n p).2.2.2:=eps1 (p:=fun t:α1×α2×α3×α4=>p t.1 t.2.1 t.2.2.1 t.2.2.2) (h.elim fun x1 h=>h.elim fun x2 h=>h.elim fun x3 h=>h.elim fun x4 h=>⟨(x1,x2,x3,x4),h⟩)
noncomputable def e5 {α1 α2 α3 α4 α5:Type} (n:Nonempty (α1×α2×α3×α4×α5)) (p:α1->α2->α3->α4->α5->Prop):α1×α2×α3×α4×α5:=ep1 n fun t=>¬p t.1 t.2.1 t.2.2.1 t.2.2.2.1 t.2.2.2.2
theorem ei5 {α1 α2 α3 α4 α5:Type} [n:Nonempty (α1×α2×α3×α4×α5)] {p:α1->α2->α3->α4->α5->Prop} (h:p (e5 n p).1 (e5 n p).2.1 (e5 n p).2.2.1 (e5 n p).2.2.2.1 (e5 n p).2.2.2.2):∀x1 x2 x3 x4 x5,p x1 x2 x3 x4 x5:=fun x1 x2 x3 x4 x5=>Classical.byContradiction fun q=>eps1 (p:=fun t:α1×α2×α3×α4×α5=>¬p t.1 t.2.1 t.2.2.1 t.2.2.2.1 t.2.2.2.2) ⟨(x1,x2,x3,x4,x5),q⟩ h
noncomputable def e6 {α1 α2 α3 α4 α5 α6:Type} (n:Nonempty (α1×α2×α3×α4×α5×α6)) (p:α1->α2->α3->α4->α5->α6->Prop):α1×α2×α3×α4×α5×α6:=ep1 n fun t=>¬p t.1 t.2.1 t.2.2.1 t.2.2.2.1 t.2.2.2.2.1 t.2.2.2.2.2
theorem ei6 {α1 α2 α3 α4 α5 α6:Type} [n:Nonempty (α1×α2×α3×α4×α5×α6)] {p:α1->α2->α3->α4->α5->α6->Prop} (h:p (e6 n p).1 (e6 n p).2.1 (e6 n p).2.2.1 (e6 n p).2.2.2.1 (e6 n p).2.2.2.2.1 (e6 n p).2.2.2.2.2):∀x1 x2 x3 x4 x5 x6,p x1 x2 x3 x4 x5 x6:=fun x1 x2 x3 x4 x5 x6=>Classical.byContradiction fun q=>eps1 (p:=fun t:α1×α2×α3×α4×α5×α6=>¬p t.1 t.2.1 t.2.2.1 t.2.2.2.1 t.2.2.2.2.1 t.2.2.2.2.2) ⟨(x1,x2,x3,x4,x5,x6),q⟩ h
noncomputable def e7 {α1 α2 α3 α4 α5 α6 α7:Type} (n:Nonempty (α1×α2×α3×α4×α5×α6×α7)) (p:α1->α2->α3->α4->α5->α6->α7->Prop):α1×α2×α3×α4×α5×α6×α7:=ep1 n fun t=>¬p t.1 t.2.1 t.2.2.1 t.2.2.2.1 t.2.2.2.2.1 t.2.2.2.2.2.1 t.2.2.2.2.2.2
theorem ei7 {α1 α2 α3 α4 α5 α6 α7:Type} [n:Nonempty (α1×α2×α3×α4×α5×α6×α7)] {p:α1->α2->α3->α4->α5->α6->α7->Prop} (h:p (e7 n p).1 (e7 n p).2.1 (e7 n p).2.2.1 (e7 n p).2.2.2.1 (e7 n p).2.2.2.2.1 (e7 n p).2.2.2.2.2.1 (e7 n p).2.2.2.2.2.2):∀x1 x2 x3 x4 x5 x6 x7,p x1 x2 x3 x4 x5 x6 x7:=fun x1 x2 x3 x4 x5 x6 x7=>Classical.byContradiction fun q=>eps1 (p:=fun t:α1×α2×α3×α4×α5×α6×α7=>¬p t.1 t.2.1 t.2.2.1 t.2.2.2.1 t.2.2.2.2.1 t.2.2.2.2.2.1 t.2.2.2.2.2.2) ⟨(x1,x2,x3,x4,x5,x6,x7),q⟩ h
noncomputable def e8 {α1 α2 α3 α4 α5 α6 α7 α8:Type} (n:Nonempty (α1×α2×α3×α4×α5×α6×α7×α8)) (p:α1->α2->α3->α4->α5->α6->α7->α8->Prop):α1×α2×α3×α4×α5×α6×α7×α8:=ep1 n fun t=>¬p t.1 t.2.1 t.2.2.1 t.2.2.2.1 t.2.2.2.2.1 t.2.2.2.2.2.1 t.2.2.2.2.2.2.1 t.2.2.2.2.2.2.2
theorem ei8 {α1 α2 α3 α4 α5 α6 α7 α8:Type} [n:Nonempty (α1×α2×α3×α4×α5×α6×α7×α8)] {p:α1->α2->α3->α4->α5->α6->α7->α8->Prop} (h:p (e8 n p).1 (e8 n p).2.1 (e8 n p).2.2.1 (e8 n p).2.2.2.1 (e8 n p).2.2.2.2.1 (e8 n p).2.2.2.2.2.1 (e8 n p).2.2.2.2.2.2.1 (e8 n p).2.2.2.2.2.2.2):∀x1 x2 x3 x4 x5 x6 x7 x8,p x1 x2 x3 x4 x5 x6 x7 x8:=fun x1 x2 x3 x4 x5 x6 x7 x8=>Classical.byContradiction fun q=>eps1 (p:=fun t:α1×α2×α3×α4×α5×α6×α7×α8=>¬p t.1 t.2.1 t.2.2.1 t.2.2.2.1 t.2.2.2.2.1 t.2.2.2.2.2.1 t.2.2.2.2.2.2.1 t.2.2.2.2.2.2.2) ⟨(x1,x2,x3,x4,x5,x6,x7,x8),q⟩ h
noncomputable def e9 {α1 α2 α3 α4 α5 α6 α7 α8 α9:Type} (n:Nonempty (α1×α2×α3×α4×α5×α6×α7×α8×α9)) (p:α1->α2->α3->α4->α5->α6->α7->α8->α9->Prop):α1×α2×α3×α4×α5×α6×α7×α8×α9:=ep1 n fun t=>¬p t.1 t.2.1 t.2.2.1 t.2.2.2.1 t.2.2.2.2.1 t.2.2.2.2.2.1 t.2.2.2.2.2.2.1 t.2.2.2.2.2.2.2.1 t.2.2.2.2.2.2.2.2
theorem ei9 {α1 α2 α3 α4 α5 α6 α7 α8 α9:Type} [n:Nonempty (α1×α2×α3×α4×α5×α6×α7×α8×α9)] {p:α1->α2->α3->α4->α5->α6->α7->α8->α9->Prop} (h:p (e9 n p).1 (e9 n p).2.1 (e9 n p).2.2.1 (e9 n p).2.2.2.1 (e9 n p).2.2.2.2.1 (e9 n p).2.2.2.2.2.1 (e9 n p).2.2.2.2.2.2.1 (e9 n p).2.2.2.2.2.2.2.1 (e9 n p).2.2.2.2.2.2.2.2):∀x1 x2 x3 x4 x5 x6 x7 x8 x9,p x1 x2 x3 x4 x5 x6 x7 x8 x9:=fun x1 x2 x3 x4 x5 x6 x7 x8 x9=>Classical.byContradiction fun q=>eps1 (p:=fun t:α1×α2×α3×α4×α5×α6×α7×α8×α9=>¬p t.1 t.2.1 t.2.2.1 t.2.2.2.1 t.2.2.2.2.1 t.2.2.2.2.2.1 t.2.2.2.2.2.2.1 t.2.2.2.2.2.2.2.1 t.2.2.2.2.2.2.2.2) ⟨(x1,x2,x3,x4,x5,x6,x7,x8,x9),q⟩ h
noncomputable def e10 {α1 α2 α3 α4 α5 α6 α7 α8 α9 α10:Type} (n:Nonempty (α1×α2×α3×α4×α5×α6×α7×α8×α9×α10)) (p:α1->α2->α3->α4->α5->α6->α7->α8->α9->α10->Prop):α1×α2×α3×α4×α5×α6×α7×α8×α9×α10:=ep1 n fun t=>¬p t.1 t.2.1 t.2.2.1 t.2.2.2.1 t.2.2.2.2.1 t.2.2.2.2.2.1 t.2.2.2.2.2.2.1 t.2.2.2.2.2.2.2.1 t.2.2.2.2.2.2.2.2.1 t.2.2.2.2.2.2.2.2.2
theorem ei10 {α1 α2 α3 α4 α5 α6 α7 α8 α9 α10:Type} [n:Nonempty (α1×α2×α3×α4×α5×α6×α7×α8×α9×α10)] {p:α1->α2->α3->α4->α5->α6->α7->α8->α9->α10->Prop} (h:p (e10 n p).1 (e10 n p).2.1 (e10 n p).2.2.1 (e10 n p).2.2.2.1 (e10 n p).2.2.2.2.1 (e10 n p).2.2.2.2.2.1 (e10 n p).2.2.2.2.2.2.1 (e10 n p).2.2.2.2.2.2.2.1 (e10 n p).2.2.2.2.2.2.2.2.1 (e10 n p).2.2.2.2.2.2.2.2.2):∀x1 x2 x3 x4 x5 x6 x7 x8 x9 x10,p x1 x2 x3 x4 x5 x6 x7 x8 x9 x10:=fun x1 x2 x3 x4 x5 x6 x7 x8 x9 x10=>Classical.byContradiction fun q=>eps1 (p:=fun t:α1×α2×α3×α4×α5×α6×α7×α8×α9×α10=>¬p t.1 t.2.1 t.2.2.1 t.2.2.2.1 t.2.2.2.2.1 t.2.2.2.2.2.1 t.2.2.2.2.2.2.1 t.2.2.2.2.2.2.2.1 t.2.2.2.2.2.2.2.2.1 t.2.2.2.2.2.2.2.2.2) ⟨(x1,x2,x3,x4,x5,x6,x7,x8,x9,x10),q⟩ h
open Lean
def kqN (s:String):Name:=if s == "N" then `null else if s.startsWith "T." then `Lean.Parser.Tactic++(s.drop 2).toName else if s.startsWith "E." then `Lean.Parser.Term++(s.drop 2).toName else s.toName
def kq (s:String) (a:List Syntax):Syntax :=
 let push (st:List (Name×Array Syntax)) (x:Syntax):=match st with | (n,b)::r=>(n,b.push x)::r | []=>[(`null,#[x])]
 let st:=(s.splitOn " ").foldl (init:=[(`null,#[])]) fun st w =>
  let c:=w.front
  if c == '(' then (kqN (w.drop 1).toString,#[])::st
  else if c == ')' then (match st with | (n,b)::r=>push r (mkNode n b) | []=>[])
  else if c == '"' then push st (mkAtom (w.drop 1).toString)
  else if c == '$' then push st (a.getD (w.drop 1).toNat! .missing)
  else if c == '@' then (match st with | (n,b)::r=>(n,b++(a.getD (w.drop 1).toNat! .missing).getArgs)::r | []=>[])
  else push st (mkIdent w.toName)
 match st with | (_,b)::_=>b.getD 0 .missing | []=>.missing
def kqL (l:List Syntax):Syntax:=mkNode `null l.toArray
def kqs (l:List Syntax):Syntax:=kq "(T.paren \"( (T.tacticSeq (T.tacticSeq1Indented $0 ) ) \") )" [kqL (l.intersperse (mkAtom ";"))]
def kqf (l:List Syntax):Syntax:=kq "(T.first \"first $0 )" [kqL (l.map fun t=>kq "(group \"| (T.tacticSeq (T.tacticSeq1Indented (N $0 ) ) ) )" [t])]
def kqg (h:Option Syntax) (t x:Syntax):Syntax :=
 kq "(T.generalize \"generalize (N (T.generalizeArg (N ) $0 \"= $1 ) ) $2 )" [t,x,match h with | some h=>kq "(N (T.location \"at (T.locationHyp (N $0 ) ) ) )" [h] | none=>kqL []]
def kcgen (f:String) (xs:List Syntax) (h:Option Syntax):MacroM (List Syntax):=do
 let n:=xs.length
 let e:=kq ("(E.app "++f++" (N (E.hole \"_ ) (E.hole \"_ ) ) )") []
 match xs with
 | [x]=>pure [kqg h e x]
 | _ =>
  let y:=mkIdent (<- Macro.addMacroScope `t)
  let p (k:Nat):Syntax :=
   let t:=(List.range k).foldl (fun t _=>kq "(E.app Prod.snd (N $0 ) )" [t]) y
   if k+1 < n then kq "(E.app Prod.fst (N $0 ) )" [t] else t
  pure (kqg h e y::(xs.zipIdx.map fun (x,k)=>kqg h (p k) x)++[kq "(T.clear \"clear (N $0 ) )" [y]])
def kqr (i:Syntax):Syntax:=kq "(T.refine \"refine (E.noImplicitLambda \"no_implicit_lambda% $0 ) )" [i]
def kqw (t:Syntax):Syntax:=kq "(T.withReducibleAndInstances \"with_reducible_and_instances (T.tacticSeq (T.tacticSeq1Indented (N $0 ) ) ) )" [t]
def kci (k:Nat) (xs:List Syntax):MacroM (List Syntax):=do
 pure (kqw (kqr (kq ("(E.app Mini.ei"++toString k++" (N (E.syntheticHole \"? \"_ ) ) )") []))::(<- kcgen ("Mini.e"++toString k) (xs.take k) none))
def kcs (xs:List Syntax):List Syntax:=if xs.isEmpty then [] else [kq "(T.intros \"intros $0 )" [kqL xs]]
def kqh (s:String):Syntax:=kq ("(T.set_option \"set_option tactic.hygienic (N ) \"false \"in (T.tacticSeq (T.tacticSeq1Indented (N (T."++s++" \""++s++" (N ) ) ) ) ) )") []
def kcin (xs:List Syntax):MacroM Syntax:=do
 if xs.isEmpty then Macro.throwUnsupported
 let z:=(xs.headD .missing).getId == `zE
 let pre:=if z || (xs.headD .missing).getId == `zF then xs.take 1 else []
 let xs:=if pre.isEmpty then xs else xs.drop 1
 let rest (k:Nat):List Syntax:=if k < xs.length then kcs (pre++xs.drop k) else []
 if z&&!(xs.headD .missing).isIdent then return kqs (kqh "intro"::rest 1)
 if z&&(xs.headD .missing).getId == `zI then return kqh "intros"
 let n:=min 10 (xs.takeWhile fun x=>x.isIdent&&x.getId != `zI).length
 let l <- ((List.range n).map (n - ·)).mapM fun k=>do pure (kqs ((<- kci k xs)++rest k))
 let fn (ys:List Syntax):Syntax:=kqr (kq "(E.fun \"fun (E.basicFun $0 (N ) \"=> (E.syntheticHole \"? \"_ ) ) )" [kqL ys])
 let f:=if pre.isEmpty then fn xs::kq "(T.revert \"revert $0 )" [kqL xs]::kcs (mkIdent `zF::xs) else fn (xs.take 1)::rest 1
 pure (kqf (l++[kqs f]))
def kcrv (xs:List Syntax):MacroM Syntax:=do
 if xs.isEmpty then Macro.throwUnsupported
 pure (kqs (kq "(T.revert \"revert $0 )" [kqL (xs.filter fun x=>x.isIdent&&x.getId != `zI)]::kcs (mkIdent `zE::xs)))
def kpats (p:Syntax):Option (List Syntax) :=
 if p.getKind == `Lean.Parser.Tactic.rcasesPat.tuple then
  (((p.getArg 1).getArgs.toList.zipIdx.filter fun q=>q.2 % 2 == 0).map (·.1)).mapM fun l =>
   if (l.getArg 1).getNumArgs == 0&&((l.getArg 0).getArg 0).getNumArgs == 1 then some (((l.getArg 0).getArg 0).getArg 0) else none
 else none
def kpt (l:List Syntax):Syntax :=
 kq "(T.rcasesPat.tuple \"⟨ $0 \"⟩ )" [kqL ((l.map fun p=>kq "(T.rcasesPatLo (T.rcasesPatMed (N $0 ) ) (N ) )" [p]).intersperse (mkAtom ","))]
def krc (e p:Syntax):Syntax:=kq "(T.rcases \"rcases (N (T.elimTarget (N ) $0 ) ) (N \"with (T.rcasesPatLo (T.rcasesPatMed (N $1 ) ) (N ) ) ) )" [e,p]
def kob1 (h e:Syntax):Syntax:=kq "(T.obtain \"obtain (N (T.rcasesPatMed (N (T.rcasesPat.one $0 ) ) ) ) (N ) (N \":= (N $1 ) ) )" [h,e]
def kfis (t:Syntax):Syntax:=kq "(T.failIfSuccess \"fail_if_success (T.tacticSeq (T.tacticSeq1Indented (N $0 ) ) ) )" [t]
def ktry (e:Syntax):Syntax:=kqs [kfis (kqs [kfis (kq "(T.tacticHave__ \"have (E.letConfig (N ) ) (E.letDecl (E.letIdDecl (E.letId zE ) (N ) (N ) \":= $0 ) ) )" [e])])]
def kap (f:String) (e:Syntax):Syntax:=kq ("(E.app "++f++" (N $0 ) )") [e]
def kobP (p e:Syntax):List Syntax :=
 let k:=p.getKind
 if k == `Lean.Parser.Tactic.rcasesPat.one then
  if (p.getArg 0).getId == `rfl then [krc e p] else if p.getArg 0 == e then [] else [kob1 (p.getArg 0) e]
 else if k == `Lean.Parser.Tactic.rcasesPat.ignore then []
 else match kpats p with
 | none=>[krc e p]
 | some [q]=>kobP1 q e
 | some _=>[kq "(T.obtain \"obtain (N (T.rcasesPatMed (N $0 ) ) ) (N ) (N \":= (N $1 ) ) )" [p,e]]
where kobP1 (q e:Syntax):List Syntax:=[kq "(T.obtain \"obtain (N (T.rcasesPatMed (N $0 ) ) ) (N ) (N \":= (N $1 ) ) )" [kpt [q],e]]
def kobT (qs:List Syntax) (e:Syntax):MacroM (List Syntax):=do
 match qs with
 | []=>pure [krc e (kpt [])]
 | [q]=>pure (kobP q e)
 | q::r=>do
  let h:Syntax:=mkIdent (<- Macro.addMacroScope `h)
  let l <- ((List.range (min 4 r.length)).map (min 4 r.length - ·)).mapM fun k=>do
   let mut xs:List Syntax:=[]
   let mut ts:List Syntax:=[]
   for q in qs.take k do
    if q.getKind == `Lean.Parser.Tactic.rcasesPat.one&&(q.getArg 0).getId != `rfl then xs:=xs++[q.getArg 0]
    else
     let y:=mkIdent (<- Macro.addMacroScope (.num `y xs.length))
     xs:=xs++[y.raw];ts:=ts++kobP q y
   let i:=kap ("Mini.eps"++toString k) e
   let h:=match qs.drop k with | [q]=>if q.getKind == `Lean.Parser.Tactic.rcasesPat.one&&(q.getArg 0).getId != `rfl then q.getArg 0 else h | _=>h
   pure (kqs (ktry i::kob1 h i::(<- kcgen ("Mini.ep"++toString k) xs (some h))++ts++kobP (if k+1=qs.length then (qs.drop k).headD .missing else kpt (qs.drop k)) h))
  let c:=kqs (ktry (kap "And.left" e)::kobP q (kap "And.left" e)++kobP (if r.length=1 then r.headD .missing else kpt r) (kap "And.right" e))
  let ids:=qs.all fun q=>q.getKind == `Lean.Parser.Tactic.rcasesPat.one&&(q.getArg 0).getId != `rfl
  pure [kqf (l++[c]++(if ids then [kqs (krc e (kpt qs)::[kq "(T.injections \"injections $0 )" [kqL (qs.map (·.getArg 0)++[(mkIdent `zI).raw])]])] else [])++[krc e (kpt qs)])]
def kobM (s:Syntax):MacroM Syntax:=do
 let p:=((s.getArg 1).getArg 0).getArg 0
 if p.getNumArgs != 1 then Macro.throwUnsupported
 let p:=p.getArg 0
 let e:=((s.getArg 3).getArg 1).getArg 0
 if (s.getArg 2).getNumArgs > 0 || (s.getArg 3).getNumArgs == 0 || ((s.getArg 3).getArg 1).getNumArgs != 1 then Macro.throwUnsupported
 match kpats p with
 | none=>Macro.throwUnsupported
 | some qs =>
  if e.isIdent then pure (kqs (<- kobT qs e)) else
  let h:=mkIdent (<- Macro.addMacroScope `h)
  pure (kqs [kob1 h e,kq "(T.obtain \"obtain (N (T.rcasesPatMed (N $0 ) ) ) (N ) (N \":= (N $1 ) ) )" [p,h]])
def krp (h:Syntax):Syntax:=kq "(T.tacticTry_ \"try (T.tacticSeq (T.tacticSeq1Indented (N (T.replace \"replace (E.letDecl (E.letIdDecl (E.letId $0 ) (N ) (N ) \":= $0 ) ) ) ) ) ) )" [h]
def krf:Syntax:=kq "(T.tacticTry_ \"try (T.tacticSeq (T.tacticSeq1Indented (N (T.withReducible \"with_reducible (T.tacticSeq (T.tacticSeq1Indented (N (T.tacticRfl \"rfl ) ) ) ) ) ) ) ) )" []
def khas (t:Syntax) (k:Name):Bool:=(t.find? fun x=>x.getKind == k).isSome
def krl (r:Syntax):Syntax :=
 let t:=r.getArg 1
 let w:=kq "(T.rewriteSeq \"rewrite (T.optConfig (N ) ) (T.rwRuleSeq \"[ (N $0 ) \"] ) (N ) )" [r]
 if khas t `Lean.Parser.Term.syntheticHole || khas t `Lean.Parser.Term.byTactic || khas t `Lean.Parser.Term.anonymousCtor then w else
 let b:=khas t `Lean.Parser.Term.byTactic'
 let d:=kq "(E.ellipsis \".. )" []
 let t:Syntax:=if b then t else if t.getKind == `Lean.Parser.Term.app then mkNode `Lean.Parser.Term.app #[t.getArg 0,mkNode `null ((t.getArg 1).getArgs.push d)] else kq "(E.app $0 (N $1 ) )" [t,d]
 let t:Syntax:=if b then t else kq "(E.typeAscription (E.hygienicLParen \"( (hygieneInfo $1 ) ) $0 \": (N ) \") )" [t,mkIdent .anonymous]
 let t:Syntax:=if (r.getArg 0).getNumArgs == 0 then t else kq "(E.app Eq.symm (N $0 ) )" [t]
 let f:=kq "(T.refine \"refine (E.app Eq.substr (N $0 (E.syntheticHole \"? \"_ ) ) ) )" [t]
 kqf [if b then f else kqw f,w]
def kshM (s:Syntax):MacroM Syntax:=pure (kqr (kq "(E.typeAscription (E.hygienicLParen \"( (hygieneInfo $1 ) ) (E.syntheticHole \"? \"_ ) \": (N $0 ) \") )" [s.getArg 1,mkIdent .anonymous]))
def kat (l:Syntax):MacroM Syntax:=do
 let h:=((l.getArg 0).getArg 1).getArg 0
 if h.getNumArgs == 1&&(h.getArg 0).isIdent then pure (h.getArg 0) else Macro.throwUnsupported
def krwM (s:Syntax):MacroM Syntax:=do
 let l:=s.getArg 3
 if ((s.getArg 1).getArg 0).getNumArgs > 0 then Macro.throwUnsupported
 let rs:=(s.getArg 2).getArg 1
 if l.getNumArgs == 0 then pure (kqs (((rs.getArgs.toList.zipIdx.filter fun q=>q.2 % 2 == 0).map fun q=>krl q.1)++[krf]))
 else pure (kqs [kq "(T.rewriteSeq \"rewrite (T.optConfig (N ) ) (T.rwRuleSeq \"[ $0 \"] ) $1 )" [rs,l],krf,krp (<- kat l)])
def ksiM (s:Syntax):MacroM Syntax:=do
 let h <- kat (s.getArg 5)
 pure (kqs [s.setArg 5 (kq "(N (T.location \"at (T.locationHyp (N (E.explicit \"@ $0 ) ) ) ) )" [h]),krp h])
end Mini
end
local macro_rules (kind:=Lean.Parser.Tactic.rwSeq) | s=>Mini.krwM s
local macro_rules (kind:=Lean.Parser.Tactic.simp) | s=>Mini.ksiM s
local macro_rules (kind:=Lean.Parser.Tactic.show) | s=>Mini.kshM s
local macro_rules (kind:=Lean.Parser.Tactic.intros) | s=>Mini.kcin (s.getArg 1).getArgs.toList
local macro_rules (kind:=Lean.Parser.Tactic.injections) | s=>Mini.kcrv (s.getArg 1).getArgs.toList
local macro_rules (kind:=Lean.Parser.Tactic.obtain) | s=>Mini.kobM s
section
open Lean
namespace Mini
def kmuT:Array String:=("XL Xt XP Yf Ya YP X1 Zm QS wpAny_bind rfl some List s.heap.objs.size Mini.St wpAny_pure none Nat Value false List.length_map PyData.keyHash true if_neg σ.nx Nat.lt_of_lt_of_le ref trans σ.hp List.getElem?_map Val s.heap Option List.getElem?_eq_some_iff.mp if_pos Shared Heap.get?_push_of_some Str.ofString s.heap.get? builtin List.mem_singleton.mp Expr List.getElem?_eq_getElem Nat.le_refl model Bool.false_ne_true type Params int xs.length env.locals wpAny Addr Unicode.isSpace list List.map_append Bool scope σ.alloc Comprehension h.elim Nat.le_trans Heap.lt_size env Option.some.inj Heap.get?_push_size Int σ'.hp List.range Nat.le_of_lt Str Bool.and_eq_true sizeLine_eq Array.getD_eq_getD_getElem? String kernel prog absurd List.mem_of_getElem? σ' Builtin.Range.rangeSize pos c.prog Obj.data_mapFields s.heap.push Lab.push_ext Nat.lt_irrefl Array Nat.zero_le A.length Heap.get?_update_self List.mem_cons.mp Bool.false_eq_true List.map_cons List.size_toArray Heap.SameBut.update decide s2.heap.objs.size wpAny_holding sizeLine args SetTable.below toArray builtinLookup_eq_fast List.length_cons σ'.nx Λ.n List.mem_singleton Sim.flat wpAny_newObj_type decide_eq_true_eq B.length List.length_take fields PySem.Challenge.rw_dm0061_01 items Λ.f str Nat.lt_succ_self Nat.ne_of_lt vs.toArray cons σ.loc List.length_append w.alo w.blo SetTable wpAny_call_entry List.mem_append.mp kvs s.toks motive Nat.ne_of_gt List.length_range σ'.loc Nat.le_of_ble_eq_true data σ1.nx next Int.ofNat_le.mpr of_decide_eq_true typeLookup_type t.size Or.inr wpAny_callSpecial?_slot qs.map tuple Sim.bind heap List.drop_eq_getElem_cons PySem.Challenge.pw_dm0061_01 Nat.not_lt_zero Int.ofNat_lt.mpr objs.size GroH cell Nat.not_lt.mpr cal isSubtype_type List.map_map Val.ref Unit Stmt wpAny_mono e1.trans body Obj.isFreed_of_fields Key items.length List.getElem?_range Nat.min_eq_left decide_eq_false Int.ofNat_lt.mp False beq_eq_false_iff_ne.mpr Ans.step ok.ext Option.map_eq_some_iff.mp bool Int.natCast_nonneg kvs.length Way.slotAt Heap.get?_update_other Sre.M.runFor σ.upd decide_eq_true wpAny_seqItems wpAny_setField List.mem_map.mp σ2.hp beq_iff_eq.mp List.lookup_cons items.size se.add congrArg Λ.push es.size h'.get? Heap.SameBut Bool.not_eq_true' Int.toNat_natCast ListComp Obj e.ctorIdx a.length l.length Sim.holding fm.sc.names.lookup beq_iff_eq of_decide_eq_false Looks closureTuple trivial hc.inK.keeps Heap length s₁.heap.objs.size t.place DictEntry pure codeAny_builtin ForInStep.yield σ1.loc Obj.mapSeq List.getElem?_take Λ' annotations head List.mem_iff_getElem.mp Sim.pure if_false ps.length a2.length wpAny_of_eq Around.under_plainId F.length nil rawInt Sim.of fm.sc Tuple Sim List.sum_cons default Nat.lt_of_succ_lt_succ List.length_eq_zero_iff.mp Value.none isInstance List.take_add_one Or.inl σ2.nx Array.length_toList dict h.get? Array.getElem?_eq_getElem PySem.F.plain_extend_loop List.length_singleton List.pairwise_cons.mp List.length_replicate kwdefaults Λ.Ext Int.ofNat_inj.mp Nat.min_le_right Sim.stand List.mem_map.mpr List.getElem_mem w.bhi grown r.gkeep Sre.M.attempt Scope Nat.le_succ w.params gens call w.ahi g'.hp toks vs.length List.flatMap_cons List.append_assoc getMethod_builtin Obj.cls_mapFields List.reverse_cons g.eup wpAny_rule hA.handled List.rec qualname Builtin.Range.small onIf.el h'.objs.size p.getD Nat.add_zero Builtin.Re.reTurnSteps σ3.nx String.ofList wpAny_standAt Heap.ExtBut wpAny_field depth Looks.of_peek code compareOp List.take_length PySem.W.Fast.tw4202317264376624991 r.listsV Heap.size_push Name pos.line List.replicate Nat.eq_of_beq_eq_true Key.val Val.int fd.scope.names.lookup ps.map typeOf Classical.byContradiction List.find?_cons sc.names.lookup List.forIn_cons Frag Value.isInt_shape Nat.zero_add Int.sub_nonneg_of_le SetTable.below.go Nat.lt_trans Nat.le_of_lt_succ s.drawn refl w.params.setOrder codeAny Expr.casesOn scope.names fd.scope decide_eq_decide.mpr σ3.loc False.elim h₁ Obj.mapFields setIfInBounds Builtin.List.listSameRef x.cps.size idict Ai.el toNat g.hp List.all_eq_true.mp Bool.and_eq_true_iff.mp defaults pyModule builtins self Int.ofNat v.length List.length_drop Value.ref VR.new Looks.ld List.filter_cons wpAny_askSetting s₁ SetTable.grown checkBoundCall specialOf target Attribute B.take Array.getElem?_eq_some_iff.mp zero succ name Nat.le_of_eq o.data fm.cl.lookup List.size_toArray.symm t.place.size Array.getElem?_eq_none wpAny_call Code.quiet_builtin looks_findIn s2.heap.push σ1.hp Nonempty List.pairwise_iff_getElem.mp Bool.or_eq_true codeAny_of_tree List.getElem?_eq_none_iff.mp wpAny_updateSeq g.sup plainId_quiet Bool.false_or Subscript ns.length s.heap.IsList l.toArray Nat.add_assoc assign List.getElem?_eq_none fm.cd fm.tb Nat.lt_succ_of_lt Builtin.List.listExtendWith env' Int.le_refl xq01 hlen codeAny_call_builtin Value.type firstArgMember items.drop NameKind List.forIn_nil Builtin.Tuple.tupleItemsOf t.getD GroH.trans q.elim Mini.St.hp globals closure elim Nat.le_add_right kvs.map eval andThen entryFor_of_tree Way.first PySem.Fin wpAny_isInstance ts.length names.length Ad.el GoodT Around Value.isStrOf_shape Int.toNat_of_nonneg list_getitem_lookup slot_tupleiter_next List.mem_append.mpr Nat.add_lt_add_left List.length_reverse symm tail c.g.get? drawn function r.ob starEach Looks.of_pure es.toList.map es1.size Builtin.Frozenset.addrOf wpAny_attempt stay g.target Program List.range_succ List.append_nil σ5.loc Mine.longS Option.rec sysModules c.Ok List.find?_eq_none Nat.pos_of_ne_zero typeLookup pyNext hit.typeIs vs.reverse List.getElem?_drop slot_listiter_next Builtin.Re.reRawOf Nat.lt_of_le_of_lt List.map_singleton mainGlobals PySem.F.plainAttrs_list PySem.F.plainAttrs_dict g2.hp r.nn PySem.W.S.bytesOf wpAny_truthy_bool List.pairwise_lt_range R.above knd.is Option.map_eq_none_iff knd.hash entryFor entryFor_alias Array.toList_push Nat.lt_or_ge r₁.growOwn s'.drawn Nat.lt_of_succ_lt s'.heap.get? step b.length Nat.lt_trichotomy σ2.loc g3.hp Ob.tuple True R.nn Af.mk Array.getElem?_toList names List.length_filter_le Nat.add_lt_of_lt_sub' params Nat.min_eq_right Nat.succ_le_succ scanBound R.keep seqIndex? List.any_eq_true argsOk acc.toList Manifest.toldItsClass.contains LT.andThen IsTupIter A.handled List.drop_length pure_bind ns.map qs.length ws.length σ5.nx Option.getD_some valueAt s.heap.DictOf Bool.not_true Value.builtin s'.heap names.reverse plain keep Λ'.f W.listOf motive_1 callSpecialIfBoundUnlessNone? Constant args.length acc.size Sre.accepts Char getD PySem.F.slot_dict_setdefault pyIter scope.names.all Array.size_push rs.map σ3.hp flist Af.el Nat.add_le_add_left o.cls above EnvOk Λ₄ σ₄ Sre.M g'.nx hkey List.map_nil done callSpecial? ts.filterMap g'.iter pos.col Builtin.List.listLengthHint Int.lt_trans Arguments Value.int pickOrder r.size_fz cellsFrom A.in1.in1 Sre.Frame Nat.succ Mine.ofC inst Int.not_lt.mpr R.base R.lne σ.set List.Perm.cons List.length_eraseIdx_of_lt Builtin.Frozenset.oneOther hor' s.TypeIs e₁.trans r.size_lab List.map recursionLimit hA.depth List.getD_eq_getElem?_getD List.filter_append L.Pairwise Mini.mrg List.getElem?_append_right sliceRange_one σ'' List.getElem?_eq_none_iff PySem.F.slot_dict_delitem Builtin.SmallTypes.nextOf PySem.F.entry_extend_loop List.getElem?_append_left stmts xs.size List.getElem_drop List.getElem_take SetTable.probe.go cvs.map R.fzl Keeper.boundFrame if_true List.nodup_append SetAt Heap.SameBut.refl looks_subIn items.toList.drop Λ₁ s.heap.IsListIter wpAny_pyIter_slot local Nat.le_succ_of_le reverse σ''.nx σ''.hp sliceBounds_plain PySem.KeyKind PySem.strKind Nat.not_le.mp Int.lt_iff_le_and_ne.mpr Int.not_lt.mp R.ob R.gens push r.grow wpAny_getItem_list_slice List.any_cons foldedForSure g.iter behindInMarks Builtin.Tuple.tupleExact seqObj s.heap.update List.mem_iff_getElem?.mp ms.map PySem.W.S.allLow World es.toList R.fzL R.low hko.trans Operator checkBuiltinCall isSubtype r.dictsV e₁ hdrop Λ1.push env.qual codeAny_call_builtin_at M.typeIs PySem.F.plain_list_iadd PySem.F.plain_tuple_new Nat.le_of_not_lt L.length List.getElem?_cons_succ Int.add_zero o.ExactSet builtinsNs env.kindOf xq02 Or.elim wpAny_getItem_list_neg cvs.length List.getElem_cons_succ PySem.F.entry_dict_get meets_dict_get_default setdefault PySem.F.slot_dict_keys tt.andThen on1.el check_slot items.toList List.take_of_length_le List.toArray g.is_async Assign accv e₂.trans MapAt.typeIs Builtin.List.listTouch xs.drop Sre.category attempt List.filter_eq_nil_iff Nat.sub_self List.drop_eq_nil_of_le Nat.eq_zero_of_not_pos A.take range Nat.min_le_left R.inj a2.length.trans List.find?_some wpAny_specialOf letOwnedTupleGo σ₁ wpAny_execs_nil Nat.le_add_left ne_of_beq_false vals fuel List.mem_append_right List.Perm.append_left PySem.F.plain_set_new PySem.F.slot_dict_get PySem.F.slot_set_iter codeAny_call_function seen Builtin.Re.reRunToEnd g.nx isTrue Bool.rec Mine.quickS_eq func DecidableEq Int.one_mul Int.add_le_add r.length Int.not_le.mpr Nat.sub_lt_sub_right owner env.globals env.scope.kind Bool.false_and DatAll hA.units backTo Keeper.machine hx.ext append Obj.data_mapDictKeys Nat.le_zero.mp PySem.F.slot_set_add error wpAny_tryCatch entry_tupleiter_next isSubtype_stop Result hd₁ r.size_L wpAny_pyIter_keyiter wpAny_fieldsOf constantsAlone Bool.not_false FnIs Option.elim List.mem_of_mem_drop wpAny_newFunctionEnv hc.top.nolimit.keeps items.toList.toArray g.lt us.Pairwise vs.toArray.zip hkeep Nat.add_le_add_right l.toArray.getD outcome.isSome Key.s Nat.add_le_add fd.scope.names g3.loc g2.nx g4.hp Nat.beq Nat.rec A.units kvs.find? hD.typeIs Way.items t.plain getMethod Compare gens.drop h'.push hA.deeper PySem.W.Fast.strDec Int.negSucc_lt_zero Nat.sub_le_sub_left base List.filterMap_cons builtinType_eq_fast bindSpecialIfBound? args_tupleiter_next List.take_succ_cons e₄ List.flatMap_append Room entry_listiter_next callSpecialIfBound? Builtin.Re.reTarget List.map_congr_left liter k.val As.el R.nsm PySem.operate x.cps value A.in1 wpAny_handled A.in1.handled fm.cl alloc swapsWithSole swappedStores resolve_right es.toList.any A.map B.map g3.nx Int.lt_of_le_of_lt Int.add_sub_cancel List.pairwise_cons Option.map es.flatMap r.toks Sim.newObj r.push Env.kindOf filter wpAny_getItem_list Heap.IsList.typeIs Heap.IsSliceOf.new decide_eq_true_iff Heap.dictOf_iff.mp turn r₅ r.base drop Λ₁.push scope.kind scope.names.lookup qual xs.zip args_listiter_next List.forIn_toArray Nat.sub_add_cancel hins List.map_replicate List.mem_cons_self readsAllW_cons_inv vs.map σ5.hp b.toNat Nat.lt_succ_of_le bmeth As.mk T.rec Nat.succ_add Int.add_comm Int.sub_self relayAll xs.Nodup DatIn x.length wpAny_truthy_list r1.push rest K.lookup Keeper.frame call_meetsIn table pickOrder.go acc.push wpAny_setState_of wpAny_storeSet_of fits_of_scanBound codeAny_mono Bool.true_or getAttr newTuple raiseNew hs₁.extBut wpAny_pyIter_list s'.toks foldedSetIterable fd.code bind compLoop hacc.ext callAny.viaDunder MapAt Nat.lt_asymm pos' Ans.mono Sre.forMatch toArray.size readsAllW_nil_inv g.loc List.pairwise_map g5.hp Val.str ws.take as.toList.length Str.empty cs.length clipAt Int.max_eq_right Nat.pred_le_pred h.standIn isSome s.heap.Ns env.cells.lookup r.flistsV r.tuplesV slicePick hv.ext hthere List.isEmpty_nil es.length OR.ofDict TypeIs K.In s₃ cont s₄ s₁.toks hK.length onCons Call cl.lookup args.kw_defaults hv.length xs.map dv.map compStart And.intro List.flatMap_nil emptyDict KRun ls.map outermost m.outcome.isSome Win.cells a.toArray b.toArray hB.inside ms.length hl1' List.getElem_map C.take ls.length DVs.trips List.not_mem_nil UInt8.toNat Bi.el Int.neg_mul Int.mul_one Sim.operate sliceBounds Slice again builtinKind wpAny_throw W.fzo g.ifs wpAny_letGo hideAll_get List.mem_filter get? theTreesLotGoes h₃ List.nodup_cons as.toArray.size arm_exec_Assign hacc List.of_mem_zip p.toList.length Nat.max_eq_left get?_update_seq mono here es.toList.find? e.trans machine plainId notedBy targets acc.map relabel h1.bind Sre.run w.cells Dat.int PySem.W.R.anyR Mini.xSD subclasses collection loose row.toRowW keysv truthOfDropped Int.add_nonneg layNew owner.getD tabObj R.ns co.isFreed ok.sc ok.cells g.get? r.dats isNone ps.isEmpty evalArgs_plain frame stored dictSetDefault knd.pyHash Nat.mod_lt Bool.and_false Obj.putSet bind_assoc s₂ hdat on2.el newExc h₂ List.drop_zero extBut there W.done e₂ hd₅ s₁.drawn Walks.dictKeys Expr.Name.elim symm.trans methodCallForm Sim.last assignEach ts.map cl.map cenv hc.top.g.keeps hvs.length kindOf callType_codes g.ne' Sre.Loop Sre.Seen Sre.M.afterRun PUnit.unit List.take_succ ws.map e'.trans WRecords hmeas g6.hp σ4.nx C.length hx3' Value.isStrOf Int.add_assoc Nat.not_lt.mp Int.ofNat_sub SetTable.laid R.os Env.blockKind s.heap.IsCell subscriptTail List.all_cons ext2 text hmem key.scannable name.toString type_list_pop codeAny_loop' hasg hbod args.defaults assignInOrder env.blockKind hend Bool.or_false listUpdate_at List.cons.inj hvs.length_eq List.map_drop Mini.codeHdIn List.mem_cons slotNames Hook.says Λ'.n xs.toList t.advance r.upd filterMap And.right cLine Looks.now ext.trans h'.DictOf hmem1 fresh newFields handed_on r.nsm hk.length wpAny_ite List.take noteFrame W.noL hk₅ s₄.heap r.Llt b2.length AM.lookup AugAssign Λ1.n codeAmong h.handled ha.length cs.lookup Nodup seqItems? Array.map σ'.alloc m.outcome hf.inside List.cons s₁.heap mapo eqBool intKind Int.zero_add Int.mul_zero Int.zero_mul Nat.ble Nat.succ.inj Int.toNat_lt SetTable.has Obj.IsDictOf ElemsOf h2.ext hc.inK truthy hl.push es.map hp.length_eq setAddHashed s.heap.SetOf o.dict handedOut_of b.id slot_set_add type_set_add LI.here r.keep h.IsListIter hfz' Keyword k.symm.trans BoolOp vs.all σ'.upd Cn.list UnaryOp apos.endLine p1.elim r.above r'.keep s₅ lookup A.depth codeAny_func VRs.of_items cs.map kas_rev us.Perm us.map m.step op.data its.map hA.aok h.nx propext List.mem_map r.symm Int.le_trans g.same g.cells CQ.mrg hideAll_none e2.symm hJ.mono hne3 d0.fdiv g'.mono Int.ofNat_lt List.map_id' ds.map start Mine.quickS abstract Value.isInt Bh.mk Bh.el Int.add_mul Int.ble' Nat.mul_two Λ'' loadName h.objs.size binaryOp And.left IsNot r.mem l.filterMap subscripted keeperOf callWith_of es.findIdx? Slot toList.Perm es'.size wasDummy x.scannable hroom hperm e.key.isStr builtinType Meets.of_wp hself bindSpecial field extBut.push unpackItems execs wpAny_noted hJ₁ hP₂ r₂' IsRangeIter h.IsKeyIter r'.ob free codeHdIn interactive exec r.fz_unl FuncData forIn g'.is_async compTurn hP₄ ok.cd.trans Bind.madeBy contains hS₃ wpAny_mkInt VRs.of_refs seqEpoch_at hgo.keep giveBack turns G.gl GroX Grow.mrg List.lookup DVs.ints WData List.map_id sm.idict List.length hinv cps.size g1.hp G4.hp h.symm hplain KVR.of findIn hk.get hit₁ orelse e.symm r'.inj r'.fzl BR.zip BR.imm cellOf ns.sum update g.size σ4.hp x.fdiv l.map hasDict byValue Cp.el AJ.mk AJ.el Nat.blt i.toNat xs.getD empty ob.data standAt ok.gl NotEq CmpOp kvs.any without delItem r.instV VR.getD hg.elim splitId forLoop onRaise Λ₂ σ₂ W.there W.frame Λ₁.n xCall r2.view r2.nn hor.ext r1.nn s2.toks σ₃ h.units h.depth hitem LT.here Ne.symm h2.get? oc.data L.has hf.uniq hideAll sm.inst qs'.map".splitOn " ").toArray
def kmuC (c:Char):Nat:=if c.isDigit then c.toNat-48 else if c.isUpper then c.toNat-55 else c.toNat-61
def kmuX (t:Array String) (x:Syntax):Syntax :=
 match x with
 | .ident _ _ (.str .anonymous s) _ =>
  let l:=s.toList.map fun c=>(c,kmuC c)
  let f:="QXYZ".toList.idxOf (l.headD (' ',0)).1
  let i:=if l.length == 2 then f*62+(l.getD 1 (' ',0)).2 else if l.length == 3 then 248+(f*62+(l.getD 1 (' ',0)).2)*62+(l.getD 2 (' ',0)).2 else t.size
  if f < 4&&i < t.size&&s.all Char.isAlphanum then mkIdent (t.getD i "").toName else x.setInfo .none
 | _=>x.setInfo .none
def kmuM (s:Syntax):MacroM Syntax :=
 let cs:=(s.getArg 1).getArgs
 let t:=kmuT
 let isd (c:Syntax) (k:Name):Bool:=(c.getArg 1).getKind == `Lean.Parser.Command++k
 if cs.any fun c=>isd c `theorem then
  pure (mkNode `null (cs.map fun c =>
   let c:=c.rewriteBottomUp (kmuX t)
   if isd c `definition || isd c `abbrev then c.setArg 0 ((c.getArg 0).setArg 4 (mkNode `null #[mkNode `Lean.Parser.Command.noncomputable #[mkAtom "noncomputable"]])) else c))
 else Macro.throwUnsupported
end Mini
end
local macro_rules (kind:=Lean.Parser.Command.mutual) | s=>Mini.kmuM s
section
open PySem PySem.W PyProof.Rows
namespace Mine
mutual
def agb {α:Type} (as:XP α) (p:α->Qu) (QFT:QH:=0) (stop:QH:=as.size):Qu :=
 match Q8X QFT 0&&Q8X QAd stop with
 | QM=>QC6 as.toList p
 | QJ=>as.any p QFT stop
theorem anyL_eq:@Array.any.{0}=@agb:=by
 funext α as p QFT stop
 unfold agb
 cases h:Q8X QFT 0&&Q8X QAd stop with
 | QJ=>rfl
 | QM =>
  obtain (⟨h1,h2⟩):=Q1c h
  obtain QA:=Q11 h1
  obtain QA:as.size=stop:=Q11 h2
  show as.any p=QC6 as.toList p
  rw [<- PySem.W.R.anyR_eq,Array.any_toList]
def tbF (f:Builtin) (id:XC):QW Builtin:=match Q8j id "type.__new__" with
 | .Q7g _=>QB f
 | .isFalse _=>PySem.W.Fast.tw14364793385576792824 id
theorem tbF_eq:treeTable=tbF Q0v:=by
 funext id
 unfold tbF
 cases h:Q8j id "type.__new__" with
 | isFalse _=>exact congrFun PySem.W.Fast.te14364793385576792824 id
 | Q7g e =>
  subst e
  show treeTable "type.__new__"=QB Q0v
  rw [<- PySem.W.Fast.te4202317264376624991]
  kernel_rfl
def goS (l:QC UInt8):(QC QH->X8)->X8:=Q0d (Y7:=fun _=>(QC QH->X8)->X8) (fun k=>k [])
 (fun b _ ih k=>Q8Y (Y7:=fun _=>X8) (ih fun l=>k (0::l)) (fun m _=>ih fun l=>k (Q5J m::l)) Q9p) l
theorem JS:∀(l:QC UInt8) (k:QC QH->X8),goS l k=k (QH0 QBS)
 | [],_=>QA
 | b::l,k=>by
  show Q8Y (Y7:=fun _=>X8) (goS l fun l=>k (0::l)) (fun m _=>goS l fun l=>k (Q5J m::l)) Q9p=k (Q9p::QH0 QBS)
  cases h:Q9p with
  | Q1x=>exact JS l _
  | Q1y m=>exact JS l _
theorem KR:∀l:QC UInt8,Q6S l=QM->cpsOfBytes 0 0 l=QH0 QBS
 | [],_=>QA
 | b::l,h=>by
  rw [PySem.W.S.allLow_cons,X9]at h
  have:Q9p < 128:=Q9q (YB h.1)
  rw [cpsOfBytes,QY this,KR l h.2];rfl
def quickS (s:XC):X8:=Q7h (Y7:=fun _=>X8) (Qb s) (goS (Q3j s) fun l=>⟨⟨l⟩⟩) (Q6S (Q3j s))
theorem quickS_eq:@Qb=quickS:=by
 funext s
 unfold quickS
 cases h:Q6S (Q3j s) with
 | QJ=>rfl
 | QM =>
  show _=goS (Q3j s) fun l=>⟨⟨l⟩⟩
  rw [JS,<- KR _ h];rfl
def ofC (cs:QC Q4l):X8:=⟨⟨PySem.W.R.mapR Char.toNat cs⟩⟩
theorem longS {s:X8} {cs:QC Q4l} (h:s=Qb (Q0m cs)):s=ofC cs:=by
 rw [h,PySem.W.Fast.ofString_ofList,ofC,<- PySem.W.R.mapR_eq]
end
end Mine
end
section
open PySem
namespace Mini
noncomputable def xSE {α:Type} (s:Stmt) (f:Expr->α) (d:α):α:=by apply @Stmt.casesOn (fun _=>α) s;(case Expr=>exact fun e _=>f e);all_goals ((repeat intro a);exact d)
noncomputable def xSA {α:Type} (s:Stmt) (f:Expr->α) (d:α):α:=by apply @Stmt.casesOn (fun _=>α) s;(case Assign=>exact fun _ e _=>f e);all_goals ((repeat intro a);exact d)
noncomputable def xSF {α:Type} (s:Stmt) (f:List Stmt->α) (d:α):α:=by apply @Stmt.casesOn (fun _=>α) s;(case For=>exact fun _ _ b _ _=>f b);all_goals ((repeat intro a);exact d)
noncomputable def xSC {α:Type} (s:Stmt) (f:List Stmt->α) (d:α):α:=by apply @Stmt.casesOn (fun _=>α) s;(case ClassDef=>exact fun _ _ _ b _ _ _ _ _ _ _=>f b);all_goals ((repeat intro a);exact d)
noncomputable def xSD {α:Type} (s:Stmt) (f:Arguments->List Stmt->Scope->Pos->α) (d:α):α:=by apply @Stmt.casesOn (fun _=>α) s;(case FunctionDef=>exact fun _ a b _ _ _ s _ _ p=>f a b s p);all_goals ((repeat intro a);exact d)
noncomputable def xEK {α:Type} (e:Expr) (f:Const->α) (d:α):α:=by apply @Expr.casesOn (fun _=>α) e;(case Constant=>exact fun k _ _=>f k);all_goals ((repeat intro a);exact d)
noncomputable def xEL {α:Type} (e:Expr) (f:Pos->α) (d:α):α:=by apply @Expr.casesOn (fun _=>α) e;(case Lambda=>exact fun _ _ _ p=>f p);all_goals ((repeat intro a);exact d)
noncomputable def xKS {α:Type} (k:Const) (f:Str->α) (d:α):α:=by apply @Const.casesOn (fun _=>α) k;(case str=>exact f);all_goals ((repeat intro a);exact d)
end Mini
end
section
open PySem PySem.W PyProof.Rows
set_option maxRecDepth 100000
set_option maxHeartbeats 8000000
namespace Mine01
mutual
def stF (p:Q3L) (i:QH):Yc:=p.main.body.getD i Zv
def st (i:QH):Yc:=stF YQ i
def Pr (s:Yc):QC Yc:=Mini.xSC s (fun b=>b) []
def sub (s:Yc) (j:QH):Yc:=(Pr s).Q4m j Zv
def fnP (s:Yc):Q5C:=QC7 s (fun a _ _ _=>a) Zv
def fnB (s:Yc):QC Yc:=QC7 s (fun _ b _ _=>b) []
def fnS (s:Yc):Q0M:=QC7 s (fun _ _ s _=>s) Zv
def Bb (l:QC Yc):X8:=match l with
 | []=>QAe
 | s::_=>Mini.xSE s (fun e=>Mini.xEK e (fun k=>Mini.xKS k (fun s=>s) QAe) QAe) QAe
def dL1:X8:=Bb (Pr (st 6))
def dC1:QC Q4l:=by
 refine' (?f:∀p:QC Q4l,dL1=Qb (Q0m p)->QC Q4l) _ ?u
 case f=>exact fun p _=>p
 case u =>
  have e:dL1=Qb _:=QA
  exact e
def dN1:X8:=Q5K dC1
theorem dl1:dL1=dN1:=Q3P (by kernel_rfl)
def dL2:X8:=Bb (fnB (st 8))
def dC2:QC Q4l:=by
 refine' (?f:∀p:QC Q4l,dL2=Qb (Q0m p)->QC Q4l) _ ?u
 case f=>exact fun p _=>p
 case u =>
  have e:dL2=Qb _:=QA
  exact e
def dN2:X8:=Q5K dC2
theorem dl2:dL2=dN2:=Q3P (by kernel_rfl)
def dL3:X8:=Bb (fnB (sub (st 6) 1))
def dC3:QC Q4l:=by
 refine' (?f:∀p:QC Q4l,dL3=Qb (Q0m p)->QC Q4l) _ ?u
 case f=>exact fun p _=>p
 case u =>
  have e:dL3=Qb _:=QA
  exact e
def dN3:X8:=Q5K dC3
theorem dl3:dL3=dN3:=Q3P (by kernel_rfl)
def dL4:X8:=Bb (fnB (sub (st 6) 10))
def dC4:QC Q4l:=by
 refine' (?f:∀p:QC Q4l,dL4=Qb (Q0m p)->QC Q4l) _ ?u
 case f=>exact fun p _=>p
 case u =>
  have e:dL4=Qb _:=QA
  exact e
def dN4:X8:=Q5K dC4
theorem dl4:dL4=dN4:=Q3P (by kernel_rfl)
def dL5:X8:=Bb (fnB (sub (st 6) 3))
def dC5:QC Q4l:=by
 refine' (?f:∀p:QC Q4l,dL5=Qb (Q0m p)->QC Q4l) _ ?u
 case f=>exact fun p _=>p
 case u =>
  have e:dL5=Qb _:=QA
  exact e
def dN5:X8:=Q5K dC5
theorem dl5:dL5=dN5:=Q3P (by kernel_rfl)
def dL6:X8:=Bb (fnB (sub (st 6) 4))
def dC6:QC Q4l:=by
 refine' (?f:∀p:QC Q4l,dL6=Qb (Q0m p)->QC Q4l) _ ?u
 case f=>exact fun p _=>p
 case u =>
  have e:dL6=Qb _:=QA
  exact e
def dN6:X8:=Q5K dC6
theorem dl6:dL6=dN6:=Q3P (by kernel_rfl)
def dL7:X8:=Bb (fnB (sub (st 6) 6))
def dC7:QC Q4l:=by
 refine' (?f:∀p:QC Q4l,dL7=Qb (Q0m p)->QC Q4l) _ ?u
 case f=>exact fun p _=>p
 case u =>
  have e:dL7=Qb _:=QA
  exact e
def dN7:X8:=Q5K dC7
theorem dl7:dL7=dN7:=Q3P (by kernel_rfl)
def dL8:X8:=Bb (fnB (sub (st 6) 7))
def dC8:QC Q4l:=by
 refine' (?f:∀p:QC Q4l,dL8=Qb (Q0m p)->QC Q4l) _ ?u
 case f=>exact fun p _=>p
 case u =>
  have e:dL8=Qb _:=QA
  exact e
def dN8:X8:=Q5K dC8
theorem dl8:dL8=dN8:=Q3P (by kernel_rfl)
def dIx (_:Q3L):Type:=Yb
def pwF:X8->X8->X8->X8->X8->X8->X8->X8->(XC->X8)->Q3L:=by
 refine' (?f:∀p:X8->X8->X8->X8->X8->X8->X8->X8->(XC->X8)->Q3L,dIx (p dL1 dL2 dL3 dL4 dL5 dL6 dL7 dL8 Qb)->X8->X8->X8->X8->X8->X8->X8->X8->(XC->X8)->Q3L) _ ?u
 case f=>exact fun p _=>p
 case u =>
  have x:dIx YQ:=()
  delta YQ at x
  have e1:dL1=Qb _:=QA
  have e2:dL2=Qb _:=QA
  have e3:dL3=Qb _:=QA
  have e4:dL4=Qb _:=QA
  have e5:dL5=Qb _:=QA
  have e6:dL6=Qb _:=QA
  have e7:dL7=Qb _:=QA
  have e8:dL8=Qb _:=QA
  rw [<- e1,<- e2,<- e3,<- e4,<- e5,<- e6,<- e7,<- e8]at x
  clear e1 e2 e3 e4 e5 e6 e7 e8
  generalize dL1=d1 at x ⊢;generalize dL2=d2 at x ⊢;generalize dL3=d3 at x ⊢;generalize dL4=d4 at x ⊢;generalize dL5=d5 at x ⊢;generalize dL6=d6 at x ⊢;generalize dL7=d7 at x ⊢;generalize dL8=d8 at x ⊢
  generalize Qb=S at x ⊢
  exact x
def dTw:Q3L:=pwF dN1 dN2 dN3 dN4 dN5 dN6 dN7 dN8 QFU
theorem dPe:YQ=dTw:=by
 rw [dTw,<- Q7i,<- dl1,<- dl2,<- dl3,<- dl4,<- dl5,<- dl6,<- dl7,<- dl8]
 kernel_rfl
def p2 (F:XC->X8) (S:QH->Yc) (P:Ql):ZG:=⟨.QG,QG,(.Q04 ([⟨QL P (F "\x69mport.loaded._sre"),(.Xt (F "\x69mport.loaded._sre") 183),(.Ys QM)⟩,⟨QL P (F "class._frozen_importlib.BuiltinImporter"),(.Xt (F "class._frozen_importlib.BuiltinImporter") 185),(.QQ 14)⟩,⟨QL P (F "watched.\x69mport"),(.Xt (F "watched.\x69mport") 206),(.QQ 18)⟩,⟨QL P (F "class._frozen_importlib.ModuleSpec"),(.Xt (F "class._frozen_importlib.ModuleSpec") 216),(.QQ 22)⟩,⟨QL P (F "sys.modules.booked-epoch"),(.Xt (F "sys.modules.booked-epoch") 245),(.Qm (3) 0)⟩,⟨QL P (F "\x69mport.later-laid._sre"),(.Xt (F "\x69mport.later-laid._sre") 270),(.Ys QM)⟩,⟨QL P (F "watched.library"),(.Xt (F "watched.library") 272),(.QQ 27)⟩,⟨QL P (F "watched.library-objects"),(.Xt (F "watched.library-objects") 0),(.Xt (Str.mk #[12]) 0)⟩,⟨QL P (F "watched.library-deep._sre"),(.Xt (F "watched.library-deep._sre") 273),(.Xt (Str.mk #[4,0,0,11,4,0,0,11,4,0,0,3,4,0,0,11,8,4,100,105,99,116,2]) 0)⟩]:QC ZW).Xe 9),#[]⟩
def p3 (F:XC->X8) (S:QH->Yc) (P:Ql):ZG:=⟨(.Qk "dict"),QG,(.Q04 ([⟨QL P (F "__name__"),(.Xt (F "__name__") 165),(.Xt (F "law_dm0061_01") 721)⟩,⟨QL P (F "__doc__"),(.Xt (F "__doc__") 166),.QG⟩,⟨QL P (F "__package__"),(.Xt (F "__package__") 167),.QG⟩,⟨QL P (F "__loader__"),(.Xt (F "__loader__") 168),(.Qd "__main__.__loader__#opaque")⟩,⟨QL P (F "__spec__"),(.Xt (F "__spec__") 169),.QG⟩,⟨QL P (F "__annotations__"),(.Xt (F "__annotations__") 170),(.QQ 6)⟩,⟨QL P (F "__builtins__"),(.Xt (F "__builtins__") 171),(.QQ 4)⟩,⟨QL P (F "__file__"),(.Xt (F "__file__") 173),(.Xt (F "/claim/cut.py") 172)⟩,⟨QL P (F "__cached__"),(.Xt (F "__cached__") 174),.QG⟩,⟨QL P (F "_sre"),(.Xt (F "_sre") 275),(.QQ 12)⟩,⟨QL P (F "_wall"),(.Xt (F "_wall") 288),(.QQ 38)⟩,⟨QL P (F "_tuplegetter"),(.Xt (F "_tuplegetter") 347),(.QQ 77)⟩,⟨QL P (F "Match"),(.Xt (F "Match") 475),(.QQ 152)⟩,⟨QL P (F "_calculate_ratio"),(.Xt (F "_calculate_ratio") 483),(.QQ 162)⟩,⟨QL P (F "SequenceMatcher"),(.Xt (F "SequenceMatcher") 669),(.QQ 259)⟩,⟨QL P (F "_twin_re_1"),(.Xt (F "_twin_re_1") 710),(.QQ 268)⟩,⟨QL P (F "IS_LINE_JUNK"),(.Xt (F "IS_LINE_JUNK") 720),(.QQ 277)⟩,⟨QL P (F "_law_dress"),(.Xt (F "_law_dress") 736),(.QQ 284)⟩,⟨QL P (F "_law_blocks"),(.Xt (F "_law_blocks") 742),(.QQ 289)⟩,⟨QL P (F "_law_goes_no_further"),(.Xt (F "_law_goes_no_further") 748),(.QQ 294)⟩,⟨QL P (F "law"),(.Xt (F "law") 754),(.QQ 299)⟩]:QC ZW).Xe 21),#[]⟩
def p76 (F:XC->X8) (S:QH->Yc) (P:Ql):ZG:=⟨(.Qk "dict"),QG,(.Q04 ([⟨QL P (F "__module__"),(.Xt (F "__module__") 298),(.Xt (F "cpy313.difflib") 289)⟩,⟨QL P (F "__firstlineno__"),(.Xt (F "__firstlineno__") 302),(.Qm (6) 301)⟩,⟨QL P (F "__init__"),(.Xt (F "__init__") 311),(.QQ 52)⟩,⟨QL P (F "__get__"),(.Xt (F "__get__") 320),(.QQ 60)⟩,⟨QL P (F "__set__"),(.Xt (F "__set__") 329),(.QQ 67)⟩,⟨QL P (F "__delete__"),(.Xt (F "__delete__") 337),(.QQ 74)⟩,⟨QL P (F "__static_attributes__"),(.Xt (F "__static_attributes__") 340),(.QQ 75)⟩,⟨QL P (F "__dict__"),(.Xt (F "__dict__") 342),(.QQ 78)⟩,⟨QL P (F "__weakref__"),(.Xt (F "__weakref__") 344),(.QQ 79)⟩,⟨QL P (F "__doc__"),(.Xt (F "__doc__") 345),.QG⟩]:QC ZW).Xe 4),#[]⟩
def p77 (F:XC->X8) (S:QH->Yc) (P:Ql):ZG:=⟨(.Qk "type"),QG,(.cls {Q1z:=(F "_tuplegetter"),bases:=[(.Qk "object")],mro:=[(.QQ 77),(.Qk "object")],ns:=76,Q0e:=(F "_tuplegetter"),QH1:=QM,QDg:=[],QC8:=[],QFV:=QJ,QC9:=QG,hasDel:=QJ}),#[QG,QG,(QB (.Xt (F "_tuplegetter") 291)),(QB (.Xt (F "_tuplegetter") 299)),(QB (.Qd "object.__new__")),(QB (.Ys QM))]⟩
def p78 (F:XC->X8) (S:QH->Yc) (P:Ql):ZG:=⟨(.Qk "getset_descriptor"),QG,(.Xp #[(.Xt (F "__dict__") 341),(.QQ 77),(.Qd "function.__dict__"),(.Qd "function.__dict__#set")]),#[]⟩
def p79 (F:XC->X8) (S:QH->Yc) (P:Ql):ZG:=⟨(.Qk "getset_descriptor"),QG,(.Xp #[(.Xt (F "__weakref__") 343),(.QQ 77),(.Qd "ExceptionGroup.__weakref__"),.QG]),#[]⟩
def p85 (F:XC->X8) (S:QH->Yc) (P:Ql):ZG:=⟨(.Qk "cell"),QG,(.YV (QB (.QQ 152))),#[]⟩
def p92 (F:XC->X8) (S:QH->Yc) (P:Ql):ZG:=⟨(.Qk "dict"),QG,(.Q04 ([]:QC ZW).Xe 0),#[]⟩
def p98 (F:XC->X8) (S:QH->Yc) (P:Ql):ZG:=⟨(.Qk "code"),QG,(.Xp #[(.Xt (F "__new__") 369),(.Xt (F "Match.__new__") 370),(.Xt (F "/claim/cut.py") 371),(.Qm (30) 0),(.Qm (4) 0),(.Qm (0) 0),(.Qm (0) 0),(.Qm (3) 0),(.QQ 93),(.Ys QM),(.Qm (276) 0),(.QQ 94),.QG,(.QQ 95),(.QQ 96),(.QQ 97),(.Qm (376) 0),(.Qm (30) 0),(.Xt (F "/claim/cut.py") 377)]),#[]⟩
def p99 (F:XC->X8) (S:QH->Yc) (P:Ql):ZG:=⟨(.Qk "function"),QG,(.Q7j {Q1z:=(F "__new__"),Q0e:=(F "Match.__new__"),Q4B:=fnP (sub (S 4) 4),Yf:=.Q5m (fnB (sub (S 4) 4)),Qv:=fnS (sub (S 4) 4),Q2k:=3,Q2l:=[],Q1d:=.QG,Q0B:=.QG,doc:=(.Xt (Bb (fnB (sub (S 4) 4))) 378),Q1e:=(.Xt (F "cpy313.difflib") 289),Ze:=QG,Q0s:=(.QQ 98),ZP:=.QG,Q1f:=0}),#[]⟩
def aio (F:XC->X8) (S:QH->Yc) (P:Ql):ZG:=⟨(.Qk "code"),QG,(.Xp #[(.Xt (F "_make") 380),(.Xt (F "Match._make") 381),(.Xt (F "/claim/cut.py") 382),(.Qm (34) 0),(.Qm (2) 0),(.Qm (0) 0),(.Qm (0) 0),(.Qm (3) 0),(.QQ 100),(.Ys QM),(.Qm (276) 0),(.QQ 101),.QG,(.QQ 102),(.QQ 103),(.QQ 104),(.Qm (386) 0),(.Qm (34) 0),(.Xt (F "/claim/cut.py") 387)]),#[]⟩
def afl (F:XC->X8) (S:QH->Yc) (P:Ql):ZG:=⟨(.Qk "function"),QG,(.Q7j {Q1z:=(F "_make"),Q0e:=(F "Match._make"),Q4B:=fnP (sub (S 4) 5),Yf:=.Q5m (fnB (sub (S 4) 5)),Qv:=fnS (sub (S 4) 5),Q2k:=3,Q2l:=[],Q1d:=.QG,Q0B:=.QG,doc:=(.Xt (Bb (fnB (sub (S 4) 5))) 388),Q1e:=(.Xt (F "cpy313.difflib") 289),Ze:=(QB 109),Q0s:=(.QQ 105),ZP:=.QG,Q1f:=0}),#[]⟩
def ain (F:XC->X8) (S:QH->Yc) (P:Ql):ZG:=⟨(.Qk "dict"),QG,(.Q04 ([⟨QL P (F "__module__"),(.Xt (F "__module__") 390),(.Xt (F "cpy313.difflib") 289)⟩,⟨QL P (F "__name__"),(.Xt (F "__name__") 393),(.Xt (F "_make") 392)⟩,⟨QL P (F "__qualname__"),(.Xt (F "__qualname__") 396),(.Xt (F "Match._make") 395)⟩,⟨QL P (F "__doc__"),(.Xt (F "__doc__") 398),(.Xt (Bb (fnB (sub (S 4) 5))) 388)⟩,⟨QL P (F "__annotations__"),(.Xt (F "__annotations__") 400),(.QQ 109)⟩]:QC ZW).Xe 5),#[]⟩
def aim (F:XC->X8) (S:QH->Yc) (P:Ql):ZG:=⟨(.Qk "classmethod"),(QB 107),(.Xp #[(.QQ 106),(.Ys QJ)]),#[]⟩
def ail (F:XC->X8) (S:QH->Yc) (P:Ql):ZG:=⟨(.Qk "dict"),QG,(.Q04 ([]:QC ZW).Xe 0),#[]⟩
def aik (F:XC->X8) (S:QH->Yc) (P:Ql):ZG:=⟨(.Qk "dict"),QG,(.Q04 ([⟨QL P (F "index"),(.Xt (F "index") 447),(.Qm (0) 441)⟩,⟨QL P (F "__doc__"),(.Xt (F "__doc__") 449),(.Xt (F "Alias for field number 0") 442)⟩]:QC ZW).Xe 2),#[]⟩
def aij (F:XC->X8) (S:QH->Yc) (P:Ql):ZG:=⟨(.QQ 77),(QB 140),.Q4b,#[]⟩
def aii (F:XC->X8) (S:QH->Yc) (P:Ql):ZG:=⟨(.Qk "dict"),QG,(.Q04 ([⟨QL P (F "index"),(.Xt (F "index") 457),(.Qm (1) 451)⟩,⟨QL P (F "__doc__"),(.Xt (F "__doc__") 459),(.Xt (F "Alias for field number 1") 452)⟩]:QC ZW).Xe 2),#[]⟩
def aih (F:XC->X8) (S:QH->Yc) (P:Ql):ZG:=⟨(.QQ 77),(QB 143),.Q4b,#[]⟩
def aig (F:XC->X8) (S:QH->Yc) (P:Ql):ZG:=⟨(.Qk "dict"),QG,(.Q04 ([⟨QL P (F "index"),(.Xt (F "index") 467),(.Qm (2) 461)⟩,⟨QL P (F "__doc__"),(.Xt (F "__doc__") 469),(.Xt (F "Alias for field number 2") 462)⟩]:QC ZW).Xe 2),#[]⟩
def aif (F:XC->X8) (S:QH->Yc) (P:Ql):ZG:=⟨(.QQ 77),(QB 146),.Q4b,#[]⟩
def aie (F:XC->X8) (S:QH->Yc) (P:Ql):ZG:=⟨(.Qk "dict"),QG,(.Q04 ([⟨QL P (F "__module__"),(.Xt (F "__module__") 355),(.Xt (F "cpy313.difflib") 289)⟩,⟨QL P (F "__firstlineno__"),(.Xt (F "__firstlineno__") 359),(.Qm (24) 358)⟩,⟨QL P (F "__doc__"),(.Xt (F "__doc__") 361),(.Xt (Bb (Pr (S 4))) 360)⟩,⟨QL P (F "__slots__"),(.Xt (F "__slots__") 363),(.QQ 90)⟩,⟨QL P (F "_fields"),(.Xt (F "_fields") 367),(.QQ 91)⟩,⟨QL P (F "_field_defaults"),(.Xt (F "_field_defaults") 368),(.QQ 92)⟩,⟨QL P (F "__new__"),(.Xt (F "__new__") 379),(.QQ 153)⟩,⟨QL P (F "_make"),(.Xt (F "_make") 401),(.QQ 108)⟩,⟨QL P (F "_replace"),(.Xt (F "_replace") 412),(.QQ 117)⟩,⟨QL P (F "__replace__"),(.Xt (F "__replace__") 413),(.QQ 117)⟩,⟨QL P (F "__repr__"),(.Xt (F "__repr__") 421),(.QQ 124)⟩,⟨QL P (F "_asdict"),(.Xt (F "_asdict") 428),(.QQ 131)⟩,⟨QL P (F "__getnewargs__"),(.Xt (F "__getnewargs__") 436),(.QQ 138)⟩,⟨QL P (F "__match_args__"),(.Xt (F "__match_args__") 440),(.QQ 139)⟩,⟨QL P (F "a"),(.Xt (F "a") 450),(.QQ 141)⟩,⟨QL P (F "b"),(.Xt (F "b") 460),(.QQ 144)⟩,⟨QL P (F "size"),(.Xt (F "size") 470),(.QQ 147)⟩,⟨QL P (F "__static_attributes__"),(.Xt (F "__static_attributes__") 471),(.QQ 149)⟩]:QC ZW).Xe 2),#[]⟩
def aid (F:XC->X8) (S:QH->Yc) (P:Ql):ZG:=⟨(.Qk "type"),QG,(.cls {Q1z:=(F "Match"),bases:=[(.Qk "tuple")],mro:=[(.QQ 152),(.Qk "tuple"),(.Qk "object")],ns:=151,Q0e:=(F "Match"),QH1:=QJ,QDg:=[],QC8:=[],QFV:=QJ,QC9:=QG,hasDel:=QJ}),#[(QB (.QQ 82)),QG,(QB (.Xt (F "Match") 348)),(QB (.Xt (F "Match") 356)),(QB .QG),(QB (.Ys QJ))]⟩
def aic (F:XC->X8) (S:QH->Yc) (P:Ql):ZG:=⟨(.Qk "staticmethod"),QG,(.Xp #[(.QQ 99)]),#[]⟩
def aib (F:XC->X8) (S:QH->Yc) (P:Ql):ZG:=⟨(.Qk "tuple"),QG,(.seq #[.QG,(.Xt (F "") 499),(.Xt (F "") 500),(.Ys QM)] 0),#[]⟩
def aia (F:XC->X8) (S:QH->Yc) (P:Ql):ZG:=⟨(.Qk "code"),QG,(.Xp #[(.Xt (F "__init__") 501),(.Xt (F "SequenceMatcher.__init__") 502),(.Xt (F "/claim/cut.py") 503),(.Qm (146) 0),(.Qm (5) 0),(.Qm (0) 0),(.Qm (0) 0),(.Qm (3) 0),(.QQ 171),(.Ys QM),(.Qm (276) 0),(.QQ 172),.QG,(.QQ 173),(.QQ 174),(.QQ 175),(.Qm (509) 0),(.Qm (146) 0),(.Xt (F "/claim/cut.py") 510)]),#[]⟩
def afk (F:XC->X8) (S:QH->Yc) (P:Ql):ZG:=⟨(.Qk "function"),QG,(.Q7j {Q1z:=(F "__init__"),Q0e:=(F "SequenceMatcher.__init__"),Q4B:=fnP (sub (S 6) 1),Yf:=.Q5m (fnB (sub (S 6) 1)),Qv:=fnS (sub (S 6) 1),Q2k:=3,Q2l:=[],Q1d:=(.QQ 170),Q0B:=.QG,doc:=(.Xt (Bb (fnB (sub (S 6) 1))) 511),Q1e:=(.Xt (F "cpy313.difflib") 289),Ze:=QG,Q0s:=(.QQ 176),ZP:=.QG,Q1f:=0}),#[]⟩
def ah9 (F:XC->X8) (S:QH->Yc) (P:Ql):ZG:=⟨(.Qk "code"),QG,(.Xp #[(.Xt (F "set_seqs") 513),(.Xt (F "SequenceMatcher.set_seqs") 514),(.Xt (F "/claim/cut.py") 515),(.Qm (174) 0),(.Qm (3) 0),(.Qm (0) 0),(.Qm (0) 0),(.Qm (3) 0),(.QQ 178),(.Ys QM),(.Qm (276) 0),(.QQ 179),.QG,(.QQ 180),(.QQ 181),(.QQ 182),(.Qm (519) 0),(.Qm (174) 0),(.Xt (F "/claim/cut.py") 520)]),#[]⟩
def afj (F:XC->X8) (S:QH->Yc) (P:Ql):ZG:=⟨(.Qk "function"),QG,(.Q7j {Q1z:=(F "set_seqs"),Q0e:=(F "SequenceMatcher.set_seqs"),Q4B:=fnP (sub (S 6) 2),Yf:=.Q5m (fnB (sub (S 6) 2)),Qv:=fnS (sub (S 6) 2),Q2k:=3,Q2l:=[],Q1d:=.QG,Q0B:=.QG,doc:=(.Xt (Bb (fnB (sub (S 6) 2))) 521),Q1e:=(.Xt (F "cpy313.difflib") 289),Ze:=QG,Q0s:=(.QQ 183),ZP:=.QG,Q1f:=0}),#[]⟩
def ah8 (F:XC->X8) (S:QH->Yc) (P:Ql):ZG:=⟨(.Qk "code"),QG,(.Xp #[(.Xt (F "set_seq1") 523),(.Xt (F "SequenceMatcher.set_seq1") 524),(.Xt (F "/claim/cut.py") 525),(.Qm (185) 0),(.Qm (2) 0),(.Qm (0) 0),(.Qm (0) 0),(.Qm (3) 0),(.QQ 185),(.Ys QM),(.Qm (276) 0),(.QQ 186),.QG,(.QQ 187),(.QQ 188),(.QQ 189),(.Qm (528) 0),(.Qm (185) 0),(.Xt (F "/claim/cut.py") 529)]),#[]⟩
def afi (F:XC->X8) (S:QH->Yc) (P:Ql):ZG:=⟨(.Qk "function"),QG,(.Q7j {Q1z:=(F "set_seq1"),Q0e:=(F "SequenceMatcher.set_seq1"),Q4B:=fnP (sub (S 6) 3),Yf:=.Q5m (fnB (sub (S 6) 3)),Qv:=fnS (sub (S 6) 3),Q2k:=3,Q2l:=[],Q1d:=.QG,Q0B:=.QG,doc:=(.Xt (Bb (fnB (sub (S 6) 3))) 530),Q1e:=(.Xt (F "cpy313.difflib") 289),Ze:=QG,Q0s:=(.QQ 190),ZP:=.QG,Q1f:=0}),#[]⟩
def ah7 (F:XC->X8) (S:QH->Yc) (P:Ql):ZG:=⟨(.Qk "code"),QG,(.Xp #[(.Xt (F "set_seq2") 532),(.Xt (F "SequenceMatcher.set_seq2") 533),(.Xt (F "/claim/cut.py") 534),(.Qm (210) 0),(.Qm (2) 0),(.Qm (0) 0),(.Qm (0) 0),(.Qm (3) 0),(.QQ 192),(.Ys QM),(.Qm (276) 0),(.QQ 193),.QG,(.QQ 194),(.QQ 195),(.QQ 196),(.Qm (537) 0),(.Qm (210) 0),(.Xt (F "/claim/cut.py") 538)]),#[]⟩
def afh (F:XC->X8) (S:QH->Yc) (P:Ql):ZG:=⟨(.Qk "function"),QG,(.Q7j {Q1z:=(F "set_seq2"),Q0e:=(F "SequenceMatcher.set_seq2"),Q4B:=fnP (sub (S 6) 4),Yf:=.Q5m (fnB (sub (S 6) 4)),Qv:=fnS (sub (S 6) 4),Q2k:=3,Q2l:=[],Q1d:=.QG,Q0B:=.QG,doc:=(.Xt (Bb (fnB (sub (S 6) 4))) 539),Q1e:=(.Xt (F "cpy313.difflib") 289),Ze:=QG,Q0s:=(.QQ 197),ZP:=.QG,Q1f:=0}),#[]⟩
def ah6 (F:XC->X8) (S:QH->Yc) (P:Ql):ZG:=⟨(.Qk "code"),QG,(.Xp #[(.Xt (F "__chain_b") 541),(.Xt (F "SequenceMatcher.__chain_b") 542),(.Xt (F "/claim/cut.py") 543),(.Qm (237) 0),(.Qm (1) 0),(.Qm (0) 0),(.Qm (0) 0),(.Qm (3) 0),(.QQ 199),(.Ys QM),(.Qm (276) 0),(.QQ 200),.QG,(.QQ 201),(.QQ 202),(.QQ 203),(.Qm (556) 0),(.Qm (237) 0),(.Xt (F "/claim/cut.py") 557)]),#[]⟩
def afg (F:XC->X8) (S:QH->Yc) (P:Ql):ZG:=⟨(.Qk "function"),QG,(.Q7j {Q1z:=(F "__chain_b"),Q0e:=(F "SequenceMatcher.__chain_b"),Q4B:=fnP (sub (S 6) 5),Yf:=.Q5m (fnB (sub (S 6) 5)),Qv:=fnS (sub (S 6) 5),Q2k:=3,Q2l:=[],Q1d:=.QG,Q0B:=.QG,doc:=.QG,Q1e:=(.Xt (F "cpy313.difflib") 289),Ze:=QG,Q0s:=(.QQ 204),ZP:=.QG,Q1f:=0}),#[]⟩
def ah5 (F:XC->X8) (S:QH->Yc) (P:Ql):ZG:=⟨(.Qk "tuple"),QG,(.seq #[(.Qm (0) 559),.QG,(.Qm (0) 560),.QG] 0),#[]⟩
def ah4 (F:XC->X8) (S:QH->Yc) (P:Ql):ZG:=⟨(.Qk "code"),QG,(.Xp #[(.Xt (F "find_longest_match") 561),(.Xt (F "SequenceMatcher.find_longest_match") 562),(.Xt (F "/claim/cut.py") 563),(.Qm (261) 0),(.Qm (5) 0),(.Qm (0) 0),(.Qm (0) 0),(.Qm (3) 0),(.QQ 207),(.Ys QM),(.Qm (276) 0),(.QQ 208),.QG,(.QQ 209),(.QQ 210),(.QQ 211),(.Qm (583) 0),(.Qm (261) 0),(.Xt (F "/claim/cut.py") 584)]),#[]⟩
def aff (F:XC->X8) (S:QH->Yc) (P:Ql):ZG:=⟨(.Qk "function"),QG,(.Q7j {Q1z:=(F "find_longest_match"),Q0e:=(F "SequenceMatcher.find_longest_match"),Q4B:=fnP (sub (S 6) 6),Yf:=.Q5m (fnB (sub (S 6) 6)),Qv:=fnS (sub (S 6) 6),Q2k:=3,Q2l:=[],Q1d:=(.QQ 206),Q0B:=.QG,doc:=(.Xt (Bb (fnB (sub (S 6) 6))) 585),Q1e:=(.Xt (F "cpy313.difflib") 289),Ze:=QG,Q0s:=(.QQ 212),ZP:=.QG,Q1f:=0}),#[]⟩
def ah3 (F:XC->X8) (S:QH->Yc) (P:Ql):ZG:=⟨(.Qk "code"),QG,(.Xp #[(.Xt (F "get_matching_blocks") 587),(.Xt (F "SequenceMatcher.get_matching_blocks") 588),(.Xt (F "/claim/cut.py") 589),(.Qm (336) 0),(.Qm (1) 0),(.Qm (0) 0),(.Qm (0) 0),(.Qm (3) 0),(.QQ 214),(.Ys QM),(.Qm (276) 0),(.QQ 215),.QG,(.QQ 216),(.QQ 217),(.QQ 218),(.Qm (610) 0),(.Qm (336) 0),(.Xt (F "/claim/cut.py") 611)]),#[]⟩
def afe (F:XC->X8) (S:QH->Yc) (P:Ql):ZG:=⟨(.Qk "function"),QG,(.Q7j {Q1z:=(F "get_matching_blocks"),Q0e:=(F "SequenceMatcher.get_matching_blocks"),Q4B:=fnP (sub (S 6) 7),Yf:=.Q5m (fnB (sub (S 6) 7)),Qv:=fnS (sub (S 6) 7),Q2k:=3,Q2l:=[],Q1d:=.QG,Q0B:=.QG,doc:=(.Xt (Bb (fnB (sub (S 6) 7))) 612),Q1e:=(.Xt (F "cpy313.difflib") 289),Ze:=QG,Q0s:=(.QQ 219),ZP:=.QG,Q1f:=0}),#[]⟩
def ah2 (F:XC->X8) (S:QH->Yc) (P:Ql):ZG:=⟨(.Qk "dict"),QG,(.Q04 ([⟨QL P (F "__module__"),(.Xt (F "__module__") 491),(.Xt (F "cpy313.difflib") 289)⟩,⟨QL P (F "__firstlineno__"),(.Xt (F "__firstlineno__") 495),(.Qm (71) 494)⟩,⟨QL P (F "__doc__"),(.Xt (F "__doc__") 497),(.Xt (Bb (Pr (S 6))) 496)⟩,⟨QL P (F "__init__"),(.Xt (F "__init__") 512),(.QQ 177)⟩,⟨QL P (F "set_seqs"),(.Xt (F "set_seqs") 522),(.QQ 184)⟩,⟨QL P (F "set_seq1"),(.Xt (F "set_seq1") 531),(.QQ 191)⟩,⟨QL P (F "set_seq2"),(.Xt (F "set_seq2") 540),(.QQ 198)⟩,⟨QL P (F "_SequenceMatcher__chain_b"),(.Xt (F "_SequenceMatcher__chain_b") 558),(.QQ 205)⟩,⟨QL P (F "find_longest_match"),(.Xt (F "find_longest_match") 586),(.QQ 213)⟩,⟨QL P (F "get_matching_blocks"),(.Xt (F "get_matching_blocks") 613),(.QQ 220)⟩,⟨QL P (F "get_opcodes"),(.Xt (F "get_opcodes") 620),(.QQ 227)⟩,⟨QL P (F "get_grouped_opcodes"),(.Xt (F "get_grouped_opcodes") 629),(.QQ 235)⟩,⟨QL P (F "ratio"),(.Xt (F "ratio") 638),(.QQ 242)⟩,⟨QL P (F "quick_ratio"),(.Xt (F "quick_ratio") 645),(.QQ 249)⟩,⟨QL P (F "real_quick_ratio"),(.Xt (F "real_quick_ratio") 652),(.QQ 256)⟩,⟨QL P (F "__static_attributes__"),(.Xt (F "__static_attributes__") 663),(.QQ 257)⟩,⟨QL P (F "__dict__"),(.Xt (F "__dict__") 665),(.QQ 260)⟩,⟨QL P (F "__weakref__"),(.Xt (F "__weakref__") 667),(.QQ 261)⟩]:QC ZW).Xe 3),#[]⟩
def ah1 (F:XC->X8) (S:QH->Yc) (P:Ql):ZG:=⟨(.Qk "type"),QG,(.cls {Q1z:=(F "SequenceMatcher"),bases:=[(.Qk "object")],mro:=[(.QQ 259),(.Qk "object")],ns:=258,Q0e:=(F "SequenceMatcher"),QH1:=QM,QDg:=[],QC8:=[],QFV:=QJ,QC9:=QG,hasDel:=QJ}),#[QG,QG,(QB (.Xt (F "SequenceMatcher") 484)),(QB (.Xt (F "SequenceMatcher") 492)),(QB (.Qd "object.__new__")),(QB (.Ys QM))]⟩
def ah0 (F:XC->X8) (S:QH->Yc) (P:Ql):ZG:=⟨(.Qk "getset_descriptor"),QG,(.Xp #[(.Xt (F "__dict__") 664),(.QQ 259),(.Qd "function.__dict__"),(.Qd "function.__dict__#set")]),#[]⟩
def ahZ (F:XC->X8) (S:QH->Yc) (P:Ql):ZG:=⟨(.Qk "getset_descriptor"),QG,(.Xp #[(.Xt (F "__weakref__") 666),(.QQ 259),(.Qd "ExceptionGroup.__weakref__"),.QG]),#[]⟩
def ahY (F:XC->X8) (S:QH->Yc) (P:Ql):ZG:=⟨(.Qk "tuple"),QG,(.seq #[(.Qm (14) 0),(.Qm (4) 0),(.Qm (0) 0),(.Qm (0) 0),(.Qm (4294967295) 0),(.Qm (24) 0),(.Qm (9) 0),(.Qm (0) 0),(.Qm (4294967295) 0),(.Qm (13) 0),(.Qm (4) 0),(.Qm (8) 0),(.Qm (12) 0),(.Qm (0) 0),(.Qm (1) 0),(.Qm (23) 0),(.Qm (15) 0),(.Qm (0) 0),(.Qm (1) 0),(.Qm (16) 0),(.Qm (35) 0),(.Qm (24) 0),(.Qm (9) 0),(.Qm (0) 0),(.Qm (4294967295) 0),(.Qm (13) 0),(.Qm (4) 0),(.Qm (8) 0),(.Qm (12) 0),(.Qm (0) 0),(.Qm (1) 0),(.Qm (18) 0),(.Qm (6) 0),(.Qm (5) 0),(.Qm (1) 0)] 0),#[]⟩
def ahX (F:XC->X8) (S:QH->Yc) (P:Ql):ZG:=⟨(.Qk "re.Pattern"),QG,(.Xp #[(.Xt (F "\\s*(?:#\\s*)?$") 671),(.Qm (32) 709),(.Qm (0) 0),.QG,.QG,(.QQ 267),(.Qm (0) 0)]),#[]⟩
def ahW (F:XC->X8) (S:QH->Yc) (P:Ql):ZG:=⟨(.Qk "builtin_function_or_method"),QG,(.Xp #[(.Qd "re.Pattern.match"),(.QQ 268)]),#[]⟩
def ahV (F:XC->X8) (S:QH->Yc) (P:Ql):ZG:=⟨(.Qk "tuple"),QG,(.seq #[(.QQ 269)] 0),#[]⟩
def ahU (F:XC->X8) (S:QH->Yc) (P:Ql):ZG:=⟨(.Qk "code"),QG,(.Xp #[(.Xt (F "IS_LINE_JUNK") 712),(.Xt (F "IS_LINE_JUNK") 713),(.Xt (F "/claim/cut.py") 714),(.Qm (420) 0),(.Qm (2) 0),(.Qm (0) 0),(.Qm (0) 0),(.Qm (3) 0),(.QQ 271),(.Ys QM),(.Qm (276) 0),(.QQ 272),.QG,(.QQ 273),(.QQ 274),(.QQ 275),(.Qm (717) 0),(.Qm (420) 0),(.Xt (F "/claim/cut.py") 718)]),#[]⟩
def afd (F:XC->X8) (S:QH->Yc) (P:Ql):ZG:=⟨(.Qk "function"),QG,(.Q7j {Q1z:=(F "IS_LINE_JUNK"),Q0e:=(F "IS_LINE_JUNK"),Q4B:=fnP (S 8),Yf:=.Q5m (fnB (S 8)),Qv:=fnS (S 8),Q2k:=3,Q2l:=[],Q1d:=(.QQ 270),Q0B:=.QG,doc:=(.Xt (Bb (fnB (S 8))) 719),Q1e:=(.Xt (F "cpy313.difflib") 289),Ze:=QG,Q0s:=(.QQ 276),ZP:=.QG,Q1f:=0}),#[]⟩
def ahT (F:XC->X8) (S:QH->Yc) (P:Ql):ZG:=⟨(.Qk "code"),QG,(.Xp #[(.Xt (F "_law_dress") 723),(.Xt (F "_law_dress") 724),(.Xt (F "/claim/cut.py") 725),(.Qm (435) 0),(.Qm (1) 0),(.Qm (0) 0),(.Qm (0) 0),(.Qm (3) 0),(.QQ 278),(.Ys QM),(.Qm (276) 0),(.QQ 279),.QG,(.QQ 280),(.QQ 281),(.QQ 282),(.Qm (734) 0),(.Qm (435) 0),(.Xt (F "/claim/cut.py") 735)]),#[]⟩
def afc (F:XC->X8) (S:QH->Yc) (P:Ql):ZG:=⟨(.Qk "function"),QG,(.Q7j {Q1z:=(F "_law_dress"),Q0e:=(F "_law_dress"),Q4B:=fnP (S 10),Yf:=.Q5m (fnB (S 10)),Qv:=fnS (S 10),Q2k:=3,Q2l:=[],Q1d:=.QG,Q0B:=.QG,doc:=.QG,Q1e:=(.Xt (F "law_dm0061_01") 721),Ze:=QG,Q0s:=(.QQ 283),ZP:=.QG,Q1f:=0}),#[]⟩
def ahS (F:XC->X8) (S:QH->Yc) (P:Ql):ZG:=⟨(.Qk "code"),QG,(.Xp #[(.Xt (F "_law_blocks") 737),(.Xt (F "_law_blocks") 738),(.Xt (F "/claim/cut.py") 739),(.Qm (443) 0),(.Qm (3) 0),(.Qm (0) 0),(.Qm (0) 0),(.Qm (3) 0),(.QQ 285),(.Ys QM),(.Qm (276) 0),(.QQ 286),.QG,.QG,.QG,(.QQ 287),(.Qm (740) 0),(.Qm (443) 0),(.Xt (F "/claim/cut.py") 741)]),#[]⟩
def afb (F:XC->X8) (S:QH->Yc) (P:Ql):ZG:=⟨(.Qk "function"),QG,(.Q7j {Q1z:=(F "_law_blocks"),Q0e:=(F "_law_blocks"),Q4B:=fnP (S 11),Yf:=.Q5m (fnB (S 11)),Qv:=fnS (S 11),Q2k:=3,Q2l:=[],Q1d:=.QG,Q0B:=.QG,doc:=.QG,Q1e:=(.Xt (F "law_dm0061_01") 721),Ze:=QG,Q0s:=(.QQ 288),ZP:=.QG,Q1f:=0}),#[]⟩
def ahR (F:XC->X8) (S:QH->Yc) (P:Ql):ZG:=⟨(.Qk "code"),QG,(.Xp #[(.Xt (F "_law_goes_no_further") 743),(.Xt (F "_law_goes_no_further") 744),(.Xt (F "/claim/cut.py") 745),(.Qm (445) 0),(.Qm (3) 0),(.Qm (0) 0),(.Qm (0) 0),(.Qm (3) 0),(.QQ 290),(.Ys QM),(.Qm (276) 0),(.QQ 291),.QG,.QG,.QG,(.QQ 292),(.Qm (746) 0),(.Qm (445) 0),(.Xt (F "/claim/cut.py") 747)]),#[]⟩
def afa (F:XC->X8) (S:QH->Yc) (P:Ql):ZG:=⟨(.Qk "function"),QG,(.Q7j {Q1z:=(F "_law_goes_no_further"),Q0e:=(F "_law_goes_no_further"),Q4B:=fnP (S 12),Yf:=.Q5m (fnB (S 12)),Qv:=fnS (S 12),Q2k:=3,Q2l:=[],Q1d:=.QG,Q0B:=.QG,doc:=.QG,Q1e:=(.Xt (F "law_dm0061_01") 721),Ze:=QG,Q0s:=(.QQ 293),ZP:=.QG,Q1f:=0}),#[]⟩
def ae9 (F:XC->X8) (S:QH->Yc) (P:Ql):ZG:=⟨(.Qk "code"),QG,(.Xp #[(.Xt (F "law") 749),(.Xt (F "law") 750),(.Xt (F "/claim/cut.py") 751),(.Qm (455) 0),(.Qm (1) 0),(.Qm (0) 0),(.Qm (0) 0),(.Qm (3) 0),(.QQ 295),(.Ys QM),(.Qm (276) 0),(.QQ 296),.QG,.QG,.QG,(.QQ 297),(.Qm (752) 0),(.Qm (455) 0),(.Xt (F "/claim/cut.py") 753)]),#[]⟩
def ae8 (F:XC->X8) (S:QH->Yc) (P:Ql):ZG:=⟨(.Qk "function"),QG,(.Q7j {Q1z:=(F "law"),Q0e:=(F "law"),Q4B:=fnP (S 13),Yf:=.Q5m (fnB (S 13)),Qv:=fnS (S 13),Q2k:=3,Q2l:=[],Q1d:=.QG,Q0B:=.QG,doc:=.QG,Q1e:=(.Xt (F "law_dm0061_01") 721),Ze:=QG,Q0s:=(.QQ 298),ZP:=.QG,Q1f:=0}),#[]⟩
def agd:QC QH:=[2,3,76,77,78,79,85,92,98,99,105,106,107,108,109,140,141,143,144,146,147,151,152,153,170,176,177,183,184,190,191,197,198,204,205,206,212,213,219,220,258,259,260,261,267,268,269,270,276,277,283,284,288,289,293,294,298,299]
def KF (F:XC->X8) (S:QH->Yc) (P:Ql):Q1B:=(nat_lit 2,p2 F S P)::(nat_lit 3,p3 F S P)::(nat_lit 76,p76 F S P)::(nat_lit 77,p77 F S P)::(nat_lit 78,p78 F S P)::(nat_lit 79,p79 F S P)::(nat_lit 85,p85 F S P)::(nat_lit 92,p92 F S P)::(nat_lit 98,p98 F S P)::(nat_lit 99,p99 F S P)::(nat_lit 105,aio F S P)::(nat_lit 106,afl F S P)::(nat_lit 107,ain F S P)::(nat_lit 108,aim F S P)::(nat_lit 109,ail F S P)::(nat_lit 140,aik F S P)::(nat_lit 141,aij F S P)::(nat_lit 143,aii F S P)::(nat_lit 144,aih F S P)::(nat_lit 146,aig F S P)::(nat_lit 147,aif F S P)::(nat_lit 151,aie F S P)::(nat_lit 152,aid F S P)::(nat_lit 153,aic F S P)::(nat_lit 170,aib F S P)::(nat_lit 176,aia F S P)::(nat_lit 177,afk F S P)::(nat_lit 183,ah9 F S P)::(nat_lit 184,afj F S P)::(nat_lit 190,ah8 F S P)::(nat_lit 191,afi F S P)::(nat_lit 197,ah7 F S P)::(nat_lit 198,afh F S P)::(nat_lit 204,ah6 F S P)::(nat_lit 205,afg F S P)::(nat_lit 206,ah5 F S P)::(nat_lit 212,ah4 F S P)::(nat_lit 213,aff F S P)::(nat_lit 219,ah3 F S P)::(nat_lit 220,afe F S P)::(nat_lit 258,ah2 F S P)::(nat_lit 259,ah1 F S P)::(nat_lit 260,ah0 F S P)::(nat_lit 261,ahZ F S P)::(nat_lit 267,ahY F S P)::(nat_lit 268,ahX F S P)::(nat_lit 269,ahW F S P)::(nat_lit 270,ahV F S P)::(nat_lit 276,ahU F S P)::(nat_lit 277,afd F S P)::(nat_lit 283,ahT F S P)::(nat_lit 284,afc F S P)::(nat_lit 288,ahS F S P)::(nat_lit 289,afb F S P)::(nat_lit 293,ahR F S P)::(nat_lit 294,afa F S P)::(nat_lit 298,ae9 F S P)::(nat_lit 299,ae8 F S P)::[]
def K (P:Ql):Q1B:=KF Qb st P
def Q4c:QC QH:=[0,1,3,4,5,6,7,10,11,12,13]
def QCA:QC X8:=[(Qb "_tuplegetter"),(Qb "Match"),(Qb "SequenceMatcher"),(Qb "_twin_re_1"),(Qb "IS_LINE_JUNK")]
def qF (p:Q3L):Q3L:={p with main:={p.main with Yf:=[stF p 0,stF p 1,stF p 3,stF p 4,stF p 5,stF p 6,stF p 7,stF p 10,stF p 11,stF p 12,stF p 13]}}
def q:Q3L:={YQ with main:={(YQ).main with Yf:=[st 0,st 1,st 3,st 4,st 5,st 6,st 7,st 10,st 11,st 12,st 13]}}
theorem dKe:K=KF QFU (stF dTw):=by
 rw [<- Q7i,<- dPe]
 rfl
theorem dQe:q=qF dTw:=Z8 qF dPe
def o99 (P:Ql):ZG:=p99 Qb st P
def aiA (P:Ql):ZG:=afl Qb st P
def aiz (P:Ql):ZG:=afk Qb st P
def aiy (P:Ql):ZG:=afj Qb st P
def aix (P:Ql):ZG:=afi Qb st P
def aiw (P:Ql):ZG:=afh Qb st P
def aiv (P:Ql):ZG:=afg Qb st P
def aiu (P:Ql):ZG:=aff Qb st P
def ait (P:Ql):ZG:=afe Qb st P
def ais (P:Ql):ZG:=afd Qb st P
def air (P:Ql):ZG:=afc Qb st P
def aiq (P:Ql):ZG:=afb Qb st P
def aip (P:Ql):ZG:=afa Qb st P
def Nh (P:Ql):ZG:=ae9 Qb st P
def AO (P:Ql):ZG:=ae8 Qb st P
end
end Mine01
end
section
open PySem PySem.W PyProof.Rows
set_option maxRecDepth 100000
set_option maxHeartbeats 8000000
namespace Mine01
mutual
abbrev H:Hook:=kHook K agd (fun _=>by kernel_rfl)
theorem left:LeftO YQ q QCA (fun s=>xlAt q [] s&&recOk (Xq).row.records s) (Hook.obs H) (Hook.val H) 4812:=by
 intro w
 rw [Mine.tbF_eq]
 unfold openEnds fencedOpening topFrom PySem.W.opening topStub
 dsimp only [H,kHook]
 rw [PySem.W.Fast.te4187177175401517315,PySem.W.Fast.te5923862056798008813,PySem.W.Fast.te10274390034422433532,PySem.W.Fast.te1435165496053646825,PySem.W.Fast.te14289696077712309145,
  PySem.W.Fast.te14082659384304107361,PySem.W.Fast.te8920871248978507458,PySem.W.Fast.te12456147031677567982,PySem.W.Fast.te17154629097778926822,PySem.W.Fast.te12822647523644345616,PySem.W.Fast.te6905046200447255374]
 rw [dQe,dKe,dPe]
 delta Q0v
 rw [Mine.anyL_eq]
 kernel_rfl
end
end Mine01
end
section
open PySem PySem.W PyProof.Rows
set_option maxRecDepth 100000
set_option maxHeartbeats 8000000
namespace Mine01
mutual
def Tf (s:Yc):Pos:=QC7 s (fun _ _ _ p=>p) Zv
theorem TJ:(Xq).wellSaid=QM:=by
 rw [PySem.W.Fast.te9446332074065402090]
 delta Xq
 rw [dPe,Q7i]
 kernel_rfl
theorem hd (Tr:∀(_said:(Xq).row.wellSaid=QM),WalkO q QCA (Q0 q []) (QDh H) (Xq).QCB ⟨Qb "law",fnP (st 13),fnB (st 13),fnS (st 13),Tf (st 13)⟩ [] fun f vs=>PySem.call f vs):(Xq).Holds:=by
 w_on
 refine holds_law TJ fun TJ=>?_
 refine PySem.W.holds_open (q:=q) (QCA:=QCA) (Q1:=fun s=>xlAt q [] s&&recOk (RowW.records (Xq).QCB) s) (Q2:=Q0 q []) (Q3:=Hook.obs H) (Q4:=Hook.val H) (Q5:=QDh H) (N:=4812) left (Hook.of H) (Hook.keeps H)
  (fun s e=>xl_of s (Q1c e).1) XL.keeps (by kernel_rfl) (by kernel_rfl) (by kernel_rfl) (fun s e=>recFacts_of (Q1c e).2) (by rfl) (by assumption) (by decide +XD) ⟨QA,QA,QA,QA,QA,by decide +XD⟩ ?hw (Tr TJ)
 case hw=>w_witness2
end
end Mine01
end
section
open PySem PySem.W PySem.Calls PyProof.Rows
set_option genInjectivity true
set_option genSizeOf false
namespace Mini
inductive Key where
 | i (n:Int)
 | s (x:Str)
 deriving DecidableEq
set_option genInjectivity false
mutual
inductive QU where
 | QG
 | Ys (b:Qu)
 | Qm (i:X4)
 | Xt (x:X8)
 | QQ (l:QH)
 | imm (v:QI)
 deriving Q7k
inductive Ob where
 | any
 | Qs (xs:QC QU)
 | YM (xs:QC QU)
 | Q04 (Y5:QC (Yh×QU))
 | set (xs:QC Yh)
 | Q5L (c:Qq) (d:QH)
 | Q1X (Y5:QC (X8×QU))
 | sub (c:Qq) (xs:QC QU)
 | YV (v:QW QU)
 | bm (id:XC) (Q1g:QU)
 | raw (o:ZG)
 | Q7K (a b k:X4)
 | QCC (d:QH)
 | lam (mk:Qq->ZG) (lc:QH)
 | Q4t (ps:QC (X4×Tok)) (n:QH)
 | tab (es:QC (QH×QH×QH))
 | QEL (fv:QU) (tl:QH)
 | Q8z (l i:QH)
 | Q9r (f C:Qq)
structure St where
 loc:X8->QW QU
 hp:QH->Ob
 nx:QH
structure Lab where
 f:QH->Qq
 n:QH
instance:Q2B Yh:=⟨.i 0⟩
instance:Q2B QU:=⟨.QG⟩
instance:Q2B Ob:=⟨.any⟩
instance:Q2B Lab:=⟨⟨fun _=>Zv,0⟩⟩
instance:Q2B St:=⟨⟨fun _=>QG,fun _=>.any,0⟩⟩
def Lab.Ext (Λ Zd:Lab):Prop:=Xi<=QDi/\∀l,l < Xi->Q4d l=Xs l
theorem Lab.Ext.refl (Λ:Lab):Q0C Λ:=⟨Qh _,fun _ _=>QA⟩
theorem Lab.Ext.trans {a b c:Lab} (h:a.Ext b) (k:b.Ext c):a.Ext c:=⟨Qz h.1 k.1,fun l hl=>(k.2 l (QP hl h.1)).QR (h.2 l hl)⟩
def Lab.push (Λ:Lab) (a:Qq):Lab:=⟨fun l=>if l=Xi then a else Xs l,Xi+1⟩
theorem XN (Λ:Lab) (a:Qq):Q0C (Z9 a):=⟨Q0N _,fun l hl=>QN (Xv hl)⟩
def VR (Λ:Lab):QU->QI->Prop
 | .QG,v=>v=.QG
 | .Ys b,v=>v=.Ys b
 | .Qm i,v=>∃t,v=.Qm i t
 | .Xt x,v=>∃t,v=.Xt x t
 | .QQ l,v=>l < Xi/\v=.QQ (Xs l)
 | .imm u,v=>v=u
theorem VR.ext {Λ Zd:Lab} (e:Q0C Zd):∀ {v:QU} {c:QI},VR Λ v c->VR Zd v c
 | .QG,_,h=>h
 | .Ys _,_,h=>h
 | .Qm _,_,h=>h
 | .Xt _,_,h=>h
 | .QQ l,_,h=>⟨QP h.1 e.1,by rw [e.2 l h.1];exact h.2⟩
 | .imm _,_,h=>h
inductive VRs (Λ:Lab):QC QU->QC QI->Prop
 | Zo:VRs Λ [] []
 | Xx {v:QU} {c:QI} {vs:QC QU} {cs:QC QI}:VR Λ v c->VRs Λ vs cs->VRs Λ (v::vs) (c::cs)
theorem VRs.ext {Λ Zd:Lab} (e:Q0C Zd) {vs:QC QU} {cs:QC QI} (h:VRs Λ vs cs):VRs Zd vs cs:=by
 induction h with
 | Zo=>exact .Zo
 | Xx h _ ih=>exact .Xx (h.ext e) ih
theorem VRs.length {Λ:Lab} {vs:QC QU} {cs:QC QI} (h:VRs Λ vs cs):Q0U=QAf:=by
 induction h with
 | Zo=>rfl
 | Xx _ _ ih=>rw [Xg,Xg,ih]
theorem VRs.append {Λ:Lab} {vs ws:QC QU} {cs ds:QC QI} (h:VRs Λ vs cs) (k:VRs Λ ws ds):VRs Λ (vs++ws) (cs++ds):=by
 induction h with
 | Zo=>exact k
 | Xx h _ ih=>exact .Xx h ih
theorem VRs.get {Λ:Lab} {vs:QC QU} {cs:QC QI} (h:VRs Λ vs cs):∀ {i:QH} {v:QU},vs[i]?=QB v->∃c,cs[i]?=QB c/\VR Λ v c:=by
 induction h with
 | Zo=>intro i v e;simp at e
 | Xx h _ ih =>
  intro i v e
  cases i with
  | Q1x=>simp at e;subst e;exact ⟨_,QA,h⟩
  | Q1y i=>exact ih (by simpa using e)
theorem VRs.take {Λ:Lab} {vs:QC QU} {cs:QC QI} (h:VRs Λ vs cs):∀n,VRs Λ (vs.take n) (cs.take n):=by
 induction h with
 | Zo=>intro n;simp;exact .Zo
 | Xx h _ ih=>intro n;cases n with
  | Q1x=>simp;exact .Zo
  | Q1y n=>simp;exact .Xx h (ih n)
theorem VRs.drop {Λ:Lab} {vs:QC QU} {cs:QC QI} (h:VRs Λ vs cs):∀n,VRs Λ (vs.drop n) (cs.drop n):=by
 induction h with
 | Zo=>intro n;simp;exact .Zo
 | Xx h k ih=>intro n;cases n with
  | Q1x=>simp;exact .Xx h k
  | Q1y n=>simp;exact ih n
def EM:Yh->QI->Qu
 | .i n,v=>QFW n v
 | .s x,v=>QDC x v
end
section
variable {prog:Program} {w:World}
mutual
theorem FZ {A:Q2z} {E:QI->QZ->Prop} {s:QZ} {a:X4} {t:Tok} {b:X8} {u:Tok} {Q:Qu->QZ->Prop} (h:Q QJ s):Qp (Qi XE w) A (QEM (.Qm a t) (.Xt b u)) Q E s:=by
 refine Xa ?_
 refine Q9 ?_
 exact EqMixed.eq_int_str (Q:=fun v s=>Qp (Qi XE w) A (QCD v) Q E s) (Q3k h)
theorem FY {A:Q2z} {E:QI->QZ->Prop} {s:QZ} {a:X4} {t:Tok} {b:X8} {u:Tok} {Q:Qu->QZ->Prop} (h:Q QJ s):Qp (Qi XE w) A (QEM (.Xt b u) (.Qm a t)) Q E s:=by
 refine Xa ?_
 refine Q9 ?_
 exact EqMixed.eq_str_int (Q:=fun v s=>Qp (Qi XE w) A (QCD v) Q E s) (Q3k h)
end
end
mutual
def knd (XE:Q3L) (w:Q6T):Q69 XE w Yh where
 is:=EM
 hash:=fun | .i n=>hashInt n | .s x=>hashStr w x
 inj:=fun v a b ha hb=>by
  cases a <;> cases b
  ·rw [Value.isInt_inj v _ _ ha hb]
  ·obtain (⟨t,QA⟩):=Q1C ha;cases hb
  ·obtain (⟨t,QA⟩):=Q1C hb;cases ha
  ·rw [Value.isStrOf_inj v _ _ ha hb]
 QH2:=fun k v h=>by
  cases k
  ·exact (QEN XE w).QH2 _ v h
  ·exact (Q6A XE w).QH2 _ v h
 pyHash:=fun {A E s k v Q} hv h=>by
  cases k
  ·exact (QEN XE w).pyHash hv h
  ·exact (Q6A XE w).pyHash hv h
 QEM:=fun {A E s a b u v Q} hu hv h=>by
  cases a <;> cases b
  ·exact (QEN XE w).QEM hu hv (by simpa using h)
  ·obtain (⟨t,QA⟩):=Q1C hu;obtain (⟨t',QA⟩):=Q30 hv;exact FZ (by simpa using h)
  ·obtain (⟨t,QA⟩):=Q30 hu;obtain (⟨t',QA⟩):=Q1C hv;exact FY (by simpa using h)
  ·exact (Q6A XE w).QEM hu hv (by simpa using h)
 «strs»:=fun k x t v h=>by
  cases k
  ·exact (QEN XE w).«strs» _ x t v h
  ·exact (Q6A XE w).«strs» _ x t v h
def Bn:QU->QW Yh
 | .Qm i=>QB (.i i)
 | .Xt x=>QB (.s x)
 | _=>Option.none
def Q12:Yh->QU
 | .i n=>.Qm n
 | .s x=>.Xt x
theorem B0 {Λ:Lab} {v:QU} {k:Yh} {c:QI} (h:Bn v=QB k) (hv:VR Λ v c):EM k c=QM:=by
 cases v <;> simp [Bn]at h <;> subst h <;> obtain (⟨t,QA⟩):=hv <;> simp [EM,QFW,QDC]
theorem En {Λ:Lab} {k:Yh} {c:QI} (h:EM k c=QM):VR Λ Q90 c:=by
 cases k
 ·exact Q1C h
 ·exact Q30 h
def Ad {α:Type} (o:QW α) (f:α->Prop):Prop:=match o with | QB a=>f a | QG=>Yn
theorem Q2x {α:Type} {o:QW α} {f:α->Prop} {C:Prop} (h:Ad o f) (k:∀a,o=QB a->f a->C):C:=by
 cases o with
 | QG=>exact Qy
 | QB a=>exact k a QA h
theorem Q0g {p:Prop} [Decidable p] {a b C:Prop} (h:if p then a else b) (k:p->a->C) (k':b->C):C :=
 if e:p then k e ((QY e).mp h) else k' ((QN e).mp h)
def Ai (v:QU) (f:QH->Prop):Prop:=match v with | .QQ l=>f l | _=>Yn
theorem Q1Y {v:QU} {f:QH->Prop} {C:Prop} (h:Ai v f) (k:∀l,v=.QQ l->f l->C):C:=by
 cases v <;> first | exact k _ QA h | exact Qy
def Bi (v:QU) (f:X4->Prop):Prop:=match v with | .Qm l=>f l | _=>Yn
theorem QBT {v:QU} {f:X4->Prop} {C:Prop} (h:Bi v f) (k:∀l,v=.Qm l->f l->C):C:=by
 cases v <;> first | exact k _ QA h | exact Qy
def EI (v:QU) (f:X8->Prop):Prop:=match v with | .Xt l=>f l | _=>Yn
theorem EI.el {v:QU} {f:X8->Prop} {C:Prop} (h:EI v f) (k:∀l,v=.Xt l->f l->C):C:=by
 cases v <;> first | exact k _ QA h | exact Qy
def Cs (v:QU) (f:Qq->Prop):Prop:=∃l,v=.imm (.QQ l)/\f l
theorem Cs.mk {v:QU} {f:Qq->Prop} {l:Qq} (h:v=.imm (.QQ l)) (k:f l):Cs v f:=⟨l,h,k⟩
theorem Cs.el {v:QU} {f:Qq->Prop} {C:Prop} (h:Cs v f) (k:∀l,v=.imm (.QQ l)->f l->C):C:=Qy fun l h=>k l h.1 h.2
def on0 (a:QC QU) (p:Prop):Prop:=match a with | []=>p | _::_=>Yn
def on1 (a:QC QU) (f:QU->Prop):Prop:=match a with | []=>Yn | v::a=>a=[]/\f v
def on2 (a:QC QU) (f:QU->QU->Prop):Prop:=match a with | []=>Yn | v::a=>on1 a (f v)
def on3 (a:QC QU) (f:QU->QU->QU->Prop):Prop:=match a with | []=>Yn | v::a=>on2 a (f v)
def Af (o:Ob) (f:QC QU->Prop):Prop:=∃xs,o=.Qs xs/\f xs
theorem Q46 {o:Ob} {f:QC QU->Prop} {xs:QC QU} (h:o=.Qs xs) (k:f xs):Af o f:=⟨xs,h,k⟩
theorem Q4u {o:Ob} {f:QC QU->Prop} {C:Prop} (h:Af o f) (k:∀xs,o=.Qs xs->f xs->C):C:=Qy fun xs h=>k xs h.1 h.2
def Cp (o:Ob) (f:QC QU->Prop):Prop:=∃xs,o=.YM xs/\f xs
theorem Cp.mk {o:Ob} {f:QC QU->Prop} {xs:QC QU} (h:o=.YM xs) (k:f xs):Cp o f:=⟨xs,h,k⟩
theorem QH3 {o:Ob} {f:QC QU->Prop} {C:Prop} (h:Cp o f) (k:∀xs,o=.YM xs->f xs->C):C:=Qy fun xs h=>k xs h.1 h.2
def As (o:Ob) (f:QC (Yh×QU)->Prop):Prop:=∃xs,o=.Q04 xs/\f xs
theorem Q9s {o:Ob} {f:QC (Yh×QU)->Prop} {xs:QC (Yh×QU)} (h:o=.Q04 xs) (k:f xs):As o f:=⟨xs,h,k⟩
theorem Q91 {o:Ob} {f:QC (Yh×QU)->Prop} {C:Prop} (h:As o f) (k:∀xs,o=.Q04 xs->f xs->C):C:=Qy fun xs h=>k xs h.1 h.2
def Bh (o:Ob) (f:QC Yh->Prop):Prop:=∃xs,o=.set xs/\f xs
theorem QFX {o:Ob} {f:QC Yh->Prop} {xs:QC Yh} (h:o=.set xs) (k:f xs):Bh o f:=⟨xs,h,k⟩
theorem QFY {o:Ob} {f:QC Yh->Prop} {C:Prop} (h:Bh o f) (k:∀xs,o=.set xs->f xs->C):C:=Qy fun xs h=>k xs h.1 h.2
def AX (o:Ob) (f:QC (X8×QU)->Prop):Prop:=∃xs,o=.Q1X xs/\f xs
theorem AX.mk {o:Ob} {f:QC (X8×QU)->Prop} {xs:QC (X8×QU)} (h:o=.Q1X xs) (k:f xs):AX o f:=⟨xs,h,k⟩
theorem AX.el {o:Ob} {f:QC (X8×QU)->Prop} {C:Prop} (h:AX o f) (k:∀xs,o=.Q1X xs->f xs->C):C:=Qy fun xs h=>k xs h.1 h.2
def Bt (o:Ob) (f:Qq->QH->Prop):Prop:=∃x y,o=.Q5L x y/\f x y
theorem Bt.mk {o:Ob} {f:Qq->QH->Prop} {x:Qq} {y:QH} (h:o=.Q5L x y) (k:f x y):Bt o f:=⟨x,y,h,k⟩
theorem Bt.el {o:Ob} {f:Qq->QH->Prop} {C:Prop} (h:Bt o f) (k:∀x y,o=.Q5L x y->f x y->C):C:=Qy fun x h=>Qy fun y h=>k x y h.1 h.2
def Cq (o:Ob) (f:Qq->QC QU->Prop):Prop:=∃x y,o=.sub x y/\f x y
theorem Cq.mk {o:Ob} {f:Qq->QC QU->Prop} {x:Qq} {y:QC QU} (h:o=.sub x y) (k:f x y):Cq o f:=⟨x,y,h,k⟩
theorem Cq.el {o:Ob} {f:Qq->QC QU->Prop} {C:Prop} (h:Cq o f) (k:∀x y,o=.sub x y->f x y->C):C:=Qy fun x h=>Qy fun y h=>k x y h.1 h.2
def By (o:Ob) (f:X4->X4->X4->Prop):Prop:=∃x y z,o=.Q7K x y z/\f x y z
theorem By.mk {o:Ob} {f:X4->X4->X4->Prop} {x:X4} {y:X4} {z:X4} (h:o=.Q7K x y z) (k:f x y z):By o f:=⟨x,y,z,h,k⟩
theorem By.el {o:Ob} {f:X4->X4->X4->Prop} {C:Prop} (h:By o f) (k:∀x y z,o=.Q7K x y z->f x y z->C):C:=Qy fun x h=>Qy fun y h=>Qy fun z h=>k x y z h.1 h.2
def BD (o:Ob) (f:QW QU->Prop):Prop:=∃v,o=.YV v/\f v
theorem BD.mk {o:Ob} {f:QW QU->Prop} {v:QW QU} (h:o=.YV v) (k:f v):BD o f:=⟨v,h,k⟩
theorem BD.el {o:Ob} {f:QW QU->Prop} {C:Prop} (h:BD o f) (k:∀v,o=.YV v->f v->C):C:=Qy fun v h=>k v h.1 h.2
def AJ (o:Ob) (f:QC (X4×Tok)->QH->Prop):Prop:=∃x y,o=.Q4t x y/\f x y
theorem QH4 {o:Ob} {f:QC (X4×Tok)->QH->Prop} {x:QC (X4×Tok)} {y:QH} (h:o=.Q4t x y) (k:f x y):AJ o f:=⟨x,y,h,k⟩
theorem QH5 {o:Ob} {f:QC (X4×Tok)->QH->Prop} {C:Prop} (h:AJ o f) (k:∀x y,o=.Q4t x y->f x y->C):C:=Qy fun x h=>Qy fun y h=>k x y h.1 h.2
def JI (v:QU) (f:XC->Prop):Prop:=∃l,v=.imm (.Qk l)/\f l
theorem JI.mk {v:QU} {f:XC->Prop} {l:XC} (h:v=.imm (.Qk l)) (k:f l):JI v f:=⟨l,h,k⟩
theorem JI.el {v:QU} {f:XC->Prop} {C:Prop} (h:JI v f) (k:∀l,v=.imm (.Qk l)->f l->C):C:=Qy fun l h=>k l h.1 h.2
def FH (o:Ob) (f:XC->QU->Prop):Prop:=∃x y,o=.bm x y/\f x y
theorem FH.mk {o:Ob} {f:XC->QU->Prop} {x:XC} {y:QU} (h:o=.bm x y) (k:f x y):FH o f:=⟨x,y,h,k⟩
theorem FH.el {o:Ob} {f:XC->QU->Prop} {C:Prop} (h:FH o f) (k:∀x y,o=.bm x y->f x y->C):C:=Qy fun x h=>Qy fun y h=>k x y h.1 h.2
def Cr (o:Ob) (f:(Qq->ZG)->QH->Prop):Prop:=∃x y,o=.lam x y/\f x y
theorem Cr.mk {o:Ob} {f:(Qq->ZG)->QH->Prop} {x:Qq->ZG} {y:QH} (h:o=.lam x y) (k:f x y):Cr o f:=⟨x,y,h,k⟩
theorem Cr.el {o:Ob} {f:(Qq->ZG)->QH->Prop} {C:Prop} (h:Cr o f) (k:∀x y,o=.lam x y->f x y->C):C:=Qy fun x h=>Qy fun y h=>k x y h.1 h.2
def CE (o:Ob) (f:Qq->Qq->Prop):Prop:=∃x y,o=.Q9r x y/\f x y
theorem CE.mk {o:Ob} {f:Qq->Qq->Prop} {x:Qq} {y:Qq} (h:o=.Q9r x y) (k:f x y):CE o f:=⟨x,y,h,k⟩
theorem CE.el {o:Ob} {f:Qq->Qq->Prop} {C:Prop} (h:CE o f) (k:∀x y,o=.Q9r x y->f x y->C):C:=Qy fun x h=>Qy fun y h=>k x y h.1 h.2
def DF (o:Ob) (f:QU->QH->Prop):Prop:=∃x y,o=.QEL x y/\f x y
theorem DF.mk {o:Ob} {f:QU->QH->Prop} {x:QU} {y:QH} (h:o=.QEL x y) (k:f x y):DF o f:=⟨x,y,h,k⟩
theorem DF.el {o:Ob} {f:QU->QH->Prop} {C:Prop} (h:DF o f) (k:∀x y,o=.QEL x y->f x y->C):C:=Qy fun x h=>Qy fun y h=>k x y h.1 h.2
def CD (o:Ob) (f:QH->Prop):Prop:=∃v,o=.QCC v/\f v
theorem CD.mk {o:Ob} {f:QH->Prop} {v:QH} (h:o=.QCC v) (k:f v):CD o f:=⟨v,h,k⟩
theorem CD.el {o:Ob} {f:QH->Prop} {C:Prop} (h:CD o f) (k:∀v,o=.QCC v->f v->C):C:=Qy fun v h=>k v h.1 h.2
def O2 (o:Ob) (f:QC QU->Prop):Prop:=(∃xs,o=.YM xs/\f xs)\/(∃xs,o=.Qs xs/\f xs)
theorem O2.el {o:Ob} {f:QC QU->Prop} {C:Prop} (h:O2 o f) (k:∀xs,o=.YM xs->f xs->C) (k':∀xs,o=.Qs xs->f xs->C):C:=Qy (fun h=>Qy fun xs h=>k xs h.1 h.2) fun h=>Qy fun xs h=>k' xs h.1 h.2
end
@[elab_as_elim] theorem on0.el {Λ:Lab} {a:List Val} {as:List Value} {p:Prop} {C:List Value->Prop} (ha:VRs Λ a as) (h:on0 a p) (k:p->C []):C as:=by
 cases ha with
 | nil=>exact k h
 | cons _ _=>exact h.elim
@[elab_as_elim] theorem on1.el {Λ:Lab} {a:List Val} {as:List Value} {f:Val->Prop} {C:List Value->Prop} (ha:VRs Λ a as) (h:on1 a f) (k:∀v x,VR Λ v x->f v->C [x]):C as:=by
 cases ha with
 | nil=>exact h.elim
 | cons h1 h2 =>
  obtain (⟨rfl,h⟩):=h
  cases h2
  exact k _ _ h1 h
@[elab_as_elim] theorem on2.el {Λ:Lab} {a:List Val} {as:List Value} {f:Val->Val->Prop} {C:List Value->Prop} (ha:VRs Λ a as) (h:on2 a f) (k:∀v u x y,VR Λ v x->VR Λ u y->f v u->C [x,y]):C as:=by
 cases ha with
 | nil=>exact h.elim
 | cons h1 h2=>exact on1.el (C:=fun as=>C (_::as)) h2 h fun u y h3 h=>k _ _ _ _ h1 h3 h
@[elab_as_elim] theorem on3.el {Λ:Lab} {a:List Val} {as:List Value} {f:Val->Val->Val->Prop} {C:List Value->Prop} (ha:VRs Λ a as) (h:on3 a f) (k:∀v u w x y z,VR Λ v x->VR Λ u y->VR Λ w z->f v u w->C [x,y,z]):C as:=by
 cases ha with
 | nil=>exact h.elim
 | cons h1 h2=>exact on2.el (C:=fun as=>C (_::as)) h2 h fun u w y z h3 h4 h=>k _ _ _ _ _ _ h1 h3 h4 h
end Mini
end
section
set_option genInjectivity false
set_option genSizeOf false
namespace La
mutual
inductive T where
 | v (i:QH) | c (n:QH) | a (x y:T) | p (x:T) | s (x y:T) | m (k:QH) (x:T)
inductive F where
 | l (x y:T) | t (x y:T) | e (x y:T) | n (x y:T) | u (x y:T) | w (x y:T) | f
inductive C where
 | f (ms:QH) | s (j:QH) (p q:C) | n (j:QH) (p q:C)
def nth (v:QC QH):QH->QH:=Q0d (Y7:=fun _=>QH->QH) (fun _=>0) (fun x _ r i=>Q8Y (Y7:=fun _=>QH) x (fun k _=>r k) i) v
def dT (v:QC QH) (t:T):QH:=Q9t (Y7:=fun _=>QH) (nth v) (fun n=>n) (fun _ _ x y=>x+y) (fun _ x=>x+1) (fun _ _ x y=>x - y) (fun k _ x=>k*x) t
def dF (v:QC QH) (f:F):Prop:=F.rec (Y7:=fun _=>Prop) (fun x y=>dT v x<=dT v y) (fun x y=>dT v x < dT v y) (fun x y=>dT v x=dT v y) (fun x y=>dT v x≠dT v y) (fun x y=>¬dT v x<=dT v y) (fun x y=>¬dT v x < dT v y) Yn f
def imp (v:QC QH) (hs:QC F) (g:F):Prop:=Q0d (Y7:=fun _=>Prop) (dF v g) (fun h _ r=>dF v h->r) hs
abbrev Po:=QC X4
def ev (p:Po) (d:QC X4):X4:=Q0d (Y7:=fun _=>QC X4->X4) (fun _=>0) (fun a _ r d=>Q0d (Y7:=fun _=>X4) 0 (fun x d _=>a*x+r d) d) p d
def add (p q:Po):Po:=Q0d (Y7:=fun _=>Po->Po) (fun q=>q) (fun a p r q=>Q0d (Y7:=fun _=>Po) (a::p) (fun b q _=>(a+b)::r q) q) p q
def mul (k:X4) (p:Po):Po:=Q0d (Y7:=fun _=>Po) [] (fun a _ r=>(k*a)::r) p
def un (i:QH):Po:=Q8Y (Y7:=fun _=>Po) [1] (fun _ r=>0::r) i
def nI (d:QC X4) (i:QH):X4:=Q0d (Y7:=fun _=>QH->X4) (fun _=>0) (fun x _ r i=>Q8Y (Y7:=fun _=>X4) x (fun k _=>r k) i) d i
theorem FX (p:Po):∀q d,ev (add p q) d=ev p d+ev q d:=by
 induction p with
 | Zo=>intro q d;exact (QEO _).Q37
 | Xx a p ih =>
  intro q d
  induction q with
  | Zo=>exact (Q6n _).Q37
  | Xx b q _ =>
   cases d with
   | Zo=>rfl
   | Xx x d =>
    show (a+b)*x+ev (add p q) d=(a*x+ev p d)+(b*x+ev q d)
    rw [ih,QFZ,QDD,Int.add_left_comm (b*x),<- QDD]
theorem DI (k:X4) (p:Po):∀d,ev (mul k p) d=k*ev p d:=by
 induction p with
 | Zo=>intro d;exact (QEP _).Q37
 | Xx a p ih =>
  intro d
  cases d with
  | Zo=>exact (QEP _).Q37
  | Xx x d =>
   show (k*a)*x+ev (mul k p) d=k*(a*x+ev p d)
   rw [ih,Int.mul_add,Int.mul_assoc]
theorem NM (i:QH):∀d,ev (un i) d=nI d i:=by
 induction i with
 | Q1x =>
  intro d
  cases d with
  | Zo=>rfl
  | Xx x d=>exact (Q6n _).QR (Q7l x)
 | Q1y i ih =>
  intro d
  cases d with
  | Zo=>rfl
  | Xx x d=>show 0*x+ev (un i) d=nI d i;rw [ih,QEQ,QEO]
def sub (x y:Po):Po:=add x (mul (-1) y)
theorem JU (p q d):ev (sub p q) d=ev p d - ev q d:=by
 unfold sub;rw [FX,DI,QBU,Q7l];rfl
def eqT (x:T):T->Qu:=Q9t (Y7:=fun _=>T->Qu)
 (fun i y=>Q9t (Y7:=fun _=>Qu) (fun j=>Q8X i j) (fun _=>QJ) (fun _ _ _ _=>QJ) (fun _ _=>QJ) (fun _ _ _ _=>QJ) (fun _ _ _=>QJ) y)
 (fun i y=>Q9t (Y7:=fun _=>Qu) (fun _=>QJ) (fun j=>Q8X i j) (fun _ _ _ _=>QJ) (fun _ _=>QJ) (fun _ _ _ _=>QJ) (fun _ _ _=>QJ) y)
 (fun _ _ f g y=>Q9t (Y7:=fun _=>Qu) (fun _=>QJ) (fun _=>QJ) (fun a b _ _=>f a&&g b) (fun _ _=>QJ) (fun _ _ _ _=>QJ) (fun _ _ _=>QJ) y)
 (fun _ f y=>Q9t (Y7:=fun _=>Qu) (fun _=>QJ) (fun _=>QJ) (fun _ _ _ _=>QJ) (fun a _=>f a) (fun _ _ _ _=>QJ) (fun _ _ _=>QJ) y)
 (fun _ _ f g y=>Q9t (Y7:=fun _=>Qu) (fun _=>QJ) (fun _=>QJ) (fun _ _ _ _=>QJ) (fun _ _=>QJ) (fun a b _ _=>f a&&g b) (fun _ _ _=>QJ) y)
 (fun k _ f y=>Q9t (Y7:=fun _=>Qu) (fun _=>QJ) (fun _=>QJ) (fun _ _ _ _=>QJ) (fun _ _=>QJ) (fun _ _ _ _=>QJ) (fun j a _=>Q8X k j&&f a) y) x
theorem EQ {a b:Qu} (h:(a&&b)=QM):a=QM/\b=QM:=Q1c h
theorem NN (x:T):∀y,eqT x y=QM->x=y:=by
 induction x with
 | v i=>intro y h;cases y with
  | v j=>exact Z8 T.v (Q11 h)
  | _=>exact XF h Qj
 | c i=>intro y h;cases y with
  | c j=>exact Z8 T.c (Q11 h)
  | _=>exact XF h Qj
 | a p q f g=>intro y h;cases y with
  | a p' q'=>have:=EQ h;rw [f _ this.1,g _ this.2]
  | _=>exact XF h Qj
 | p p f=>intro y h;cases y with
  | p p'=>rw [f _ h]
  | _=>exact XF h Qj
 | s p q f g=>intro y h;cases y with
  | s p' q'=>have:=EQ h;rw [f _ this.1,g _ this.2]
  | _=>exact XF h Qj
 | m k p f=>intro y h;cases y with
  | m k' p'=>have:=EQ h;rw [Q11 this.1,f _ this.2]
  | _=>exact XF h Qj
def ix (x y:T) (S:QC (T×T)):QW QH:=Q0d (Y7:=fun _=>QW QH) QG (fun p _ r=>Q7h (Y7:=fun _=>QW QH) (Q3Q (Y7:=fun _=>QW QH) QG (fun k=>QB (k+1)) r) (QB 0) (eqT x p.1&&eqT y p.2)) S
def o2 (a b:QW Po) (f:Po->Po->Po):QW Po:=Q3Q (Y7:=fun _=>QW Po) QG (fun x=>Q3Q (Y7:=fun _=>QW Po) QG (fun y=>QB (f x y)) b) a
theorem E8 {a b:QW Po} {f r} (h:o2 a b f=QB r):∃x y,a=QB x/\b=QB y/\r=f x y:=by
 cases a with
 | QG=>exact nomatch h
 | QB x =>
  cases b with
  | QG=>exact nomatch h
  | QB y=>exact ⟨x,y,QA,QA,(X2 h).Q37⟩
def lin (n:QH) (S:QC (T×T)) (t:T):QW Po:=Q9t (Y7:=fun _=>QW Po)
 (fun i=>Q7h (Y7:=fun _=>QW Po) QG (QB (un (i+1))) (QH6 i n)) (fun k=>QB [Q1h k]) (fun _ _ x y=>o2 x y add) (fun _ x=>o2 x x fun x _=>add [1] x)
 (fun a b _ _=>Q3Q (Y7:=fun _=>QW Po) QG (fun j=>QB (un (n+1+j))) (ix a b S)) (fun k _ x=>o2 x x fun x _=>mul (Q1h k) x) t
def Q7V (v d:QC QH):QC X4:=1::(v++d).map Q1h
def ds (v:QC QH) (S:QC (T×T)):QC QH:=S.map fun p=>dT v p.1 - dT v p.2
theorem JK (l:QC QH):∀i,nI (QH0 Q1h) i=(nth l i:QH):=by
 induction l with
 | Zo=>intro i;rfl
 | Xx x l ih =>
  intro i
  cases i with
  | Q1x=>rfl
  | Q1y i=>exact ih i
theorem Nk (a b:QC QH):∀i,i < ZI->nth (a++b) i=nth a i:=by
 induction a with
 | Zo=>intro i h;exact XF h (YR _)
 | Xx x a ih =>
  intro i h
  cases i with
  | Q1x=>rfl
  | Q1y i=>exact ih i (Zw h)
theorem IN (a b:QC QH) (j:QH):nth (a++b) (ZI+j)=nth b j:=by
 induction a with
 | Zo=>show nth b (0+j)=_;rw [Q1D]
 | Xx x a ih =>
  have:(x::a).ZT+j=(ZI+j)+1:=Q9u _ _
  rw [this];exact ih
theorem afT (v:QC QH) (x y:T) (S:QC (T×T)):∀j,ix x y S=QB j->nth (ds v S) j=dT v x - dT v y:=by
 induction S with
 | Zo=>intro j h;exact nomatch h
 | Xx p S ih =>
  intro j h
  have h':Q7h (Y7:=fun _=>QW QH) (Q3Q (Y7:=fun _=>QW QH) QG (fun k=>QB (k+1)) (ix x y S)) (QB 0) (eqT x p.1&&eqT y p.2)=QB j:=h
  clear h
  cases e:(eqT x p.1&&eqT y p.2) with
  | QM =>
   rw [e]at h'
   have:=EQ e
   rw [<- X2 h',NN _ _ this.1,NN _ _ this.2];rfl
  | QJ =>
   rw [e]at h'
   cases f:ix x y S with
   | QG=>rw [f]at h';exact nomatch h'
   | QB k =>
    rw [f]at h'
    rw [<- X2 h']
    exact ih k f
theorem Nt (v:QC QH) (S:QC (T×T)) (t:T):∀p,lin Q1i S t=QB p->ev p (Q7V v (ds v S))=(dT v t:QH):=by
 induction t with
 | v i =>
  intro p h
  have h':Q7h (Y7:=fun _=>QW Po) QG (QB (un (i+1))) (QH6 i Q1i)=QB p:=h
  clear h
  cases e:QH6 i Q1i with
  | QJ=>rw [e]at h';exact nomatch h'
  | QM =>
   rw [e]at h'
   rw [<- X2 h',NM]
   show nI ((v++ds v S).map Q1h) i=_
   rw [JK,Nk _ _ _ (YB e)];rfl
 | c n =>
  intro p h
  rw [<- X2 h]
  exact (Q6n _).QR (QBV _)
 | a x y f g =>
  intro p h
  obtain (⟨q,r,e1,e2,QA⟩):=E8 h
  rw [FX,f q e1,g r e2];rfl
 | p x f =>
  intro p h
  obtain (⟨q,r,e1,e2,QA⟩):=E8 h
  rw [FX,f q e1]
  exact Q9v 1 _
 | s x y _ _ =>
  intro p h
  have h':Q3Q (Y7:=fun _=>QW Po) QG (fun j=>QB (un (Q1i+1+j))) (ix x y S)=QB p:=h
  clear h
  cases e:ix x y S with
  | QG=>rw [e]at h';exact nomatch h'
  | QB j =>
   rw [e]at h'
   rw [<- X2 h',NM]
   have:Q1i+1+j=(Q1i+j)+1:=Q9u _ _
   rw [this]
   show nI ((v++ds v S).map Q1h) _=_
   rw [JK,IN,afT v x y S j e];rfl
 | m k x f =>
  intro p h
  obtain (⟨q,r,e1,e2,QA⟩):=E8 h
  rw [DI,f q e1]
  show _=((k*dT v x:QH):X4)
  rw [Int.natCast_mul];rfl
def dd (n:QH) (S:QC (T×T)) (x y:T):QW Po:=o2 (lin n S y) (lin n S x) sub
theorem EN {v S x y p} (h:dd Q1i S x y=QB p):ev p (Q7V v (ds v S))=(dT v y:X4) - dT v x:=by
 obtain (⟨q,r,e1,e2,QA⟩):=E8 h
 rw [JU,Nt _ _ _ _ e1,Nt _ _ _ _ e2]
structure St where
 g:QC Po
 n:QC Po
def St.ok (s:St) (d:QC X4):Prop:=(∀p∈s.g,0<=ev p d)/\(∀p∈s.n,ev p d≠0)
def St.p (s:St) (p:Po):St:=⟨p::s.g,s.n⟩
theorem St.ok.p {s:St} {d p} (h:s.ok d) (k:0<=ev p d):(s.p p).ok d:=⟨fun q hq=>by
 cases hq with
 | Zf=>exact k
 | Q38 _ hq=>exact h.1 q hq,h.2⟩
def oS (o:QW Po) (f:Po->St):QW St:=Q3Q (Y7:=fun _=>QW St) QG (fun p=>QB (f p)) o
theorem Dg {o f r} (h:oS o f=QB r):∃p,o=QB p/\r=f p:=by
 cases o with
 | QG=>exact nomatch h
 | QB p=>exact ⟨p,QA,(X2 h).Q37⟩
def fct (n:QH) (S:QC (T×T)) (f:F) (s:St):QW St:=F.rec (Y7:=fun _=>QW St)
 (fun x y=>oS (dd n S x y) fun p=>s.p p)
 (fun x y=>oS (dd n S x y) fun p=>s.p (add [-1] p))
 (fun x y=>oS (dd n S x y) fun p=>(s.p p).p (mul (-1) p))
 (fun x y=>oS (dd n S x y) fun p=>⟨s.g,p::s.n⟩)
 (fun x y=>oS (dd n S y x) fun p=>s.p (add [-1] p))
 (fun x y=>oS (dd n S y x) fun p=>s.p p) (QB s) f
theorem I7 {v d p}:ev (add [-1] p) (Q7V v d)=ev p (Q7V v d) - 1:=by
 rw [FX]
 exact Q9v (-1) _
theorem i_l {x y:QH} (h:x<=y):(0:X4)<=y - x:=Q1E (YF h)
theorem i_t {x y:QH} (h:x < y):(0:X4)<=y - x - 1:=Q1E (Int.le_sub_left_of_add_le (YF h))
theorem NL {v S f s s'} (h:fct Q1i S f s=QB s') (k:s.ok (Q7V v (ds v S))) (d:dF v f):s'.ok (Q7V v (ds v S)):=by
 cases f with
 | l x y =>
  obtain (⟨p,e,QA⟩):=Dg h
  exact k.p (by rw [EN e];exact i_l d)
 | t x y =>
  obtain (⟨p,e,QA⟩):=Dg h
  exact k.p (by rw [I7,EN e];exact i_t d)
 | e x y =>
  obtain (⟨p,e,QA⟩):=Dg h
  have d':dT v x=dT v y:=d
  exact (k.p (by rw [EN e];exact i_l (Q20 d'))).p (by rw [DI,EN e,d',Q9w];exact Q2W 0)
 | n x y =>
  obtain (⟨p,e,QA⟩):=Dg h
  refine ⟨k.1,fun q hq=>?_⟩
  cases hq with
  | Zf=>rw [EN e];exact fun c=>d (Int.ofNat.inj (Int.sub_eq_zero.mp c).Q37)
  | Q38 _ hq=>exact k.2 q hq
 | u x y =>
  obtain (⟨p,e,QA⟩):=Dg h
  exact k.p (by rw [I7,EN e];exact i_t (Q6B d))
 | w x y =>
  obtain (⟨p,e,QA⟩):=Dg h
  exact k.p (by rw [EN e];exact i_l (QDE d))
 | f=>exact Q1R d
def Uh (ms:QC QH) (ps:QC Po):Po:=Q0d (Y7:=fun _=>QC Po->Po) (fun _=>[]) (fun m _ r ps=>Q0d (Y7:=fun _=>Po) [] (fun p ps _=>add (mul (Q1h m) p) (r ps)) ps) ms ps
theorem Pn (d:QC X4) (ms:QC QH):∀ps,(∀p∈ps,0<=ev p d)->0<=ev (Uh ms ps) d:=by
 induction ms with
 | Zo=>intro ps _;exact Q2W 0
 | Xx m ms ih =>
  intro ps h
  cases ps with
  | Zo=>exact Q2W 0
  | Xx p ps =>
   show 0<=ev (add (mul (Q1h m) p) (Uh ms ps)) d
   rw [FX,DI]
   have h1:=ih ps fun q hq=>h q (.Q38 _ hq)
   have h2:=Int.mul_nonneg (Yt m) (h p (.Zf _))
   exact QCE h2 h1
def afE (p:Po):Qu:=Q0d (Y7:=fun _=>Qu) QM (fun a _ r=>QFa a 0&&r) p
def afG (p:Po):Qu:=Q0d (Y7:=fun _=>Qu) QJ (fun a p _=>QFa a (-1)&&afE p) p
theorem N9 {a b:X4} (h:QFa a b=QM):a<=b:=Int.ble'_eq_true _ _ |>.mp h
theorem O5 (p:Po):afE p=QM->∀d:QC QH,ev p (d.map Q1h)<=0:=by
 induction p with
 | Zo=>intro _ d;exact Q2W 0
 | Xx a p ih =>
  intro h d
  have h:=EQ h
  cases d with
  | Zo=>exact Q2W 0
  | Xx x d =>
   show a*(x:X4)+ev p (d.map Q1h)<=0
   have h1:=ih h.2 d
   exact Q7m (Int.mul_nonpos_of_nonpos_of_nonneg (N9 h.1) (Yt x)) h1
theorem O8 {p:Po} (h:afG p=QM) (v d:QC QH):ev p (Q7V v d) < 0:=by
 cases p with
 | Zo=>exact XF h Qj
 | Xx a p =>
  have h:=EQ h
  show a*1+ev p ((v++d).map Q1h) < 0
  have h1:=O5 p h.2 (v++d)
  rw [QBV]
  exact Q9I (Q7m (N9 h.1) h1) (Q8k 0)
def oB {α:Type} (o:QW α) (f:α->Qu):Qu:=Q3Q (Y7:=fun _=>Qu) QJ f o
theorem DX {α:Type} {o:QW α} {f} (h:oB o f=QM):∃p,o=QB p/\f p=QM:=by
 cases o with
 | QG=>exact XF h Qj
 | QB p=>exact ⟨p,QA,h⟩
def nt {α:Type} (l:QC α) (j:QH):QW α:=Q0d (Y7:=fun _=>QH->QW α) (fun _=>QG) (fun x _ r i=>Q8Y (Y7:=fun _=>QW α) (QB x) (fun k _=>r k) i) l j
theorem TX {α:Type} (l:QC α):∀j x,nt l j=QB x->x∈l:=by
 induction l with
 | Zo=>intro j x h;exact nomatch h
 | Xx y l ih =>
  intro j x h
  cases j with
  | Q1x=>rw [<- X2 h];exact .Zf _
  | Q1y j=>exact .Q38 _ (ih j x h)
theorem afD (v:QC QH) (S:QC (T×T)):∀j d,nt S j=QB d->nth (ds v S) j=dT v d.1 - dT v d.2:=by
 induction S with
 | Zo=>intro j x h;exact nomatch h
 | Xx y l ih =>
  intro j x h
  cases j with
  | Q1x=>rw [<- X2 h];rfl
  | Q1y j=>exact ih j x h
def dg (n:QH):QC QH:=Q8Y (Y7:=fun _=>QH->QC QH->QC QH) (fun _ a=>a) (fun _ r n a=>Q7h (Y7:=fun _=>QC QH) (r (Nat.div n 10) (Nat.mod n 10::a)) a (QER n 1)) 40 n []
def run (n:QH) (S:QC (T×T)) (c:C):St->Qu:=C.rec (Y7:=fun _=>St->Qu)
 (fun ms s=>afG (Uh (dg ms) s.g))
 (fun j _ _ p q s=>oB (nt S j) fun d=>oB (dd n S d.2 d.1) fun e=>p (((s.p e).p (sub (un (n+1+j)) e)).p (sub e (un (n+1+j))))&&q ((s.p (add [-1] (mul (-1) e))).p (mul (-1) (un (n+1+j)))))
 (fun j _ _ p q s=>oB (nt s.n j) fun d=>p (s.p (add [-1] d))&&q (s.p (add [-1] (mul (-1) d)))) c
theorem TM (v:QC QH) (S:QC (T×T)) (c:C):∀s:St,s.ok (Q7V v (ds v S))->run Q1i S c s=QM->Yn:=by
 induction c with
 | f ms =>
  intro s k h
  have h1:=Pn _ (dg ms) _ k.1
  exact Q5M h1 (O8 h v (ds v S))
 | s j p q f g =>
  intro s k h
  obtain (⟨d,e1,h⟩):=DX h
  obtain (⟨e,e2,h⟩):=DX h
  have h:=EQ h
  have w:=EN e2
  have u:ev (un (Q1i+1+j)) (Q7V v (ds v S))=((dT v d.1 - dT v d.2:QH):X4):=by
   rw [NM]
   have:Q1i+1+j=(Q1i+j)+1:=Q9u _ _
   rw [this]
   show nI ((v++ds v S).map Q1h) _=_
   rw [JK,IN,afD v S j d e1]
  by_cases c:dT v d.2<=dT v d.1
  ·rw [QDF c]at u
   exact f _ (((k.p (by rw [w];exact i_l c)).p (by rw [JU,u,w,Q9w];exact Q2W 0)).p (by rw [JU,u,w,Q9w];exact Q2W 0)) h.1
  ·rw [Nat.sub_eq_zero_of_le (X7 (Q6B c))]at u
   exact g _ ((k.p (by rw [I7,DI,w,QBU,Q7l,Int.neg_sub];exact i_t (Q6B c))).p (by rw [DI,u];exact Q2W 0)) h.2
 | n j p q f g =>
  intro s k h
  obtain (⟨d,e1,h⟩):=DX h
  have h:=EQ h
  have w:=k.2 d (TX _ _ _ e1)
  by_cases c:0 < ev d (Q7V v (ds v S))
  ·exact f _ (k.p (by rw [I7];exact Q1E c)) h.1
  ·exact g _ (k.p (by rw [I7,DI,QBU,Q7l];exact Q1E (Int.le_neg_of_le_neg (Int.le_sub_one_of_lt (Q6C ⟨Q6D c,w⟩))))) h.2
def ng (f:F):F:=F.rec (Y7:=fun _=>F) (fun x y=>.t y x) (fun x y=>.l y x) (fun x y=>.n x y) (fun x y=>.e x y) (fun x y=>.l x y) (fun x y=>.t x y) (.l (.c 0) (.c 0)) f
theorem afF {v f} (h:dF v (ng f)->Yn):dF v f:=by
 cases f with
 | l x y=>exact QDE h
 | t x y=>exact Q6B h
 | e x y=>exact @Decidable.of_not_not (dT v x=dT v y) (Nat.decEq ..) h
 | n x y=>exact h
 | u x y=>exact h
 | w x y=>exact h
 | f=>exact h (Qh _)
def chk (n:QH) (S:QC (T×T)) (c:C) (hs:QC F):St->Qu:=Q0d (Y7:=fun _=>St->Qu) (fun s=>run n S c s) (fun h _ r s=>oB (fct n S h s) r) hs
theorem Ul {v S c} (hs:QC F) (g:F):∀s:St,s.ok (Q7V v (ds v S))\/dF v g->chk Q1i S c hs s=QM->imp v hs g:=by
 induction hs with
 | Zo =>
  intro s k h
  cases k with
  | inl k=>exact (TM v S c s k h).Q2m
  | inr k=>exact k
 | Xx f hs ih =>
  intro s k h d
  obtain (⟨s',e,h⟩):=DX h
  exact ih s' (k.elim (fun k=>.inl (NL e k d)) .inr) h
def sT (t:T) (r:QC (T×T)):QC (T×T):=Q9t (Y7:=fun _=>QC (T×T)->QC (T×T)) (fun _ r=>r) (fun _ r=>r) (fun _ _ f g r=>f (g r)) (fun _ f r=>f r) (fun x y f g r=>f (g ((x,y)::r))) (fun _ _ f r=>f r) t r
def sF (f:F) (r:QC (T×T)):QC (T×T):=F.rec (Y7:=fun _=>QC (T×T)) (fun x y=>sT x (sT y r)) (fun x y=>sT x (sT y r)) (fun x y=>sT x (sT y r)) (fun x y=>sT x (sT y r)) (fun x y=>sT x (sT y r)) (fun x y=>sT x (sT y r)) r f
def sFs (fs:QC F):QC (T×T):=Q0d (Y7:=fun _=>QC (T×T)) [] (fun f _ r=>sF f r) fs
def top (n:QH) (hs:QC F) (g:F) (c:C) (S:QC (T×T)):Qu:=oB (fct n S (ng g) ⟨[],[]⟩) (chk n S c hs)
theorem go (v:QC QH) (hs:QC F) (g:F) (c:C) (h:top Q1i hs g c (sFs (ng g::hs))=QM):imp v hs g:=by
 obtain (⟨s',e,h⟩):=DX h
 refine Ul hs g s' ?_ h
 by_cases k:dF v g
 ·exact .inr k
 ·refine .inl (NL e ⟨fun p hp=>(nomatch hp),fun p hp=>(nomatch hp)⟩ ?_)
  by_cases q:dF v (ng g)
  ·exact q
  ·exact XF (afF (v:=v) (f:=g) q) k
abbrev v0:=T.v 0
abbrev v1:=T.v 1
abbrev v2:=T.v 2
abbrev v3:=T.v 3
abbrev v4:=T.v 4
abbrev v5:=T.v 5
abbrev v6:=T.v 6
abbrev v7:=T.v 7
abbrev v8:=T.v 8
abbrev v9:=T.v 9
abbrev v10:=T.v 10
abbrev v11:=T.v 11
abbrev v12:=T.v 12
abbrev v13:=T.v 13
abbrev v14:=T.v 14
end
example (a b d:Nat):a<=b->b < d->a+1<=d:=go [a,b,d] [.l v0 v1,.t v1 v2] (.l (.p v0) v2) (.f 1111) rfl
end La
end
section
namespace Mini
open La
mutual
theorem ia1 {a b:QH} (h:a=b+1):(a:X4) - 1=b:=h▸Q9J (b:X4) 1
theorem ia2 {a b c:QH} (h:a+b=c):(a:X4)+b=c:=h▸QA
theorem ia3 {a b c:QH} (h:a+1=c+b):(a:X4) - b+1=c:=by
 rw [Int.sub_eq_add_neg,Int.add_right_comm,show (a:X4)+1=c+b from ia2 h,Int.add_neg_cancel_right]
theorem ia4 {a b:QH} (h:a+1=b):(a:X4)+1=b:=h▸QA
theorem ia5 {a b c:QH} (h:a=c+b):(a:X4) - b=c:=h▸Q9J (c:X4) b
end
variable {a b c d e f g h i j k l m n o p q r s t u v:Nat}
mutual
def zq1:=go [a,b,c] [.t (.p v0) v1,.e v1 (.p v2)] (.t v0 v2) (.f 10111) QA
theorem zq2:a<=b->a+1<=b+1:=go [a,b] [.l v0 v1] (.l (.p v0) (.p v1)) (.f 111) QA
def zq3:=go [a,b,c] [.l (.a v0 v1) v2] (.l (.a v0 (.p v1)) (.p v2)) (.f 111) QA
def zq4:=go [a,b] [.l v0 v1] (.e (.s (.p v1) (.p v0)) (.s v1 v0)) (.n 0 (.s 0 (.s 1 (.f 11000101) (.f 1011)) (.f 10101)) (.s 0 (.s 1 (.f 10101001) (.f 1011001)) (.f 1101))) QA
def zq5:=go [a,b] [] (.e (.s v0 v1) (.s (.p v0) (.p v1))) (.n 0 (.s 0 (.s 1 (.f 11000101) (.f 1011)) (.s 1 (.f 1100011) (.f 110001))) (.s 0 (.s 1 (.f 10101001) (.f 1011001)) (.f 1101))) QA
def zq6:=go [a] [.t (.c 0) v0] (.t (.s v0 (.c 1)) v0) (.s 0 (.f 110001) (.f 1011)) QA
def zq7:=go [a,b,c] [.l (.a v0 (.s v1 (.c 1))) v2] (.l (.a v1 v0) (.p v2)) (.s 0 (.f 101011) (.f 10111)) QA
theorem zq8:0<=a:=go [a] [] (.l (.c 0) v0) (.f 11) QA
def zq9:=go [a,b] [.t v0 v1] (.t (.c 0) v1) (.f 111) QA
def ahv:=go [a,b,c] [.t v0 v1,.l v2 v0] (.l v2 v1) (.f 1111) QA
def ahu:=go [a,b,c] [.t v0 v1,.l v2 v0] (.t v2 v1) (.f 1111) QA
def aht:=go [a] [.w (.c 0) v0] (.e v0 (.c 0)) (.n 0 (.f 11) (.f 111)) QA
def Ov:=go [a,b,c,d] [.l v0 v1,.t v1 v0] (.e v2 v3) (.f 111) QA
def aen:=go [a,b,c] [.l (.a v0 v1) (.p v2)] (.l v1 (.s (.p v2) v0)) (.s 0 (.f 101011) (.f 10111)) QA
def aei:=go [a,b,c,d] [.t v0 v1,.l (.a v2 v3) (.p v0)] (.l (.a (.s (.p v0) v2) v2) v1) (.s 0 (.f 1100011) (.f 1011)) QA
def aed:=go [a,b] [.t (.c 0) v0,.l (.s v0 (.c 1)) v1] (.e (.s (.p v1) v0) (.s v1 (.s v0 (.c 1)))) (.n 0 (.s 0 (.s 1 (.s 2 (.f 11000100101) (.f 1100000001)) (.f 101000001)) (.s 1 (.f 10100101) (.f 10101))) (.s 0 (.s 1 (.s 2 (.f 10101001001) (.f 1011001001)) (.f 101000001)) (.f 1101))) QA
def ahs:=go [a] [.t (.c 0) v0] (.e (.s v0 (.s v0 (.c 1))) (.c 1)) (.n 0 (.s 0 (.s 1 (.f 10101001) (.f 1011)) (.f 10101)) (.s 0 (.s 1 (.f 11000101) (.f 1011)) (.f 10101))) QA
def ad2:=go [a,b,c] [.l (.a v0 (.s v1 (.c 1))) v2] (.l v0 (.s v2 (.s v1 (.c 1)))) (.s 1 (.f 101011) (.f 10111)) QA
def adT:=go [a,b,c] [.t v0 (.s v1 (.s v2 (.c 1)))] (.e (.s v1 (.s v2 (.c 1))) (.p (.s (.s v1 (.s v2 (.c 1))) (.c 1)))) (.n 0 (.s 4 (.f 11001) (.f 10101)) (.s 4 (.f 10101) (.f 1011))) QA
def adQ:=go [a,b,c] [.t v0 (.s v1 (.s v2 (.c 1)))] (.l v0 (.s (.s v1 (.s v2 (.c 1))) (.c 1))) (.s 2 (.f 101011) (.f 10111)) QA
def ahr:=go [a] [.e (.p (.p v0)) (.c 1)] (.f) (.f 101) QA
def adB:=go [a] [.e (.p v0) (.c 0)] (.f) (.f 101) QA
def Ou:=go [a,b,c] [.l (.a v0 v1) (.p v2)] (.e (.a (.s (.p v2) v0) v0) (.p v2)) (.n 0 (.s 0 (.f 10101) (.f 1011)) (.s 0 (.f 11001) (.f 10101))) QA
def Hs:=go [a,b] [.l v0 v1] (.l v0 (.p v1)) (.f 111) QA
def ahq:=go [a,b] [.l (.p v0) v1,.e v0 v1] (.f) (.f 1101) QA
def ada:=go [a,b,c] [.l (.a v0 v1) v2] (.l v0 (.s v2 v1)) (.s 0 (.f 101011) (.f 10111)) QA
def Hr:=go [a,b] [.l v0 v1] (.l v0 v1) (.f 111) QA
def acV:=go [a,b,c,d,e] [.t (.c 0) v0,.l (.a v1 v0) v2,.l (.a v3 v4) v1] (.l (.a v3 v4) v2) (.f 11111) QA
def Lf:=go [a] [.t (.c 0) v0] (.t (.c 0) v0) (.f 111) QA
def DK:=go [a,b,c] [.l (.a v0 v1) v2] (.l (.a v0 v1) v2) (.f 111) QA
def acv:=go [a,b,c,d] [.t (.c 0) v0,.l v1 v2,.l (.a v2 v0) v3] (.l v1 v3) (.f 11111) QA
def aco:=go [a,b,c,d,e] [.t (.c 0) v0,.l (.a v1 v2) v3,.l (.a v3 v0) v4] (.l (.a v1 v2) v4) (.f 11111) QA
def ahp:=go [a,b,c] [] (.l v0 (.a (.p (.m 2 (.s v1 v2))) v0)) (.f 11) QA
def aho:=go [a,b,c,d] [] (.l v0 (.a (.p (.m 2 (.s v1 (.a v2 v3)))) v0)) (.f 11) QA
def ahn:=go [a,b,c,d,e,f,g,h] [.t (.c 0) v0,.l v1 v2,.l (.a v2 v0) v3,.l v4 (.a (.p (.m 2 (.s v2 v1))) v5),.l v6 (.a (.p (.m 2 (.s v3 (.a v2 v0)))) v4),.e v7 (.a (.p (.m 2 (.s v3 v1))) v5)] (.t v6 v7) (.s 0 (.s 1 (.s 2 (.f 102020020010110021) (.f 1011001)) (.f 10100000001)) (.f 101000001)) QA
def ahm:=go [a,b,c,d,e] [.l v0 v1,.l (.a v1 v2) v3,.t (.c 0) v2,.l v4 (.s v3 (.a v1 v2))] (.l (.p v4) (.s v3 v0)) (.s 0 (.s 1 (.f 110001011011) (.f 101000001)) (.f 1010111)) QA
def L8:=go [a,b] [.l v0 v1] (.e (.s (.s v1 (.c 1)) v0) (.s (.s v1 v0) (.c 1))) (.n 0 (.s 0 (.s 1 (.s 2 (.s 3 (.f 11001000100101) (.f 1100000000001)) (.f 1011001)) (.s 2 (.s 3 (.f 1100100010101) (.f 110000000001)) (.f 1010000001))) (.s 2 (.s 3 (.f 1100100011) (.f 110000001)) (.f 1010001))) (.s 0 (.s 1 (.s 2 (.s 3 (.f 10100101001001) (.f 1010101001001)) (.f 1011001001)) (.f 1100001)) (.s 1 (.f 1100101) (.f 110001)))) QA
def Ot:=go [a,b,c,d] [.l (.a v0 v1) v2,.t v3 v1] (.t v0 (.s v2 v3)) (.s 0 (.f 1010111) (.f 10111)) QA
def ahl:=go [a,b,c,d] [.l (.a v0 v1) v2,.t v2 v3] (.l (.a v0 (.p v1)) v3) (.f 1111) QA
def abN:=go [a,b] [.l v0 v1] (.e (.a v0 (.s v1 v0)) v1) (.n 0 (.s 0 (.f 10101) (.f 1011)) (.s 0 (.f 11001) (.f 10101))) QA
def ahk:=go [a,b,c,d] [.t v0 v1,.l (.a v1 (.s v2 v3)) v0] (.t v2 v3) (.f 111) QA
theorem Tm:¬a<=b->b < a:=go [a,b] [.u v0 v1] (.t v1 v0) (.f 111) QA
def ahj:=go [a,b,c,d] [.t v0 v1,.l (.a v2 (.s v1 v0)) v3] (.t v2 v3) (.s 0 (.f 1010111) (.f 10101)) QA
theorem L6:¬a < b->b<=a:=go [a,b] [.w v0 v1] (.l v1 v0) (.f 111) QA
def ahh:=go [a,b,c] [.l (.a v0 (.p v1)) v2] (.t v1 v2) (.f 111) QA
def ahg:=go [a,b,c,d,e] [.t v0 v1,.l v2 v0,.l (.a v1 (.s v3 (.p v4))) v2] (.l v3 v4) (.f 1111) QA
def ahf:=go [a,b] [.u (.p v0) v1] (.l v1 v0) (.f 111) QA
def ahe:=go [a,b,c,d,e] [.l v0 v1,.l (.a v2 (.s v3 v4)) v0] (.l v2 v1) (.f 1111) QA
def aaJ:=go [a,b,c] [.l v0 v1,.t v1 v2,.e v2 (.p v0)] (.e v1 v0) (.n 0 (.f 110001) (.f 11011)) QA
def aaC:=go [a,b] [.t v0 v1] (.e v1 (.p (.s v1 (.c 1)))) (.n 0 (.s 0 (.f 11001) (.f 10101)) (.s 0 (.f 10101) (.f 1011))) QA
def aat:=go [a,b,c] [.t v0 v1,.e v1 (.p v2)] (.l v0 v2) (.f 10111) QA
def aam:=go [a,b] [.e v0 (.p v1)] (.t v1 v0) (.f 1101) QA
def ahd:=go [a,b] [] (.e (.a v0 v1) (.a v1 v0)) (.n 0 (.f 11) (.f 11)) QA
def Le:=go [a,b] [.t v0 v1] (.t v0 (.p v1)) (.f 111) QA
theorem Hq:a < a+1:=go [a] [] (.t v0 (.p v0)) (.f 11) QA
def ahc:=go [a,b,c,d,e,f] [.e (.a v0 v1) (.a v2 v3),.e (.a v4 v2) (.a v5 v0)] (.e (.a v4 v1) (.a v5 v3)) (.n 0 (.f 11101) (.f 110101)) QA
def WI:=go [a,b,c,d] [.e v0 (.a v1 v2),.e v3 (.p v0)] (.e v3 (.a v1 (.p v2))) (.n 0 (.f 11101) (.f 110101)) QA
def ahb:=go [a,b] [.l v0 v1] (.e v1 (.a v0 (.s v1 v0))) (.n 0 (.s 0 (.f 11001) (.f 10101)) (.s 0 (.f 10101) (.f 1011))) QA
def aha:=go [a,b,c,d] [.t (.a v0 v1) (.a v0 v2),.t v3 v1] (.t v3 v2) (.f 1111) QA
def ag9:=go [a,b,c,d] [.t (.a v0 v1) (.a v0 v2),.t v3 (.p v1)] (.t v3 v2) (.f 1111) QA
def ag8:=go [a,b,c] [.t (.a v0 v1) (.a v0 v2)] (.t v1 v2) (.f 111) QA
def ag7:=go [a,b,c,d,e] [.l v0 (.a v1 v2),.e (.a v0 v3) (.a v4 v1)] (.l v4 (.a v3 v2)) (.f 11011) QA
def ag6:=go [a,b,c,d,e] [.t (.a v0 v1) v2,.e (.a v2 v3) (.a v4 v0)] (.t (.a v3 v1) v4) (.f 10111) QA
def Tl:=go [a,b,c] [.e v0 v1,.t v2 v1] (.t v2 v0) (.f 11101) QA
def V1:=go [a,b] [.t v0 v1] (.t (.s (.s v1 (.c 1)) v0) v1) (.s 0 (.s 1 (.f 110010001) (.f 11100011)) (.f 1011)) QA
def VS:=go [a,b,c] [.l (.s v0 (.c 1)) v1,.t v2 v0] (.e (.a (.s (.p v1) v0) v2) (.s v1 (.s (.s v0 (.c 1)) v2))) (.n 0 (.s 0 (.s 1 (.s 2 (.s 3 (.f 11000100100101) (.f 1100000000001)) (.f 10101000001)) (.f 10100001)) (.s 1 (.f 101001001) (.f 10101))) (.s 0 (.s 1 (.s 2 (.s 3 (.f 10101001001001) (.f 1011001001001)) (.f 10101000001)) (.f 10100001)) (.s 1 (.f 101001001) (.f 10101)))) QA
def VK:=go [a,b,c] [.l (.a v0 (.s v1 (.c 1))) v2] (.e (.a (.s (.p v2) v1) v1) (.p v2)) (.s 0 (.n 0 (.f 1101) (.f 111)) (.s 1 (.f 1010011) (.f 10101))) QA
def VE:=go [a,b,c] [.e v0 (.a v1 v2)] (.e (.a v1 v2) v0) (.n 0 (.f 1101) (.f 111)) QA
def Vu:=go [a,b] [.e v0 (.p v1)] (.e v0 (.p v1)) (.n 0 (.f 111) (.f 1101)) QA
def Vr:=go [a,b,c,d] [.e (.a v0 v1) v2,.e v2 (.p v3)] (.e v0 (.s (.p v3) v1)) (.n 0 (.s 0 (.f 11001101) (.f 1101)) (.s 0 (.f 101010101) (.f 10110101))) QA
def Os:=go [a,b,c] [.l v0 v1,.t v1 v2] (.t v0 v2) (.f 1111) QA
def ag5:=go [a,b] [.l v0 v1,.l v1 v0] (.e v1 v0) (.n 0 (.f 1101) (.f 111)) QA
def Vk:=go [a,b,c] [.l v0 v1,.t v2 v0] (.e (.s (.s v1 (.c 1)) (.s (.s v0 (.c 1)) v2)) (.a (.s v1 v0) v2)) (.n 0 (.s 0 (.s 1 (.s 2 (.s 3 (.s 4 (.f 11000101001000101) (.f 101000000000000001)) (.f 101100100010001)) (.f 10101000001)) (.f 10100001)) (.f 101011)) (.s 0 (.s 1 (.s 2 (.s 3 (.s 4 (.f 10101000100101001) (.f 1011000100101001)) (.f 1100000000001)) (.f 10101000001)) (.f 10100001)) (.f 101011))) QA
def Tk:=go [a,b] [.l v0 v1] (.e (.a (.s v1 v0) v0) v1) (.n 0 (.s 0 (.f 10101) (.f 1011)) (.s 0 (.f 11001) (.f 10101))) QA
theorem Ld:a - b<=a:=go [a,b] [] (.l (.s v0 v1) v0) (.s 0 (.f 11001) (.f 1101)) QA
def ag4:=go [a,b,c,d] [.e (.a v0 v1) (.a v2 v3)] (.l (.s v0 v3) v2) (.s 0 (.f 1100011) (.f 110001)) QA
def ag3:=go [a,b,c,d,e] [.l (.a v0 (.s v1 (.s v1 v2))) v3,.l v4 v0] (.l (.a v4 (.s v3 v0)) v3) (.s 0 (.f 1100101) (.f 10101)) QA
def ag2:=go [a,b,c,d,e,f,g] [.e (.a v0 v1) (.a v2 v3),.l (.a v3 (.s v4 (.s v4 v5))) v0,.l v6 v1] (.l (.a v6 (.s v0 v3)) v2) (.s 0 (.f 110010011) (.f 10101)) QA
def ag1:=go [a,b,c] [.t v0 (.s v1 v2)] (.t (.a v2 (.s (.s (.s v1 v2) (.c 1)) v0)) v1) (.s 0 (.s 1 (.s 2 (.f 110010010001) (.f 11100010011)) (.f 1010001)) (.f 1101)) QA
def ag0:=go [a,b,c,d,e] [.l (.a v0 (.s v1 (.s v1 v2))) v3,.t v4 (.s v3 (.s v3 v0))] (.t v4 v0) (.s 2 (.s 3 (.f 1100010101) (.f 1011)) (.f 10101)) QA
def agZ:=go [a,b,c,d,e,f,g] [.e (.a v0 v1) (.a v2 v3),.l (.a v3 (.s v4 (.s v4 v5))) v0,.t v6 (.s v2 (.s v0 v3))] (.t v6 v1) (.s 2 (.s 3 (.f 110001010101) (.f 1100001)) (.f 10101)) QA
def Oq:=go [a,b,c] [.t v0 (.s v1 v2)] (.e (.p (.s (.s v1 v2) (.c 1))) (.s v1 v2)) (.n 0 (.s 1 (.f 10101) (.f 1011)) (.s 1 (.f 11001) (.f 10101))) QA
def agY:=go [a,b,c] [.t v0 (.s v1 (.s v1 v2))] (.t (.s (.s v1 (.s v1 v2)) (.c 1)) v2) (.s 0 (.s 1 (.s 2 (.f 110010001001) (.f 1010000001)) (.f 1011)) (.s 1 (.s 2 (.f 11001000101) (.f 1100000101)) (.f 1011))) QA
def agX:=go [a,b,c,d,e] [.e (.a v0 v1) (.a v2 v3),.t v4 (.s v2 (.s v0 v3))] (.t (.s (.s v2 (.s v0 v3)) (.c 1)) v1) (.s 0 (.s 1 (.s 2 (.f 11001000100101) (.f 1010000001)) (.f 1100001)) (.s 1 (.s 2 (.f 1100100010101) (.f 101000001)) (.f 1011))) QA
def Gc:=go [a,b] [] (.l v0 (.a v0 v1)) (.f 11) QA
def agW:=go [a] [] (.e (.s v0 v0) (.c 0)) (.n 0 (.f 11) (.s 0 (.f 11001) (.f 101))) QA
def agV:=go [a,b,c,d,e] [.l (.a v0 (.s (.a v1 v2) v1)) v3,.l v3 v4] (.l (.a v0 (.s v3 v0)) v4) (.s 0 (.f 1100101) (.f 10101)) QA
def agU:=go [a,b,c,d,e,f,g] [.e (.a v0 v1) (.a v2 v3),.l (.a v3 (.s (.a v4 v5) v4)) v0,.l v2 v6] (.l (.a v1 (.s v0 v3)) v6) (.s 0 (.f 110010011) (.f 10101)) QA
theorem UQ:a < b - c->c+a < b:=go [a,b,c] [.t v0 (.s v1 v2)] (.t (.a v2 v0) v1) (.s 0 (.f 110011) (.f 1101)) QA
def agT:=go [a,b,c] [.t (.a v0 (.s v1 v0)) v2] (.t v1 v2) (.s 0 (.f 101011) (.f 10111)) QA
def agS:=go [a,b,c,d,e,f,g] [.e (.a v0 v1) (.a v2 v3),.l (.a v3 (.s (.a v4 v5) v4)) v0,.t (.a v1 (.s v0 v3)) v6] (.t v2 v6) (.s 1 (.f 101010101) (.f 10101)) QA
def agR:=go [a,b] [] (.l v0 (.a v1 (.s v0 v1))) (.s 0 (.f 10101) (.f 1011)) QA
def agQ:=go [a,b,c,d,e] [.l (.a v0 (.s (.a v1 v2) v1)) v3,.t v3 v4] (.t (.a v0 (.s v3 v0)) v4) (.s 0 (.f 1100101) (.f 10101)) QA
def agP:=go [a,b,c,d] [.e (.a v0 v1) (.a v2 v3)] (.l v2 (.a v1 (.s v0 v3))) (.s 0 (.f 1010101) (.f 101101)) QA
def agO:=go [a,b,c,d,e,f,g] [.e (.a v0 v1) (.a v2 v3),.l (.a v3 (.s (.a v4 v5) v4)) v0,.t v2 v6] (.t (.a v1 (.s v0 v3)) v6) (.s 0 (.f 110010011) (.f 10101)) QA
def UP:=go [a,b,c] [.e (.a v0 v1) v2] (.e v2 (.a v0 v1)) (.n 0 (.f 1101) (.f 111)) QA
def UO:=go [a,b,c,d] [.l v0 v1] (.e (.a (.s v1 v0) (.a (.a v2 v0) v3)) (.a (.a v1 v2) v3)) (.n 0 (.s 0 (.f 10101) (.f 1011)) (.s 0 (.f 11001) (.f 10101))) QA
def agN:=go [a,b,c] [] (.l (.a v0 v1) (.a (.a v0 v1) v2)) (.f 11) QA
def agM:=go [a,b,c,d,e,f,g,h,i] [.e (.a v0 v1) (.a v2 v3),.e (.a v4 v5) (.a v6 v7),.e v7 (.a v0 v8),.e v5 (.a v2 v8)] (.e (.a v4 v1) (.a v6 v3)) (.n 0 (.f 110110101) (.f 1110010101)) QA
def SZ:=go [a,b,c,d] [.l (.a v0 (.s (.a v1 v2) v1)) v3] (.e (.a v0 (.s v3 v0)) v3) (.n 0 (.s 0 (.f 10101) (.f 1011)) (.s 0 (.f 11001) (.f 10101))) QA
def SY:=go [a,b,c,d] [.e (.a v0 v1) (.a v2 v3),.e (.a v3 (.s v0 v3)) v0] (.e (.a v1 (.s v0 v3)) v2) (.n 0 (.f 11101) (.f 110101)) QA
def aeH:=go [a,b,c,d] [.t (.c 0) v0,.l (.a v1 (.s (.a v2 v0) v2)) v3,.e (.a v1 (.s v3 v1)) v3] (.t (.c 0) (.s v3 v1)) (.s 1 (.f 101010111) (.f 101)) QA
def SX:=go [a,b,c,d] [.e (.a v0 v1) v2] (.e (.a v0 (.a v1 v3)) (.a v2 v3)) (.n 0 (.f 111) (.f 1101)) QA
def aeG:=go [a,b,c,d,e,f,g,h] [.e (.a v0 v1) (.a v2 v3),.e (.a v4 v5) (.a v6 v7),.e v0 v7,.e v2 v5] (.e (.a v4 v1) (.a v6 v3)) (.n 0 (.f 111001101) (.f 1101100101)) QA
def aeF:=go [a,b,c,d] [.l (.a v0 (.s (.a v1 v2) v1)) v3,.e (.a v0 (.s v3 v0)) v3,.n v2 (.c 0)] (.n (.s v3 v0) (.c 0)) (.n 0 (.f 11) (.s 1 (.f 1010110101) (.f 101))) QA
def SW:=go [a,b] [.t v0 v1] (.l v0 (.s v1 (.c 1))) (.s 0 (.f 101011) (.f 10111)) QA
def SV:=go [a,b] [.t v0 v1] (.t (.s v1 (.c 1)) v1) (.s 0 (.f 110001) (.f 1011)) QA
def SU:=go [a,b,c] [.l v0 v1] (.l v0 (.a v1 v2)) (.f 111) QA
def aeE:=go [a,b,c] [.e (.c 0) (.a (.a v0 v1) v2)] (.e v0 (.c 0)) (.n 0 (.f 11) (.f 111)) QA
def aeD:=go [a,b,c] [.e (.c 0) (.a (.a v0 v1) v2)] (.e v1 (.c 0)) (.n 0 (.f 11) (.f 111)) QA
def aeC:=go [a,b,c] [.e (.c 0) (.a (.a v0 v1) v2)] (.e v2 (.c 0)) (.n 0 (.f 11) (.f 111)) QA
def SS:=go [a,b,c,d] [.t (.c 0) v0,.e (.a v1 v0) (.c 0)] (.e v2 v3) (.f 1011) QA
def aeB:=go [a,b,c,d] [] (.e (.a (.a v0 v1) (.s (.p v2) (.p v3))) (.a v0 (.a v1 (.s v2 v3)))) (.n 0 (.s 0 (.s 1 (.f 11000101) (.f 1011)) (.s 1 (.f 1100011) (.f 110001))) (.s 0 (.s 1 (.f 10101001) (.f 1011001)) (.f 1101))) QA
def aeA:=go [a,b,c,d] [.e v0 v1] (.e (.a v2 (.a v3 v1)) (.a (.a v2 v3) v0)) (.n 0 (.f 1101) (.f 111)) QA
def aez:=go [a,b] [.l (.c 1) v0] (.t v1 (.a v1 v0)) (.f 111) QA
def aey:=go [a,b,c] [.l (.a v0 v1) v2] (.l v1 (.s v2 v0)) (.s 0 (.f 101011) (.f 10111)) QA
def aex:=go [a,b,c,d] [.l (.a v0 v1) v2,.t v2 (.a v0 v3)] (.t (.s v2 v0) v3) (.s 0 (.f 1100101) (.f 10101)) QA
def GQ:=go [a,b,c] [.l (.a v0 v1) v2] (.l v0 v2) (.f 111) QA
def aew:=go [a,b,c] [.l (.a v0 (.c 0)) (.m 3 v1),.l v2 (.c 3)] (.l (.a (.a v2 v0) (.c 0)) (.m 3 (.p v1))) (.f 1111) QA
def aev:=go [a] [.w (.c 2) v0] (.t v0 (.c 3)) (.f 111) QA
def SR:=go [a,b] [.e v0 (.c 1)] (.e (.a v1 v0) (.p v1)) (.n 0 (.f 111) (.f 1101)) QA
def aeu:=go [a,b,c] [] (.e (.a (.a v0 v1) v2) (.a (.a v2 v1) v0)) (.n 0 (.f 11) (.f 11)) QA
theorem Be:a<=b->c < a->c < b:=go [a,b,c] [.l v0 v1,.t v2 v0] (.t v2 v1) (.f 1111) QA
def aet:=go [a,b,c,d] [.l v0 v1,.t v1 v2,.t v3 v0] (.t v3 v2) (.f 11111) QA
def aes:=go [a,b,c,d] [.e v0 v1,.e v2 v3,.t v2 v0] (.t v3 v1) (.f 1110011) QA
def aer:=go [a,b] [.l v0 v1,.n v0 v1] (.t v0 v1) (.n 0 (.f 1101) (.f 111)) QA
def aeq:=go [a,b,c,d] [.e v0 v1,.e v2 v3,.t v0 v2] (.l v1 v3) (.f 1101101) QA
def EA:=go [a] [] (.l v0 (.p v0)) (.f 11) QA
def SQ:=go [a] [] (.l (.p v0) (.p v0)) (.f 11) QA
def aep:=go [a,b] [.l v0 (.c 900),.l v1 (.p v0)] (.l v1 (.c 1000)) (.f 1111) QA
theorem Ck:a+(b+1)<=c->a < c:=go [a,b,c] [.l (.a v0 (.p v1)) v2] (.t v0 v2) (.f 111) QA
theorem Mf:a+(b+1)<=c->a+1+b<=c:=go [a,b,c] [.l (.a v0 (.p v1)) v2] (.l (.a (.p v0) v1) v2) (.f 111) QA
theorem Me:a+(b+1)=a+1+b:=go [a,b] [] (.e (.a v0 (.p v1)) (.a (.p v0) v1)) (.n 0 (.f 11) (.f 11)) QA
def aeo:=go [a] [] (.l (.a (.c 0) v0) v0) (.f 11) QA
theorem Kw:a<=b->b<=a->a=b:=go [a,b] [.l v0 v1,.l v1 v0] (.e v0 v1) (.n 0 (.f 111) (.f 1101)) QA
def Ig:=go [a,b] [.t v0 v1] (.t (.s (.p v1) (.p v0)) (.s (.p v1) v0)) (.s 0 (.s 1 (.f 110001001) (.f 1010001)) (.f 1011)) QA
def BH:=go [a,b] [.n v0 v1,.t v0 (.p v1)] (.t v0 v1) (.n 0 (.f 1101) (.f 111)) QA
theorem Bl:a < b+1->a≠b->a < b:=go [a,b] [.t v0 (.p v1),.n v0 v1] (.t v0 v1) (.n 0 (.f 1101) (.f 111)) QA
theorem SP:a<=a:=go [a] [] (.l v0 v0) (.f 11) QA
def aem:=go [a,b,c] [.t (.a (.a v0 (.c 200)) (.m 10 v1)) v2] (.t (.a v0 (.c 200)) v2) (.f 111) QA
def ael:=go [a,b,c] [.t (.a (.a v0 (.c 10)) (.m 2 v1)) v2] (.t (.a v0 (.c 10)) v2) (.f 111) QA
def aek:=go [a,b,c] [.t (.a (.a v0 (.c 200)) (.m 10 (.p v1))) v2] (.t (.a (.a (.a v0 (.c 3)) (.c 200)) (.m 10 v1)) v2) (.f 111) QA
def SO:=go [a,b,c] [.t (.a (.a v0 (.c 10)) (.m 2 (.p v1))) v2] (.t (.a (.a (.p v0) (.c 10)) (.m 2 v1)) v2) (.f 111) QA
def aej:=go [a,b,c] [.t (.a (.a v0 (.c 200)) (.m 10 (.p v1))) v2] (.t (.a (.a v0 (.c 200)) (.m 10 v1)) v2) (.f 111) QA
def SN:=go [a,b,c] [.t (.a (.a v0 (.c 10)) (.m 2 (.p v1))) v2] (.t (.a (.a v0 (.c 10)) (.m 2 v1)) v2) (.f 111) QA
def Md:=go [a] [] (.t v0 (.p (.p v0))) (.f 11) QA
def aeh:=go [a,b,c] [.t (.a (.a v0 (.c 200)) (.m 10 (.p v1))) v2] (.t (.a (.a (.p v0) (.c 200)) (.m 10 v1)) v2) (.f 111) QA
def SM:=go [a,b,c] [.t (.a (.a v0 (.c 200)) (.m 10 (.p v1))) v2] (.t (.a (.a (.a (.p v0) (.c 3)) (.c 200)) (.m 10 v1)) v2) (.f 111) QA
def SL:=go [a,b,c] [.t (.a (.a v0 (.c 10)) (.m 2 (.p v1))) v2] (.t (.a (.a (.p (.p v0)) (.c 10)) (.m 2 v1)) v2) (.f 111) QA
def aeg:=go [a,b,c] [.t (.a (.a v0 (.c 10)) (.m 2 v1)) v2] (.t v0 v2) (.f 111) QA
def aef:=go [a,b,c] [.t (.a (.a v0 (.c 10)) (.m 2 (.p v1))) v2] (.t (.p v0) v2) (.f 111) QA
def Ie:=go [a,b,c] [.t (.a (.a v0 (.c 10)) (.m 2 (.p v1))) v2] (.t v0 v2) (.f 111) QA
def Kv:=go [] [] (.t (.c 0) (.c 2)) (.f 11) QA
def Ku:=go [] [] (.t (.c 1) (.c 2)) (.f 11) QA
def Kt:=go [a,b] [.t (.a v0 (.c 200)) v1] (.t (.a v0 (.c 64)) v1) (.f 111) QA
def aee:=go [a,b,c,d] [.l v0 v1,.e v2 v0,.e v2 v3] (.l v3 v1) (.f 1100111) QA
theorem Ff:a+1+b=a+(b+1):=go [a,b] [] (.e (.a (.p v0) v1) (.a v0 (.p v1))) (.n 0 (.f 11) (.f 11)) QA
theorem aec:0<=a+1:=go [a] [] (.l (.c 0) (.p v0)) (.f 11) QA
theorem Dt:a < 1000->¬16777216 < a+1+0:=go [a] [.t v0 (.c 1000)] (.w (.c 16777216) (.a (.p v0) (.c 0))) (.f 111) QA
theorem aeb:a<=b->c<=d->a+c<=b+d:=go [a,b,c,d] [.l v0 v1,.l v2 v3] (.l (.a v0 v2) (.a v1 v3)) (.f 1111) QA
theorem aea:a+(b+c)=a+c+b:=go [a,b,c] [] (.e (.a v0 (.a v1 v2)) (.a (.a v0 v2) v1)) (.n 0 (.f 11) (.f 11)) QA
theorem ad9:1+a<=a+1:=go [a] [] (.l (.a (.c 1) v0) (.p v0)) (.f 11) QA
theorem SK:a+2 < 1000->a+1 < 1000:=go [a] [.t (.a v0 (.c 2)) (.c 1000)] (.t (.p v0) (.c 1000)) (.f 111) QA
theorem SJ:2+(0+1)+1<=4:=go [] [] (.l (.p (.a (.c 2) (.p (.c 0)))) (.c 4)) (.f 11) QA
theorem ad8:4+(6*(a+1)+1)<=6*(a+1+1):=go [a] [] (.l (.a (.c 4) (.p (.m 6 (.p v0)))) (.m 6 (.p (.p v0)))) (.f 11) QA
theorem ad7:0+1<=6*(a+1)+1:=go [a] [] (.l (.p (.c 0)) (.p (.m 6 (.p v0)))) (.f 11) QA
theorem ad6:a+2 < 1000->a < 1000:=go [a] [.t (.a v0 (.c 2)) (.c 1000)] (.t v0 (.c 1000)) (.f 111) QA
theorem SI:a+5 < 1000->a+1 < 1000:=go [a] [.t (.a v0 (.c 5)) (.c 1000)] (.t (.p v0) (.c 1000)) (.f 111) QA
theorem ad5:a+5 < 1000->a < 1000:=go [a] [.t (.a v0 (.c 5)) (.c 1000)] (.t v0 (.c 1000)) (.f 111) QA
theorem ad4:6*(a+1)+9+1+1<=6*(a+1)+12:=go [a] [] (.l (.p (.p (.a (.m 6 (.p v0)) (.c 9)))) (.a (.m 6 (.p v0)) (.c 12))) (.f 11) QA
theorem ad3:a<=b->¬b < a:=go [a,b] [.l v0 v1] (.w v1 v0) (.f 111) QA
theorem SH:5+1<=6*(a+1)+9:=go [a] [] (.l (.p (.c 5)) (.a (.m 6 (.p v0)) (.c 9))) (.f 11) QA
theorem ad1:a+5 < 1000->a+1+1 < 1000:=go [a] [.t (.a v0 (.c 5)) (.c 1000)] (.t (.p (.p v0)) (.c 1000)) (.f 111) QA
theorem ad0:¬a<=b->b+1<=a:=go [a,b] [.u v0 v1] (.l (.p v1) v0) (.f 111) QA
theorem adZ:a+5 < 1000->a+1+1+2 < 1000:=go [a] [.t (.a v0 (.c 5)) (.c 1000)] (.t (.a (.p (.p v0)) (.c 2)) (.c 1000)) (.f 111) QA
theorem adY:¬a<=b->c<=a - (b+1)->6*(c+1)+5+1+1<=6*(a+1)+9:=go [a,b,c] [.u v0 v1,.l v2 (.s v0 (.p v1))] (.l (.p (.p (.a (.m 6 (.p v2)) (.c 5)))) (.a (.m 6 (.p v0)) (.c 9))) (.s 0 (.f 1600601) (.f 10101)) QA
theorem adX:a+6 < 1000->a < 1000:=go [a] [.t (.a v0 (.c 6)) (.c 1000)] (.t v0 (.c 1000)) (.f 111) QA
theorem adW:a<=b->a - 1<=b:=go [a,b] [.l v0 v1] (.l (.s v0 (.c 1)) v1) (.s 0 (.f 110011) (.f 11001)) QA
theorem SG:a < 1000000->a < 4294967295:=go [a] [.t v0 (.c 1000000)] (.t v0 (.c 4294967295)) (.f 111) QA
theorem adV:a < 1000000->6*(a+1)+14<=6*1000000+14:=go [a] [.t v0 (.c 1000000)] (.l (.a (.m 6 (.p v0)) (.c 14)) (.a (.m 6 (.c 1000000)) (.c 14))) (.f 161) QA
theorem adU:a < 1000000->b<=a - 0->b+1<=1000000:=go [a,b] [.t v0 (.c 1000000),.l v1 (.s v0 (.c 0))] (.l (.p v1) (.c 1000000)) (.s 0 (.f 1100111) (.f 110101)) QA
theorem Mc:0 < a+1:=go [a] [] (.t (.c 0) (.p v0)) (.f 11) QA
theorem SF:a < b->a+1 < b+1:=go [a,b] [.t v0 v1] (.t (.p v0) (.p v1)) (.f 111) QA
theorem SE:a+1 < b+1->a < b:=go [a,b] [.t (.p v0) (.p v1)] (.t v0 v1) (.f 111) QA
theorem SD:a<=a+0:=go [a] [] (.l v0 (.a v0 (.c 0))) (.f 11) QA
theorem Ks:a<=a+(b+1):=go [a,b] [] (.l v0 (.a v0 (.p v1))) (.f 11) QA
theorem SC:a<=b - 1->a<=b:=go [a,b] [.l v0 (.s v1 (.c 1))] (.l v0 v1) (.s 0 (.f 110011) (.f 11011)) QA
theorem SA:a - 1<=b+c->a<=b+(c+1):=go [a,b,c] [.l (.s v0 (.c 1)) (.a v1 v2)] (.l v0 (.a v1 (.p v2))) (.s 0 (.f 101011) (.f 10101)) QA
theorem Mb:a=b->a<=b:=go [a,b] [.e v0 v1] (.l v0 v1) (.f 1011) QA
theorem adS:a+1=b->a<=b:=go [a,b] [.e (.p v0) v1] (.l v0 v1) (.f 1011) QA
theorem adR:a+1=b->a<=c->c < b->c=a:=go [a,b,c] [.e (.p v0) v1,.l v0 v2,.t v2 v1] (.e v2 v0) (.n 0 (.f 1101) (.f 11101)) QA
theorem Sz:a < b - (c+1)->c+1+a < b:=go [a,b,c] [.t v0 (.s v1 (.p v2))] (.t (.a (.p v2) v0) v1) (.s 0 (.f 110011) (.f 1101)) QA
theorem adP:a<=b+1+c->¬d < c->a<=b+1+d:=go [a,b,c,d] [.l v0 (.a (.p v1) v2),.w v3 v2] (.l v0 (.a (.p v1) v3)) (.f 1111) QA
theorem adO:a<=b->¬c < b->a<=c:=go [a,b,c] [.l v0 v1,.w v2 v1] (.l v0 v2) (.f 1111) QA
theorem adN:a < b->a < b+(c+1):=go [a,b,c] [.t v0 v1] (.t v0 (.a v1 (.p v2))) (.f 111) QA
theorem adM:a < b+(c+1) - (b+1)->a < c:=go [a,b,c] [.t v0 (.s (.a v1 (.p v2)) (.p v1))] (.t v0 v2) (.s 0 (.f 110011) (.f 101)) QA
theorem adL:a < b->c+1+a < c+(b+1):=go [a,b,c] [.t v0 v1] (.t (.a (.p v2) v0) (.a v2 (.p v1))) (.f 111) QA
theorem adK:a<=a+1+b:=go [a,b] [] (.l v0 (.a (.p v0) v1)) (.f 11) QA
theorem adJ:a+1+b - a=b+1:=go [a,b] [] (.e (.s (.a (.p v0) v1) v0) (.p v1)) (.n 0 (.s 0 (.f 10101) (.f 101)) (.s 0 (.f 11001) (.f 101))) QA
theorem adI:a+(b+1) - (a+1)=b:=go [a,b] [] (.e (.s (.a v0 (.p v1)) (.p v0)) v1) (.n 0 (.s 0 (.f 10101) (.f 101)) (.s 0 (.f 11001) (.f 101))) QA
theorem adH:a+1+b=a+b+1:=go [a,b] [] (.e (.a (.p v0) v1) (.p (.a v0 v1))) (.n 0 (.f 11) (.f 11)) QA
theorem adG:a<=4*(b+1)->4 < a->1<=b:=go [a,b] [.l v0 (.m 4 (.p v1)),.t (.c 4) v0] (.l (.c 1) v1) (.f 1114) QA
theorem adF:a<=4*(b+1)->4 < a->a - 4<=4*b:=go [a,b] [.l v0 (.m 4 (.p v1)),.t (.c 4) v0] (.l (.s v0 (.c 4)) (.m 4 v1)) (.s 0 (.f 1100011) (.f 1011)) QA
theorem adE:4 < a->4+(b+(a - 4))=b+a:=go [a,b] [.t (.c 4) v0] (.e (.a (.c 4) (.a v1 (.s v0 (.c 4)))) (.a v1 v0)) (.n 0 (.s 0 (.f 10101) (.f 1011)) (.s 0 (.f 11001) (.f 10101))) QA
theorem adD:a - b<=0->b<=a->b=a:=go [a,b] [.l (.s v0 v1) (.c 0),.l v1 v0] (.e v1 v0) (.n 0 (.s 0 (.f 1010101) (.f 1011)) (.f 111)) QA
theorem Sy:a < b->a<=b:=go [a,b] [.t v0 v1] (.l v0 v1) (.f 111) QA
theorem Sx:a<=b->b≠a->a < b:=go [a,b] [.l v0 v1,.n v1 v0] (.t v0 v1) (.n 0 (.f 111) (.f 1101)) QA
theorem adC:¬a < b->a < c->b<=c:=go [a,b,c] [.w v0 v1,.t v0 v2] (.l v1 v2) (.f 1111) QA
theorem Sw:a<=b->¬a < b->a=b:=go [a,b] [.l v0 v1,.w v0 v1] (.e v0 v1) (.n 0 (.f 111) (.f 1101)) QA
theorem Sv:a - 0<=a:=go [a] [] (.l (.s v0 (.c 0)) v0) (.s 0 (.f 11001) (.f 101)) QA
theorem adA:a<=b->b < a->c<=d:=go [a,b,c,d] [.l v0 v1,.t v1 v0] (.l v2 v3) (.f 111) QA
theorem adz:a+b < c->a < c:=go [a,b,c] [.t (.a v0 v1) v2] (.t v0 v2) (.f 111) QA
theorem ady:a≠0->b < b+a:=go [a,b] [.n v0 (.c 0)] (.t v1 (.a v1 v0)) (.n 0 (.f 11) (.f 111)) QA
theorem Ma:a=b+1->0 < a:=go [a,b] [.e v0 (.p v1)] (.t (.c 0) v0) (.f 1101) QA
theorem adx:a=b+1->a - 1=b:=go [a,b] [.e v0 (.p v1)] (.e (.s v0 (.c 1)) v1) (.n 0 (.s 0 (.f 101011) (.f 10111)) (.s 0 (.f 1100101) (.f 1101))) QA
theorem adw:a < 0->Yn:=go [a] [.t v0 (.c 0)] (.f) (.f 11) QA
theorem Kr:a+1<=b->a < b:=go [a,b] [.l (.p v0) v1] (.t v0 v1) (.f 111) QA
theorem adv:a+1<=b->b < a->Yn:=go [a,b] [.l (.p v0) v1,.t v1 v0] (.f) (.f 111) QA
theorem adu:a < b+1->b<=a->a=b:=go [a,b] [.t v0 (.p v1),.l v1 v0] (.e v0 v1) (.n 0 (.f 111) (.f 1101)) QA
theorem GO:a+1 < b->a < b:=go [a,b] [.t (.p v0) v1] (.t v0 v1) (.f 111) QA
theorem adt:a < b+1->b < a->Yn:=go [a,b] [.t v0 (.p v1),.t v1 v0] (.f) (.f 111) QA
theorem adr:a<=1->¬1 < a:=go [a] [.l v0 (.c 1)] (.w (.c 1) v0) (.f 111) QA
def adq:=go [a,b] [.l v0 (.p v1)] (.l (.s v0 (.c 1)) v1) (.s 0 (.f 110011) (.f 11001)) QA
theorem GN:a < b->c=b->a < c:=go [a,b,c] [.t v0 v1,.e v2 v1] (.t v0 v2) (.f 11011) QA
theorem CM:1<=a->a+(b+1)<=c->a - 1 < c:=go [a,b,c] [.l (.c 1) v0,.l (.a v0 (.p v1)) v2] (.t (.s v0 (.c 1)) v2) (.s 0 (.f 1100101) (.f 10101)) QA
theorem GM:1<=a->a≠a - 1:=go [a] [.l (.c 1) v0] (.n v0 (.s v0 (.c 1))) (.s 0 (.f 1100001) (.f 1011)) QA
theorem Su:1<=a+1:=go [a] [] (.l (.c 1) (.p v0)) (.f 11) QA
theorem Ss:a < b->a≠b - 1->a < b - 1:=go [a,b] [.t v0 v1,.n v0 (.s v1 (.c 1))] (.t v0 (.s v1 (.c 1))) (.n 0 (.f 1101) (.s 0 (.f 101011) (.f 10111))) QA
theorem Sr:1<=a->a - 1 < a:=go [a] [.l (.c 1) v0] (.t (.s v0 (.c 1)) v0) (.s 0 (.f 110001) (.f 1011)) QA
theorem GL:a+1<=b->a<=b:=go [a,b] [.l (.p v0) v1] (.l v0 v1) (.f 111) QA
theorem Sq:a<=b+1+c->a<=b+(c+1):=go [a,b,c] [.l v0 (.a (.p v1) v2)] (.l v0 (.a v1 (.p v2))) (.f 111) QA
theorem adp:a < b+(c+1)->a < b+1+c:=go [a,b,c] [.t v0 (.a v1 (.p v2))] (.t v0 (.a (.p v1) v2)) (.f 111) QA
theorem ado:1<=a->a - 1≠a:=go [a] [.l (.c 1) v0] (.n (.s v0 (.c 1)) v0) (.s 0 (.f 110001) (.f 1011)) QA
theorem adn:1<=a->1+(a - 1)<=a:=go [a] [.l (.c 1) v0] (.l (.a (.c 1) (.s v0 (.c 1))) v0) (.s 0 (.f 110001) (.f 1011)) QA
theorem adm:1<=a->b<=1+(a - 1)->b<=a:=go [a,b] [.l (.c 1) v0,.l v1 (.a (.c 1) (.s v0 (.c 1)))] (.l v1 v0) (.s 0 (.f 1100101) (.f 10101)) QA
theorem Sp:1<=a->0 < a:=go [a] [.l (.c 1) v0] (.t (.c 0) v0) (.f 111) QA
theorem So:1<=a->b<=1+(a - 1)->b≠a->1 < b->b - 1 < a:=go [a,b] [.l (.c 1) v0,.l v1 (.a (.c 1) (.s v0 (.c 1))),.n v1 v0,.t (.c 1) v1] (.t (.s v1 (.c 1)) v0) (.n 0 (.s 0 (.f 110010001) (.f 10101)) (.s 1 (.f 1100101) (.f 1010001))) QA
theorem adl:1 < a->0≠a - 1:=go [a] [.t (.c 1) v0] (.n (.c 0) (.s v0 (.c 1))) (.s 0 (.f 101011) (.f 1011)) QA
theorem adk:1 < a->0 < a - 1:=go [a] [.t (.c 1) v0] (.t (.c 0) (.s v0 (.c 1))) (.s 0 (.f 101011) (.f 1011)) QA
theorem adj:1 < a->a - 1 < a:=go [a] [.t (.c 1) v0] (.t (.s v0 (.c 1)) v0) (.s 0 (.f 110001) (.f 1011)) QA
theorem adi:1<=a->¬1 < a->a=1:=go [a] [.l (.c 1) v0,.w (.c 1) v0] (.e v0 (.c 1)) (.n 0 (.f 1101) (.f 111)) QA
theorem adh:1<=a->1≠a->1 < 1+(a - 1):=go [a] [.l (.c 1) v0,.n (.c 1) v0] (.t (.c 1) (.a (.c 1) (.s v0 (.c 1)))) (.n 0 (.s 0 (.f 1010101) (.f 1011)) (.f 111)) QA
theorem adg:1<=a->1≠a->1+1+(a - (1+1))<=a:=go [a] [.l (.c 1) v0,.n (.c 1) v0] (.l (.a (.p (.c 1)) (.s v0 (.p (.c 1)))) v0) (.n 0 (.s 0 (.f 1100001) (.f 1011)) (.f 111)) QA
theorem adf:a < b->b < 1+1->a=0:=go [a,b] [.t v0 v1,.t v1 (.p (.c 1))] (.e v0 (.c 0)) (.n 0 (.f 11) (.f 1111)) QA
theorem ade:a < b->b < 1+1->b=1:=go [a,b] [.t v0 v1,.t v1 (.p (.c 1))] (.e v1 (.c 1)) (.n 0 (.f 1101) (.f 111)) QA
theorem adc:1<=a->1≠a->b<=1+1+(a - (1+1))->c=a->b<=c:=go [a,b,c] [.l (.c 1) v0,.n (.c 1) v0,.l v1 (.a (.p (.c 1)) (.s v0 (.p (.c 1)))),.e v2 v0] (.l v1 v2) (.n 0 (.s 0 (.f 1100010101) (.f 1011)) (.f 110001)) QA
theorem adb:1+1<=a->1<=a:=go [a] [.l (.p (.c 1)) v0] (.l (.c 1) v0) (.f 111) QA
theorem ac9:a=b->c<=a->c+(b - c)<=b:=go [a,b,c] [.e v0 v1,.l v2 v0] (.l (.a v2 (.s v1 v2)) v1) (.s 0 (.f 11000001) (.f 101101)) QA
theorem Ds:a < b->b < c->a < c:=go [a,b,c] [.t v0 v1,.t v1 v2] (.t v0 v2) (.f 1111) QA
theorem ac8:1+1<=a->b < c->c < a->a - 1 - c < a - 1 - b:=go [a,b,c] [.l (.p (.c 1)) v0,.t v1 v2,.t v2 v0] (.t (.s (.s v0 (.c 1)) v2) (.s (.s v0 (.c 1)) v1)) (.s 3 (.s 1 (.f 10101000101) (.f 10110001)) (.s 0 (.f 1010011) (.f 10100001))) QA
theorem ac7:1+1<=a->a - 1 - b < a:=go [a,b] [.l (.p (.c 1)) v0] (.t (.s (.s v0 (.c 1)) v1) v0) (.s 0 (.s 1 (.f 110010001) (.f 11000011)) (.f 1011)) QA
theorem ac6:1+1<=a->a<=b->1<=b:=go [a,b] [.l (.p (.c 1)) v0,.l v0 v1] (.l (.c 1) v1) (.f 1111) QA
theorem ac5:a=b->c<=a->d<=c+(b - c)->d<=b:=go [a,b,c,d] [.e v0 v1,.l v2 v0,.l v3 (.a v2 (.s v1 v2))] (.l v3 v1) (.s 0 (.f 110010001) (.f 1010101)) QA
theorem L9:a<=b->b<=c->a<=c:=go [a,b,c] [.l v0 v1,.l v1 v2] (.l v0 v2) (.f 1111) QA
theorem ac4:a - b<=0->b<=c->a<=c:=go [a,b,c] [.l (.s v0 v1) (.c 0),.l v1 v2] (.l v0 v2) (.s 0 (.f 1010111) (.f 101101)) QA
theorem Sm:a+(b+1)=c->a < c:=go [a,b,c] [.e (.a v0 (.p v1)) v2] (.t v0 v2) (.f 1011) QA
theorem ac3:a<=b->b - (b - a)=a:=go [a,b] [.l v0 v1] (.e (.s v1 (.s v1 v0)) v0) (.n 0 (.s 0 (.s 1 (.f 10101001) (.f 1011001)) (.f 10101)) (.s 0 (.s 1 (.f 11000101) (.f 1011)) (.f 10101))) QA
theorem ac2:a < b->a=c->b≠c:=go [a,b,c] [.t v0 v1,.e v0 v2] (.n v1 v2) (.f 110101) QA
theorem ac1:a < b->a=c->c < b:=go [a,b,c] [.t v0 v1,.e v0 v2] (.t v2 v1) (.f 11011) QA
theorem Ic:a < b+1->a<=b:=go [a,b] [.t v0 (.p v1)] (.l v0 v1) (.f 111) QA
theorem ac0:a < b->a=c->c<=b - 1:=go [a,b,c] [.t v0 v1,.e v0 v2] (.l v2 (.s v1 (.c 1))) (.s 0 (.f 10101011) (.f 101001)) QA
theorem acZ:a < b->b < c+1->b - 1 < c:=go [a,b,c] [.t v0 v1,.t v1 (.p v2)] (.t (.s v1 (.c 1)) v2) (.s 0 (.f 1100101) (.f 10101)) QA
theorem acY:a < b->b=c->a < c:=go [a,b,c] [.t v0 v1,.e v1 v2] (.t v0 v2) (.f 10111) QA
theorem Kq:a < b->a < b:=go [a,b] [.t v0 v1] (.t v0 v1) (.f 111) QA
theorem acX:a < b->b < c+1->a<=c:=go [a,b,c] [.t v0 v1,.t v1 (.p v2)] (.l v0 v2) (.f 1111) QA
theorem Dr:a < b->c < a->c < b:=go [a,b,c] [.t v0 v1,.t v2 v0] (.t v2 v1) (.f 1111) QA
theorem acW:a < b->c < a->a - 1 < b - 1:=go [a,b,c] [.t v0 v1,.t v2 v0] (.t (.s v0 (.c 1)) (.s v1 (.c 1))) (.s 0 (.s 1 (.f 1100010011) (.f 1010001)) (.f 10111)) QA
theorem acU:a < b->b < c+1->d < a->b - 1 < c:=go [a,b,c,d] [.t v0 v1,.t v1 (.p v2),.t v3 v0] (.t (.s v1 (.c 1)) v2) (.s 0 (.f 11000101) (.f 101101)) QA
theorem acT:a≠b->¬b < a->b < c->a < c - 1:=go [a,b,c] [.n v0 v1,.w v1 v0,.t v1 v2] (.t v0 (.s v2 (.c 1))) (.n 0 (.s 0 (.f 10101101) (.f 10111)) (.f 1101)) QA
theorem acS:a < b+1->c < a->a - 1 < b:=go [a,b,c] [.t v0 (.p v1),.t v2 v0] (.t (.s v0 (.c 1)) v1) (.s 0 (.f 1100011) (.f 1011)) QA
theorem acR:a<=b->c≠a->¬a < c->c < b:=go [a,b,c] [.l v0 v1,.n v2 v0,.w v0 v2] (.t v2 v1) (.n 0 (.f 11011) (.f 111)) QA
theorem Sk:a+(b+1)=c->a+1+b=c:=go [a,b,c] [.e (.a v0 (.p v1)) v2] (.e (.a (.p v0) v1) v2) (.n 0 (.f 111) (.f 1101)) QA
theorem acQ:a < b->a+(b - a)=b:=go [a,b] [.t v0 v1] (.e (.a v0 (.s v1 v0)) v1) (.n 0 (.s 0 (.f 10101) (.f 1011)) (.s 0 (.f 11001) (.f 10101))) QA
theorem Sj:a < 2->a<=16777216:=go [a] [.t v0 (.c 2)] (.l v0 (.c 16777216)) (.f 111) QA
theorem acP:a < 2->a<=16777216+1:=go [a] [.t v0 (.c 2)] (.l v0 (.p (.c 16777216))) (.f 111) QA
theorem acO:¬a < 2->2<=a:=go [a] [.w v0 (.c 2)] (.l (.c 2) v0) (.f 111) QA
theorem acN:¬a < 2->1<=a:=go [a] [.w v0 (.c 2)] (.l (.c 1) v0) (.f 111) QA
theorem acM:a+200 < b->a+1 < b:=go [a,b] [.t (.a v0 (.c 200)) v1] (.t (.p v0) v1) (.f 111) QA
theorem acL:a=b->c < a->c < b:=go [a,b,c] [.e v0 v1,.t v2 v0] (.t v2 v1) (.f 11011) QA
def acK:=go [a,b] [.l (.p v0) v1] (.l (.p v0) (.p v1)) (.f 111) QA
def acJ:=go [a,b,c] [.e (.a (.p v0) v1) v2] (.t v1 v2) (.f 1011) QA
def Si:=go [a,b] [.e v0 (.p v1)] (.n v1 v0) (.f 1101) QA
def acI:=go [a,b,c] [.l v0 v1,.t v2 v0] (.l (.p v2) v1) (.f 1111) QA
def acH:=go [a,b,c] [.e (.a (.p v0) v1) v2] (.e (.a v0 (.p v1)) v2) (.n 0 (.f 111) (.f 1101)) QA
def acG:=go [a,b] [.e (.a (.c 0) v0) v1] (.e v0 v1) (.n 0 (.f 111) (.f 1101)) QA
def acF:=go [a,b] [.e v0 (.p v1)] (.n v0 v1) (.f 11001) QA
def acE:=go [a,b,c] [.t (.a (.a v0 (.c 200)) (.m 10 (.p v1))) v2] (.t (.a (.a (.p (.p (.p v0))) (.c 200)) (.m 10 v1)) v2) (.f 111) QA
def acD:=go [a] [] (.e (.a (.c 0) v0) v0) (.n 0 (.f 11) (.f 11)) QA
def acC:=go [a,b,c,d] [.l v0 v1,.t v2 v0,.e v3 v2] (.l (.p v3) v1) (.f 101111) QA
def acB:=go [a,b] [.t v0 v1,.l v1 v0] (.f) (.f 111) QA
def Kp:=go [a,b,c] [.t v0 (.p v1),.t v2 v0] (.t v2 v1) (.f 1111) QA
def acA:=go [a,b] [.t v0 (.c 1000),.t v1 v0] (.t v1 (.c 9223372036854775808)) (.f 1111) QA
def acz:=go [a,b] [.l (.a v0 v1) (.c 100)] (.l (.a v0 v1) (.c 16777216)) (.f 111) QA
def acy:=go [a,b,c] [.l (.a v0 (.p v1)) v2] (.l (.a v0 v1) v2) (.f 111) QA
theorem acx:a+(b+1)<=c->a+b < c:=go [a,b,c] [.l (.a v0 (.p v1)) v2] (.t (.a v0 v1) v2) (.f 111) QA
def acw:=go [a,b,c] [.l v0 v1,.l v1 v2] (.l (.a v0 (.s v1 v0)) v2) (.s 0 (.f 1100101) (.f 10101)) QA
def acu:=go [a,b] [.l v0 v1] (.l (.a (.c 0) (.s v0 (.c 0))) v1) (.s 0 (.f 110011) (.f 101)) QA
def act:=go [a,b] [.l v0 v1] (.l (.a v0 (.s v1 v0)) v1) (.s 0 (.f 110001) (.f 1011)) QA
def acs:=go [a,b] [.u v0 v1] (.l v1 v0) (.f 111) QA
def Ag:=go [a,b] [.t v0 v1] (.n v0 v1) (.f 111) QA
def acr:=go [a,b] [.t (.a (.c 0) v0) v1] (.t v0 v1) (.f 111) QA
def Sh:=go [a] [.t v0 (.c 1152921504606846976)] (.t v0 (.c 4611686018427387904)) (.f 111) QA
def Sg:=go [a,b] [.l v0 (.p v1)] (.l v0 (.p (.p v1))) (.f 111) QA
def acq:=go [a,b] [.l v0 (.p v1)] (.l (.a (.c 1) v0) (.p (.p v1))) (.f 111) QA
def acp:=go [a,b,c] [.l v0 (.s v1 (.c 0)),.l v2 (.p v0)] (.l (.p v2) (.a v1 (.c 2))) (.s 0 (.f 1100111) (.f 101)) QA
def Ko:=go [a,b] [.e v0 v1] (.l v1 v0) (.f 1101) QA
def acn:=go [a,b] [.l v0 (.c 4000),.l v1 (.a v0 (.c 2))] (.l v1 (.c 4002)) (.f 1111) QA
def acm:=go [a,b,c] [.e v0 v1,.t v1 v2,.l v2 (.c 4002)] (.l v0 (.c 16777216)) (.f 111011) QA
def Cj:=go [a,b] [.t v0 v1] (.n v1 v0) (.f 1101) QA
def acl:=go [a,b,c,d,e,f] [.e v0 v1,.l v0 v2,.l v2 v3,.t v3 v4,.t v4 v5] (.l v1 v5) (.f 11111101) QA
def ack:=go [a,b,c,d] [.e v0 v1,.l v0 v2,.t v3 v1] (.n v3 v2) (.f 111101) QA
def acj:=go [a,b,c,d,e,f] [.e v0 v1,.l v0 v2,.l v2 v3,.t v3 v4,.t v5 v1] (.t v5 v4) (.f 11111101) QA
def aci:=go [a,b,c,d] [.e v0 v1,.l v0 v2,.t v3 v1] (.t v3 v2) (.f 111101) QA
def ach:=go [a,b,c,d,e] [.e v0 v1,.l v0 v2,.l v2 v3,.t v3 v4] (.l v1 v4) (.f 1111101) QA
def acg:=go [a,b] [.e v0 (.a v1 (.c 3))] (.n (.p v1) v0) (.f 1101) QA
def Fe:=go [a,b] [.t v0 v1] (.n v0 (.p v1)) (.f 111) QA
def acf:=go [a,b,c] [.t v0 v1,.e v2 (.a v1 (.c 3))] (.n v0 v2) (.f 11011) QA
def ace:=go [a,b] [.e v0 (.a v1 (.c 3))] (.n v1 v0) (.f 1101) QA
def Ez:=go [a,b,c] [.t v0 v1,.e v2 (.a v1 (.c 3))] (.t v0 v2) (.f 11011) QA
def Sf:=go [a,b,c] [.e v0 (.a v1 (.c 3)),.t v2 v1] (.t v2 v0) (.f 11101) QA
def Se:=go [a,b] [.e v0 (.a v1 (.c 3))] (.t (.a v1 (.c 2)) v0) (.f 1101) QA
def acd:=go [a] [] (.n (.p v0) v0) (.f 101) QA
def Sd:=go [a,b] [.l v0 (.c 4000),.t v1 v0] (.t v1 (.c 9223372036854775808)) (.f 1111) QA
def Sc:=go [a,b,c] [.l v0 v1,.t v2 v0] (.t (.s v0 (.c 1)) v1) (.s 0 (.f 1100011) (.f 1011)) QA
def Sb:=go [a,b] [.l v0 (.c 4000),.t (.s v1 (.c 1)) v0] (.t (.s v1 (.c 1)) (.c 9223372036854775808)) (.f 1111) QA
def GK:=go [a] [.l v0 (.c 4000)] (.l v0 (.c 16777216)) (.f 111) QA
def acb:=go [a,b,c,d] [.l v0 v1,.t v2 v0,.t v3 (.s v0 v2)] (.t (.a v2 v3) v1) (.s 0 (.f 11001011) (.f 10101)) QA
def Sa:=go [a,b,c] [.e v0 (.a v1 (.c 3)),.l v0 v2] (.t (.a v1 (.c 2)) v2) (.f 11101) QA
def GJ:=go [a,b,c] [.e v0 (.a v1 (.c 3)),.l v0 v2] (.t v1 v2) (.f 11101) QA
def GI:=go [a,b,c] [.e v0 (.a v1 (.c 3)),.l v0 v2] (.t (.p v1) v2) (.f 11101) QA
def R9:=go [a,b,c,d] [.t v0 v1,.e v2 (.a v1 (.c 3)),.l v2 v3] (.t v0 v3) (.f 111011) QA
def aca:=go [a,b,c] [.t v0 v1,.t v2 (.s v1 v0)] (.t (.a v0 v2) v1) (.s 0 (.f 1100101) (.f 10101)) QA
def ab9:=go [a] [.t v0 (.c 3)] (.w (.c 2) v0) (.f 111) QA
def ab8:=go [a,b] [.t (.p v0) v1] (.n (.p v0) v1) (.f 111) QA
def R8:=go [a,b,c,d] [.e v0 (.a v1 (.c 3)),.l v0 v2,.t (.p v2) v3] (.n v1 v3) (.f 111101) QA
def ab7:=go [a,b,c,d] [.e v0 (.a v1 (.c 3)),.l v0 v2,.t (.p v2) v3] (.t (.p v1) v3) (.f 111101) QA
def ab6:=go [a,b,c,d] [.e v0 (.a v1 (.c 3)),.l v0 v2,.t (.p v2) v3] (.n (.p v1) v3) (.f 111101) QA
def ab5:=go [a,b,c,d] [.e v0 (.a v1 (.c 3)),.l v0 v2,.t (.p v2) v3] (.t v1 v3) (.f 111101) QA
def ab4:=go [a,b,c] [.e v0 (.a v1 (.c 3)),.l v0 v2] (.l v1 v2) (.f 11101) QA
def ab3:=go [] [] (.l (.c 1) (.c 1)) (.f 11) QA
def ab2:=go [a] [] (.l (.c 1) (.a (.c 1) v0)) (.f 11) QA
def R7:=go [a] [.l (.c 9) v0] (.t (.c 6) v0) (.f 111) QA
def ab1:=go [a] [.l (.c 9) v0] (.n (.c 6) v0) (.f 111) QA
def ab0:=go [a] [.t v0 (.c 4)] (.l v0 (.c 16777216)) (.f 111) QA
def Ib:=go [a] [.l (.c 9) v0] (.t (.c 4) v0) (.f 111) QA
def Kn:=go [a] [.l (.c 9) v0] (.n (.c 4) v0) (.f 111) QA
def abZ:=go [a,b] [.l (.c 9) v0,.t (.p (.p v0)) v1] (.n (.c 4) v1) (.f 1111) QA
def abY:=go [a,b] [.t (.p (.p v0)) v1] (.l v0 v1) (.f 111) QA
def abX:=go [a,b] [.l (.c 9) v0,.t (.p (.p v0)) v1] (.n v1 (.c 4)) (.f 11101) QA
def R6:=go [a] [.l (.c 9) v0] (.t (.c 5) v0) (.f 111) QA
def abW:=go [a,b] [.l (.c 9) v0,.l v0 v1] (.n v1 (.c 5)) (.f 11101) QA
def Km:=go [a] [.l v0 (.c 100)] (.l v0 (.c 16777216)) (.f 111) QA
def R4:=go [a] [.l v0 (.c 100)] (.t (.p v0) (.c 1152921504606846976)) (.f 111) QA
def Ia:=go [a] [.l (.c 9) v0] (.t (.c 8) v0) (.f 111) QA
def R0:=go [a] [.l (.c 9) v0] (.n (.c 8) v0) (.f 111) QA
def H9:=go [a,b] [.l (.c 9) v0,.t (.p v0) v1] (.t (.c 4) v1) (.f 1111) QA
def Fd:=go [a,b,c] [.t v0 v1,.t (.p v1) v2] (.t v0 v2) (.f 1111) QA
def H8:=go [a] [.t v0 (.c 7)] (.t v0 (.c 9223372036854775808)) (.f 111) QA
def RZ:=go [a,b] [.t v0 (.p v1)] (.e (.s v0 v1) (.c 0)) (.n 0 (.f 11) (.s 0 (.f 110011) (.f 1101))) QA
def RY:=go [a,b] [.l v0 (.c 100),.t v1 (.p v0)] (.l v1 (.c 16777216)) (.f 1111) QA
def RX:=go [a,b,c] [.t (.p v0) v1,.t (.p v1) v2] (.t (.p v0) v2) (.f 1111) QA
def RW:=go [a] [.l (.c 9) v0] (.t (.c 3) v0) (.f 111) QA
def abV:=go [a] [.l (.c 9) v0] (.n (.c 3) v0) (.f 111) QA
def abU:=go [a] [.l (.c 9) v0] (.n (.p v0) (.c 3)) (.f 1101) QA
def H7:=go [a] [.l (.c 9) v0] (.t (.c 7) v0) (.f 111) QA
def RV:=go [a] [.l (.c 9) v0] (.n (.c 7) v0) (.f 111) QA
def RU:=go [a] [.l (.c 9) v0] (.t (.c 2) v0) (.f 111) QA
def abT:=go [a] [.l (.c 9) v0] (.n (.c 2) v0) (.f 111) QA
def abS:=go [a] [.l (.c 9) v0] (.n (.p v0) (.c 2)) (.f 1101) QA
def RT:=go [a,b] [.l v0 v1] (.t v0 (.p v1)) (.f 111) QA
def RS:=go [a,b,c] [.l v0 (.c 1000),.l (.a v1 v2) v0] (.t v1 (.c 9223372036854775808)) (.f 1111) QA
def abR:=go [a,b] [.l v0 (.c 1000),.l v1 v0] (.t v1 (.c 9223372036854775808)) (.f 1111) QA
def abQ:=go [a,b,c] [.l v0 (.c 1000),.l (.a v1 v2) v0] (.t (.a v1 v2) (.c 9223372036854775808)) (.f 1111) QA
def abP:=go [a] [.l v0 (.c 5000)] (.l v0 (.c 16777216)) (.f 111) QA
def abO:=go [a] [.l (.c 9) v0] (.n (.c 5) v0) (.f 111) QA
def abM:=go [a,b,c] [.t (.p v0) v1,.t v2 v0] (.t v2 v1) (.f 1111) QA
def RQ:=go [a,b] [.l (.c 9) v0,.t (.p v0) v1] (.t (.c 5) v1) (.f 1111) QA
def abL:=go [a] [.l v0 (.c 3)] (.t v0 (.c 1152921504606846976)) (.f 111) QA
def abK:=go [a,b] [.t v0 v1] (.l (.p v0) v1) (.f 111) QA
def abJ:=go [a,b] [.e v0 v1,.t v1 (.c 2)] (.l v0 (.c 16777216)) (.f 11011) QA
def abI:=go [a,b,c] [.t (.p v0) v1,.t v1 v2] (.t (.p v0) v2) (.f 1111) QA
def RO:=go [a,b] [.t (.p v0) v1] (.n v1 (.p v0)) (.f 1101) QA
def abH:=go [a,b] [.n (.s v0 v1) (.c 0)] (.l (.c 1) (.s v0 v1)) (.n 0 (.f 11) (.f 111)) QA
def abG:=go [a,b,c] [.e v0 v1,.w v2 v0,.e (.s v2 v0) (.c 0)] (.e v2 v1) (.n 0 (.f 110011) (.s 0 (.f 1010101001) (.f 101100001))) QA
def RN:=go [a,b,c,d,e] [.l (.a v0 v1) v2,.e (.a v3 v4) v0] (.l (.a v3 (.a v4 v1)) v2) (.f 10111) QA
def RM:=go [a] [] (.l (.a (.c 0) (.c 0)) v0) (.f 11) QA
def RL:=go [a] [] (.l (.a v0 (.c 0)) v0) (.f 11) QA
def RK:=go [a,b] [.l v0 (.c 100),.l v1 (.m 3 v0)] (.l v1 (.c 4000)) (.f 1131) QA
def RJ:=go [a] [.l v0 (.c 5)] (.t v0 (.c 1000000)) (.f 111) QA
def Kl:=go [a] [.l v0 (.c 61)] (.l v0 (.c 4000)) (.f 111) QA
def abF:=go [a,b] [.l v0 (.c 61),.l v1 (.s v0 (.c 0))] (.t v1 (.c 64)) (.s 0 (.f 1100111) (.f 110101)) QA
def abE:=go [a] [.l (.c 9) v0] (.t (.c 1) (.p v0)) (.f 111) QA
def abD:=go [a] [.l (.c 9) v0] (.n (.c 1) v0) (.f 111) QA
def RI:=go [a,b,c,d] [.t v0 v1,.l (.p v1) v2,.t v2 v3] (.t v0 v3) (.f 11111) QA
def RH:=go [a,b] [.l (.p (.p v0)) v1] (.l v0 v1) (.f 111) QA
def abC:=go [a,b] [.t v0 v1] (.t v0 (.p (.p v1))) (.f 111) QA
def abB:=go [a] [.l (.c 9) v0] (.t (.c 1) (.p (.p v0))) (.f 111) QA
def abA:=go [a,b] [.l (.p (.p v0)) v1] (.t v0 v1) (.f 111) QA
def L7:=go [a] [.l (.c 9) v0] (.t (.c 1) v0) (.f 111) QA
def abz:=go [a,b] [.l v0 (.c 61),.l v1 (.a v0 (.c 2))] (.l v1 (.c 63)) (.f 1111) QA
def aby:=go [a,b] [.l (.c 9) v0,.l v0 v1] (.l (.c 9) v1) (.f 1111) QA
def RG:=go [a,b] [.l (.c 9) v0,.l v0 v1] (.t (.c 6) v1) (.f 1111) QA
def abx:=go [a,b] [.l (.c 9) v0,.l v0 v1] (.t (.c 4) v1) (.f 1111) QA
def abw:=go [a,b,c,d] [.l (.c 9) v0,.l v0 v1,.l v1 v2,.t v2 v3] (.l (.c 9) v3) (.f 111111) QA
def abv:=go [a,b,c,d,e,f,g] [.t v0 v1,.l v1 v2,.l v2 v3,.t v3 v4,.l v4 v5,.t v5 v6] (.t v0 v6) (.f 11111111) QA
def abu:=go [a,b,c] [.l (.c 9) v0,.l v0 v1,.l v1 v2] (.t (.c 3) v2) (.f 11111) QA
def abt:=go [a,b] [.l (.c 9) v0,.l v0 v1] (.t (.c 3) v1) (.f 1111) QA
def abr:=go [] [] (.n (.c 3) (.c 6)) (.f 11) QA
def abq:=go [a,b,c,d,e,f] [.l (.c 9) v0,.l v0 v1,.l v1 v2,.t v2 v3,.l v3 v4,.t v4 v5] (.l (.c 9) v5) (.f 11111111) QA
def GH:=go [a] [.l v0 (.c 61)] (.l v0 (.c 100)) (.f 111) QA
def abp:=go [a,b,c,d,e,f,g,h,i] [.t v0 v1,.l v1 v2,.l v2 v3,.t v3 v4,.l v4 v5,.t v5 v6,.l v6 v7,.t v7 v8] (.t v0 v8) (.f 1111111111) QA
def RF:=go [a,b,c,d] [.l (.c 9) v0,.l v0 v1,.l v1 v2,.l v2 v3] (.t (.c 4) v3) (.f 111111) QA
def RE:=go [a,b,c,d] [.l (.c 9) v0,.l v0 v1,.l v1 v2,.l v2 v3] (.n v3 (.c 3)) (.f 1111101) QA
def H6:=go [a,b,c,d] [.t v0 v1,.l v1 v2,.t v2 v3] (.t v0 v3) (.f 11111) QA
def abo:=go [a,b,c,d] [.l (.c 9) v0,.l v0 v1,.l v1 v2,.l v2 v3] (.t (.c 2) v3) (.f 111111) QA
def abn:=go [a,b,c] [.l (.c 9) v0,.l v0 v1,.l v1 v2] (.t (.c 2) v2) (.f 11111) QA
def abm:=go [a,b] [.l (.c 9) v0,.l v0 v1] (.t (.c 2) v1) (.f 1111) QA
def abl:=go [] [] (.n (.c 2) (.c 6)) (.f 11) QA
def abk:=go [a,b,c,d,e,f,g,h] [.l (.c 9) v0,.l v0 v1,.l v1 v2,.t v2 v3,.l v3 v4,.t v4 v5,.l v5 v6,.t v6 v7] (.l (.c 9) v7) (.f 1111111111) QA
def abj:=go [a,b,c,d,e] [.l (.c 9) v0,.l v0 v1,.l v1 v2,.l v2 v3,.l v3 v4] (.n v4 (.c 2)) (.f 11111101) QA
def abi:=go [a,b,c,d,e,f,g,h,i,j,k] [.t v0 v1,.l v1 v2,.l v2 v3,.t v3 v4,.l v4 v5,.t v5 v6,.l v6 v7,.t v7 v8,.l v8 v9,.t v9 v10] (.t v0 v10) (.f 111111111111) QA
def RD:=go [a,b,c,d,e] [.l (.c 9) v0,.l v0 v1,.l v1 v2,.l v2 v3,.l v3 v4] (.t (.c 3) v4) (.f 1111111) QA
def abh:=go [a,b,c,d,e,f,g,h,i,j] [.l (.c 9) v0,.l v0 v1,.l v1 v2,.t v2 v3,.l v3 v4,.t v4 v5,.l v5 v6,.t v6 v7,.l v7 v8,.t v8 v9] (.l (.c 9) v9) (.f 111111111111) QA
def abg:=go [a,b,c,d] [.l (.a v0 (.s (.a v1 v2) v1)) v3] (.l v0 v3) (.f 111) QA
def RC:=go [a] [.l v0 (.c 61)] (.l v0 (.c 1000)) (.f 111) QA
def abf:=go [a] [.l v0 (.c 63)] (.l v0 (.c 5000)) (.f 111) QA
def abe:=go [a,b,c,d,e,f,g,h,i,j] [.l (.c 9) v0,.l v0 v1,.l v1 v2,.t v2 v3,.l v3 v4,.t v4 v5,.l v5 v6,.t v6 v7,.l v7 v8,.t v8 v9] (.t (.c 5) v9) (.f 111111111111) QA
def abd:=go [a,b,c,d,e,f,g,h] [.l (.c 9) v0,.l v0 v1,.l v1 v2,.t v2 v3,.l v3 v4,.t v4 v5,.l v5 v6,.t v6 v7] (.t (.c 5) v7) (.f 1111111111) QA
def abc:=go [a,b,c,d,e,f] [.l (.c 9) v0,.l v0 v1,.l v1 v2,.t v2 v3,.l v3 v4,.t v4 v5] (.t (.c 5) v5) (.f 11111111) QA
def abb:=go [a,b,c] [.l (.c 9) v0,.l v0 v1,.l v1 v2] (.t (.c 5) v2) (.f 11111) QA
def aba:=go [a,b,c,d,e,f,g,h,i,j] [.l (.c 9) v0,.l v0 v1,.l v1 v2,.t v2 v3,.l v3 v4,.t v4 v5,.l v5 v6,.t v6 v7,.l v7 v8,.t v8 v9] (.t (.c 4) v9) (.f 111111111111) QA
def aa9:=go [a,b,c,d,e,f,g,h] [.l (.c 9) v0,.l v0 v1,.l v1 v2,.t v2 v3,.l v3 v4,.t v4 v5,.l v5 v6,.t v6 v7] (.t (.c 4) v7) (.f 1111111111) QA
def RB:=go [a,b,c,d,e,f,g,h] [.t v0 v1,.l v1 v2,.t v2 v3,.l v3 v4,.t v4 v5,.l v5 v6,.t v6 v7] (.t v0 v7) (.f 111111111) QA
def RA:=go [a,b,c,d,e,f] [.t v0 v1,.l v1 v2,.t v2 v3,.l v3 v4,.t v4 v5] (.t v0 v5) (.f 1111111) QA
def aa8:=go [a,b,c] [.l (.c 9) v0,.l v0 v1,.l v1 v2] (.n v2 (.c 2)) (.f 111101) QA
def aa7:=go [a,b,c] [.l (.c 9) v0,.l v0 v1,.l v1 v2] (.n v2 (.c 3)) (.f 111101) QA
def aa6:=go [a,b,c] [.l (.c 9) v0,.l v0 v1,.l v1 v2] (.n v2 (.c 4)) (.f 111101) QA
def aa5:=go [a,b,c,d] [.l (.c 9) v0,.l v0 v1,.l v1 v2,.l v2 v3] (.n v3 (.c 2)) (.f 1111101) QA
def Ry:=go [a,b,c,d,e,f,g,h,i,j,k,l,m] [.t v0 v1,.l v1 v2,.l v2 v3,.t v3 v4,.l v4 v5,.t v5 v6,.l v6 v7,.t v7 v8,.l v8 v9,.t v9 v10,.l v10 v11,.t v11 v12] (.t v0 v12) (.f 11111111111111) QA
def aa4:=go [a,b,c,d,e,f,g,h,i,j] [.t v0 v1,.l v1 v2,.t v2 v3,.l v3 v4,.t v4 v5,.l v5 v6,.t v6 v7,.l v7 v8,.t v8 v9] (.t v0 v9) (.f 11111111111) QA
def aa3:=go [a,b,c,d,e,f,g,h,i,j,k,l] [.l (.c 9) v0,.l v0 v1,.l v1 v2,.t v2 v3,.l v3 v4,.t v4 v5,.l v5 v6,.t v6 v7,.l v7 v8,.t v8 v9,.l v9 v10,.t v10 v11] (.l (.c 9) v11) (.f 11111111111111) QA
def aa2:=go [a,b,c] [.l v0 (.c 61),.l v1 v0,.e v2 v1] (.t v2 (.c 64)) (.f 101111) QA
def aa1:=go [a,b,c,d,e,f,g,h,i,j,k,l,m,n,o] [.l (.c 9) v0,.l v0 v1,.l v1 v2,.t v2 v3,.l v3 v4,.t v4 v5,.l v5 v6,.t v6 v7,.l v7 v8,.t v8 v9,.l v9 v10,.t v10 v11,.l v11 v12,.t v12 v13,.l v14 (.c 6)] (.t v14 v13) (.f 11111111111111111) QA
def aa0:=go [a,b,c,d,e,f,g,h,i,j,k,l,m] [.l (.c 9) v0,.l v0 v1,.l v1 v2,.t v2 v3,.l v3 v4,.t v4 v5,.l v5 v6,.t v6 v7,.l v7 v8,.t v8 v9,.l v9 v10,.t v10 v11,.l v12 (.c 6)] (.t v12 v11) (.f 111111111111111) QA
def aaZ:=go [a,b,c,d,e,f,g,h,i,j,k] [.l (.c 9) v0,.l v0 v1,.l v1 v2,.t v2 v3,.l v3 v4,.t v4 v5,.l v5 v6,.t v6 v7,.l v7 v8,.t v8 v9,.l v10 (.c 6)] (.t v10 v9) (.f 1111111111111) QA
def aaY:=go [] [] (.l (.c 2) (.c 6)) (.f 11) QA
def aaX:=go [] [] (.l (.c 3) (.c 6)) (.f 11) QA
def aaW:=go [a,b,c,d,e,f,g,h,i,j,k,l,m,n] [.l (.c 9) v0,.l v0 v1,.l v1 v2,.t v2 v3,.l v3 v4,.t v4 v5,.l v5 v6,.t v6 v7,.l v7 v8,.t v8 v9,.l v9 v10,.t v10 v11,.l v11 v12,.t v12 v13] (.t (.c 4) v13) (.f 1111111111111111) QA
def aaV:=go [a,b,c,d,e,f,g,h,i,j,k,l] [.l (.c 9) v0,.l v0 v1,.l v1 v2,.t v2 v3,.l v3 v4,.t v4 v5,.l v5 v6,.t v6 v7,.l v7 v8,.t v8 v9,.l v9 v10,.t v10 v11] (.t (.c 4) v11) (.f 11111111111111) QA
def aaU:=go [a,b,c,d,e,f,g,h,i,j,k,l,m,n] [.l (.c 9) v0,.l v0 v1,.l v1 v2,.t v2 v3,.l v3 v4,.t v4 v5,.l v5 v6,.t v6 v7,.l v7 v8,.t v8 v9,.l v9 v10,.t v10 v11,.l v11 v12,.t v12 v13] (.t (.c 5) v13) (.f 1111111111111111) QA
def aaT:=go [a,b,c,d,e,f,g,h,i,j,k,l] [.l (.c 9) v0,.l v0 v1,.l v1 v2,.t v2 v3,.l v3 v4,.t v4 v5,.l v5 v6,.t v6 v7,.l v7 v8,.t v8 v9,.l v9 v10,.t v10 v11] (.t (.c 5) v11) (.f 11111111111111) QA
def aaS:=go [] [] (.l (.c 6) (.c 6)) (.f 11) QA
def aaR:=go [a,b,c,d,e,f,g,h] [.l (.c 9) v0,.l v0 v1,.l v1 v2,.t v2 v3,.l v3 v4,.t v4 v5,.l v5 v6,.t v6 v7] (.t (.c 6) v7) (.f 1111111111) QA
def aaQ:=go [a,b,c,d,e,f] [.l (.c 9) v0,.l v0 v1,.l v1 v2,.t v2 v3,.l v3 v4,.t v4 v5] (.t (.c 6) v5) (.f 11111111) QA
def aaP:=go [a,b,c,d] [.l (.c 9) v0,.l v0 v1,.l v1 v2,.t v2 v3] (.t (.c 6) v3) (.f 111111) QA
def aaO:=go [a] [.l (.c 9) v0] (.n v0 (.c 0)) (.f 1101) QA
def aaN:=go [a] [.l (.c 9) v0] (.n v0 (.c 1)) (.f 1101) QA
def aaM:=go [a] [.l (.c 9) v0] (.n v0 (.c 2)) (.f 1101) QA
def aaL:=go [a] [.l (.c 9) v0] (.n v0 (.c 3)) (.f 1101) QA
def aaK:=go [a] [.l (.c 9) v0] (.n v0 (.c 4)) (.f 1101) QA
def aaI:=go [a] [.l (.c 9) v0] (.n v0 (.c 5)) (.f 1101) QA
def aaH:=go [a] [.l (.c 9) v0] (.n v0 (.c 6)) (.f 1101) QA
def aaG:=go [a,b] [.e v0 (.a v1 (.c 3))] (.t v1 v0) (.f 1101) QA
def aaF:=go [a,b] [.e v0 (.a v1 (.c 3))] (.t (.p v1) v0) (.f 1101) QA
def aaE:=go [a] [.l (.c 9) v0] (.l (.c 9) (.p v0)) (.f 111) QA
def aaD:=go [a,b,c] [.l (.c 9) v0,.e v1 (.a v0 (.c 3)),.l v1 v2] (.t (.c 1) v2) (.f 111011) QA
def Rx:=go [a,b,c,d] [.l v0 v1,.t v2 v0,.l v1 v3] (.t v2 v3) (.f 11111) QA
def aaB:=go [a,b,c,d] [.l (.c 9) v0,.e v1 (.a v0 (.c 3)),.l v1 v2,.l v2 v3] (.l (.c 9) v3) (.f 1111011) QA
def aaA:=go [a,b,c,d] [.l (.c 9) v0,.e v1 (.a v0 (.c 3)),.l v1 v2,.l v2 v3] (.t (.c 8) v3) (.f 1111011) QA
def aaz:=go [a,b,c,d] [.l (.c 9) v0,.e v1 (.a v0 (.c 3)),.l v1 v2,.l v2 v3] (.t (.c 7) v3) (.f 1111011) QA
def Rw:=go [a,b,c,d,e,f] [.l v0 v1,.t v2 v0,.l v1 v3,.l v3 v4,.t v4 v5] (.t v2 v5) (.f 1111111) QA
def aay:=go [a,b,c,d,e,f] [.l (.c 9) v0,.e v1 (.a v0 (.c 3)),.l v1 v2,.l v2 v3,.l v3 v4,.t v4 v5] (.l (.c 9) v5) (.f 111111011) QA
def aax:=go [a,b,c,d,e,f,g] [.l (.c 9) v0,.e v1 (.a v0 (.c 3)),.l v1 v2,.l v2 v3,.l v3 v4,.t v4 v5,.t v6 (.c 9)] (.t v6 v5) (.f 1111111011) QA
def aaw:=go [a,b,c,d,e] [.l (.c 9) v0,.e v1 (.a v0 (.c 3)),.l v1 v2,.l v2 v3,.t v4 (.c 9)] (.t v4 v3) (.f 11111011) QA
def aav:=go [a] [.n v0 (.c 1)] (.n v0 (.c 1)) (.n 0 (.f 111) (.f 1101)) QA
def aau:=go [a,b,c,d] [.l (.c 9) v0,.e v1 (.a v0 (.c 3)),.l v1 v2,.t v3 (.c 9)] (.t v3 v2) (.f 1111011) QA
def aas:=go [a] [.n v0 (.c 7)] (.n v0 (.c 7)) (.n 0 (.f 111) (.f 1101)) QA
def aar:=go [a] [.n v0 (.c 8)] (.n v0 (.c 8)) (.n 0 (.f 111) (.f 1101)) QA
def Rv:=go [a,b,c,d,e,f] [.l (.c 9) v0,.e v1 (.a v0 (.c 3)),.l v1 v2,.l v2 v3,.l v3 v4,.t v4 v5] (.t (.c 8) v5) (.f 111111011) QA
def Ru:=go [a,b,c,d,e,f] [.l (.c 9) v0,.e v1 (.a v0 (.c 3)),.l v1 v2,.l v2 v3,.l v3 v4,.t v4 v5] (.t (.c 7) v5) (.f 111111011) QA
def Rt:=go [a,b,c,d,e,f,g] [.l v0 v1,.t v2 v0,.l v1 v3,.l v3 v4,.t v4 v5,.l v5 v6] (.t v2 v6) (.f 11111111) QA
def aaq:=go [a,b,c,d,e,f,g] [.l (.c 9) v0,.e v1 (.a v0 (.c 3)),.l v1 v2,.l v2 v3,.l v3 v4,.t v4 v5,.l v5 v6] (.l (.c 9) v6) (.f 1111111011) QA
def aap:=go [a,b,c,d,e,f,g,h] [.t v0 v1,.e v2 (.a v1 (.c 3)),.l v2 v3,.l v3 v4,.l v4 v5,.t v5 v6,.l v6 v7] (.t v0 v7) (.f 1111111011) QA
def B8:=go [a,b,c] [.t v0 v1,.l v1 v2] (.t v0 v2) (.f 1111) QA
def aao:=go [a,b,c,d,e,f,g] [.l (.c 9) v0,.e v1 (.a v0 (.c 3)),.l v1 v2,.l v2 v3,.l v3 v4,.t v4 v5,.l v5 v6] (.t (.c 7) v6) (.f 1111111011) QA
def aan:=go [a,b,c,d,e,f,g] [.l (.c 9) v0,.e v1 (.a v0 (.c 3)),.l v1 v2,.l v2 v3,.l v3 v4,.t v4 v5,.l v5 v6] (.t (.c 8) v6) (.f 1111111011) QA
def aal:=go [a,b,c,d,e] [.l (.c 9) v0,.e v1 (.a v0 (.c 3)),.l v1 v2,.l v2 v3,.l v3 v4] (.t (.c 1) v4) (.f 11111011) QA
def aak:=go [a,b,c,d,e,f] [.l (.c 9) v0,.e v1 (.a v0 (.c 3)),.l v1 v2,.l v2 v3,.l v3 v4,.l v4 v5] (.t (.c 1) v5) (.f 111111011) QA
def Kk:=go [a] [.l v0 (.c 63)] (.l v0 (.c 16777216)) (.f 111) QA
def aaj:=go [a] [.l (.c 9) v0] (.n (.c 0) v0) (.f 111) QA
def aai:=go [a] [.e v0 (.c 13)] (.l v0 (.c 13)) (.f 1011) QA
def aah:=go [a,b] [.l v0 (.c 63),.l v1 (.c 13)] (.l (.a (.s v0 (.c 2)) v1) (.c 16777216)) (.s 0 (.f 1100111) (.f 110101)) QA
def aag:=go [a,b] [.t v0 (.c 9),.e v1 (.c 13)] (.l (.a (.s v0 (.c 2)) v1) (.c 61)) (.s 0 (.f 11000111) (.f 1100101)) QA
def Rs:=go [a,b,c] [.t v0 v1,.l v1 v2] (.l v0 v2) (.f 1111) QA
def aaf:=go [a,b,c,d] [.t v0 v1,.l v1 v2,.l v2 v3] (.l v0 v3) (.f 11111) QA
def aae:=go [a,b,c,d] [.t v0 v1,.l v1 v2,.t v3 v0] (.t v3 v2) (.f 11111) QA
def Rr:=go [a,b,c,d] [.t v0 v1,.l v1 v2,.l v2 v3] (.t v0 v3) (.f 11111) QA
def aad:=go [a] [.e v0 (.c 9)] (.l (.c 9) v0) (.f 1101) QA
def Rq:=go [a] [.e v0 (.c 9)] (.t (.c 0) v0) (.f 1101) QA
def aac:=go [a,b] [.e v0 (.c 9),.l v0 v1] (.l (.c 9) v1) (.f 11101) QA
def aab:=go [a,b,c] [.e v0 (.c 9),.l v0 v1,.l v1 v2] (.l (.c 9) v2) (.f 111101) QA
def aaa:=go [a,b,c,d] [.e v0 (.c 9),.l v0 v1,.l v1 v2,.l v2 v3] (.l (.c 9) v3) (.f 1111101) QA
def W9:=go [a,b] [.e v0 (.c 9),.t v1 (.c 9)] (.t v1 v0) (.f 11101) QA
def W8:=go [a,b,c,d,e] [.e v0 (.c 9),.l v0 v1,.l v1 v2,.l v2 v3,.l v3 v4] (.l (.c 9) v4) (.f 11111101) QA
def Rp:=go [a,b] [.l v0 (.c 61),.l v1 v0] (.l v1 (.c 61)) (.f 1111) QA
def Ro:=go [a] [.e v0 (.c 9)] (.t (.c 1) v0) (.f 1101) QA
def Rn:=go [a,b,c,d,e] [.t v0 v1,.l v1 v2,.l v2 v3,.l v3 v4] (.t v0 v4) (.f 111111) QA
def W7:=go [a,b,c,d,e,f] [.t v0 v1,.l v1 v2,.l v2 v3,.l v3 v4,.l v4 v5] (.t v0 v5) (.f 1111111) QA
def W6:=go [a,b,c,d,e,f] [.e v0 (.c 9),.l v0 v1,.l v1 v2,.l v2 v3,.l v3 v4,.l v4 v5] (.l (.c 9) v5) (.f 111111101) QA
def W5:=go [a,b,c,d,e,f] [.e v0 (.c 9),.l v0 v1,.l v1 v2,.l v2 v3,.l v3 v4,.l v4 v5] (.t (.c 0) v5) (.f 111111101) QA
def W4:=go [a,b,c,d,e] [.e v0 (.c 9),.l v0 v1,.l v1 v2,.l v2 v3,.l v3 v4] (.t (.c 0) v4) (.f 11111101) QA
def W3:=go [a,b,c,d,e,f] [.e v0 (.c 9),.l v0 v1,.l v1 v2,.l v2 v3,.l v3 v4,.l v4 v5] (.t (.c 1) v5) (.f 111111101) QA
def W2:=go [a,b] [.e v0 v1] (.l v1 (.p (.p v0))) (.f 1101) QA
def W1:=go [a,b,c] [.e v0 v1,.t v2 v1] (.n v2 (.p v0)) (.f 11101) QA
def WZ:=go [a,b,c] [.e v0 v1,.t v2 v1] (.n v2 v0) (.f 11101) QA
def WY:=go [a,b] [.e v0 v1] (.l v1 (.p v0)) (.f 1101) QA
def WX:=go [a] [] (.t (.p v0) (.p (.p v0))) (.f 11) QA
def WW:=go [a,b,c] [.l v0 (.c 4000),.l v1 v2,.t v2 v0] (.l v1 (.c 16777216)) (.f 11111) QA
def WV:=go [a,b,c] [.t v0 v1,.l (.p v1) v2] (.n v0 v2) (.f 1111) QA
def WU:=go [a,b,c,d] [.t v0 v1,.l (.p v1) v2,.t v2 v3] (.n v0 v3) (.f 11111) QA
def WT:=go [a,b] [.l (.p v0) v1] (.n v0 v1) (.f 111) QA
def DJ:=go [a,b,c] [.t v0 v1,.t v1 v2] (.n v0 v2) (.f 1111) QA
def WS:=go [a,b] [.t v0 v1] (.l (.p v0) (.p v1)) (.f 111) QA
def Rm:=go [a,b] [.l (.p v0) v1] (.n v1 v0) (.f 1101) QA
def WR:=go [a,b,c] [.t v0 v1,.t v2 v0] (.n v2 v1) (.f 1111) QA
def Rl:=go [a,b,c] [.t v0 v1,.t v1 v2] (.n v2 v0) (.f 11101) QA
def H5:=go [a,b,c,d] [.t v0 v1,.t v1 v2,.t v2 v3] (.t v0 v3) (.f 11111) QA
def Rk:=go [a,b] [.t v0 v1,.e v0 v1] (.f) (.f 1101) QA
def WQ:=go [a,b,c,d,e] [.l v0 (.c 4000),.l v1 v2,.t v2 v3,.l v3 v0,.e v4 (.c 4096)] (.t (.p v1) v4) (.f 11011111) QA
def WP:=go [a,b,c] [.l v0 (.c 4000),.l v1 v2,.l v2 v0] (.l v1 (.c 16777216)) (.f 11111) QA
def WO:=go [a,b,c] [.l v0 v1,.l v2 v0] (.l v2 v1) (.f 1111) QA
def WN:=go [a,b,c] [.t v0 v1,.t v1 v2] (.l v0 v2) (.f 1111) QA
def WM:=go [a,b,c] [.e v0 v1,.t v0 v2] (.l v1 v2) (.f 11101) QA
def WK:=go [a,b,c] [.e v0 v1,.l (.p v0) v2] (.l v1 v2) (.f 11101) QA
def WJ:=go [a,b,c] [.t v0 v1,.l (.p v1) v2] (.n v2 v0) (.f 11101) QA
def WH:=go [a,b,c] [.e v0 v1,.l v0 v2] (.l v1 v2) (.f 11101) QA
def WG:=go [a,b,c,d] [.l v0 v1,.l v1 v2,.t v2 v3] (.l v0 v3) (.f 11111) QA
def L5:=go [a,b,c,d] [.t v0 v1,.l v1 v2,.l v2 v3] (.n v3 v0) (.f 111101) QA
def Kj:=go [a,b,c,d,e] [.t v0 v1,.l v1 v2,.l v2 v3,.t v3 v4] (.t v0 v4) (.f 111111) QA
def WF:=go [a,b] [.e v0 (.a v1 (.c 2))] (.t (.p v1) v0) (.f 1101) QA
def WE:=go [a,b] [.e v0 (.a v1 (.c 2))] (.t v1 v0) (.f 1101) QA
def Rj:=go [a,b,c] [.t v0 v1,.e v2 (.a v1 (.c 2))] (.t v0 v2) (.f 11011) QA
def Ri:=go [a,b] [.e v0 (.a v1 (.c 2))] (.l v1 v0) (.f 1101) QA
def WD:=go [a] [.t v0 v0] (.f) (.f 11) QA
def WC:=go [a,b,c] [.e v0 (.a v1 (.c 2)),.t v2 v1] (.t v2 v0) (.f 11101) QA
def Rh:=go [] [.t (.c 0) (.c 0)] (.f) (.f 11) QA
def WB:=go [a,b] [.l v0 v1,.l v1 (.c 4000)] (.t v0 (.c 4611686018427387904)) (.f 1111) QA
def L4:=go [a,b,c] [.t v0 v1,.t (.a v1 (.c 4)) v2] (.t v0 v2) (.f 1111) QA
def WA:=go [a,b,c] [.l v0 v1,.l v1 (.c 4000),.t v2 v0] (.t v2 (.c 9223372036854775808)) (.f 11111) QA
def Wz:=go [a,b,c] [.t (.a v0 (.c 4)) v1,.t v2 v0] (.t v2 v1) (.f 1111) QA
def Wy:=go [a,b,c,d] [.t v0 v1,.l v1 v2,.e v2 v0] (.e v3 (.c 0)) (.f 10111) QA
def Wx:=go [a,b,c] [.l v0 v1,.t v2 v0,.l v1 v2] (.f) (.f 1111) QA
def Rg:=go [a,b,c,d] [.e (.a v0 v1) v2,.t v3 (.a v0 (.p v1)),.w v3 v2] (.e v3 v2) (.n 0 (.f 111) (.f 110101)) QA
def Ww:=go [a,b,c] [.e (.a v0 v1) v2] (.l v0 v2) (.f 1011) QA
def Wv:=go [a,b,c,d] [.l v0 (.c 4000),.l v1 v0,.l v2 v3,.t v3 v1] (.l v2 (.c 16777216)) (.f 111111) QA
def Wu:=go [a,b,c] [.l v0 v1,.e v2 v1] (.l v0 v2) (.f 11011) QA
def Wt:=go [a,b,c] [.t v0 v1,.e v2 v0] (.t v2 v1) (.f 10111) QA
def Rf:=go [a,b,c] [.l v0 v1,.l v2 (.p v0)] (.l v2 (.p v1)) (.f 1111) QA
def Rd:=go [a,b,c,d] [.e (.a v0 v1) v2,.t v3 v2] (.t v3 (.a v0 (.p v1))) (.f 11101) QA
def Rc:=go [a,b,c,d] [.e (.a v0 v1) v2,.e v3 v2] (.l v0 v3) (.f 110011) QA
def Rb:=go [a,b,c,d] [.e (.a v0 v1) v2,.e v3 v2] (.t v3 (.a v0 (.p v1))) (.f 101101) QA
def L3:=go [a,b] [.t (.a v0 (.c 4)) v1] (.t v0 v1) (.f 111) QA
def Ra:=go [a,b,c] [.e (.a v0 v1) v2] (.e (.s (.a v0 (.p v1)) (.c 1)) v2) (.n 0 (.s 0 (.f 101011) (.f 101)) (.s 0 (.f 1100101) (.f 101))) QA
def P9:=go [a,b,c] [.t (.a v0 (.c 4)) v1,.t (.p v1) v2] (.t (.a v0 (.c 4)) v2) (.f 1111) QA
def P8:=go [a,b] [.t (.a v0 (.c 4)) v1] (.l v0 (.p v1)) (.f 111) QA
def P7:=go [a,b,c,d,e] [.l v0 v1,.l (.a v2 v3) v0,.t v4 v2] (.t (.s v2 (.c 1)) v1) (.s 0 (.f 11000111) (.f 1011)) QA
def LZ:=go [a,b,c,d] [.l v0 v1,.l v1 (.c 4000),.l (.a v2 v3) v0] (.t (.s v2 (.c 1)) (.c 9223372036854775808)) (.s 0 (.f 11001111) (.f 1100001)) QA
def P6:=go [a,b,c,d] [.l v0 v1,.t (.a v2 v3) v0] (.t (.a v2 v3) v1) (.f 1111) QA
def LY:=go [a,b,c,d] [.l v0 v1,.l v1 (.c 4000),.t (.a v2 v3) v0] (.t (.a v2 v3) (.c 9223372036854775808)) (.f 11111) QA
def Wr:=go [a] [] (.e (.a v0 (.c 0)) v0) (.n 0 (.f 11) (.f 11)) QA
def P5:=go [a,b,c,d,e,f] [.l v0 v1,.l (.a v2 v3) v0,.t v4 (.s v2 v5)] (.t (.s (.s v2 v5) (.c 1)) v1) (.s 0 (.s 1 (.f 11001000111) (.f 1010001)) (.f 1101)) QA
def LX:=go [a,b,c,d,e,f] [.l v0 v1,.l v1 (.c 4000),.l (.a v2 v3) v0,.t v4 (.s v2 v5)] (.t (.s (.s v2 v5) (.c 1)) (.c 9223372036854775808)) (.s 0 (.s 1 (.f 110010001111) (.f 11000000001)) (.f 1101)) QA
def Wq:=go [a,b,c,d] [.e (.a v0 v1) v2,.t v3 (.s v2 v1)] (.t (.s v0 (.c 1)) v0) (.s 0 (.f 11000001) (.s 1 (.f 11000111) (.f 110001))) QA
def Wp:=go [a,b,c,d] [.e (.a v0 v1) v2,.t v3 (.s v2 v1)] (.e (.a (.s v0 (.c 1)) (.p v1)) v2) (.s 0 (.n 0 (.f 1101001) (.f 11100001)) (.s 1 (.f 11000111) (.f 110001))) QA
def Wo:=go [a,b,c] [.t v0 (.s v1 v2)] (.l (.p v2) v1) (.s 0 (.f 110011) (.f 1101)) QA
def P4:=go [a,b,c] [.t v0 (.s v1 v2)] (.l (.a v0 (.p v2)) v1) (.s 0 (.f 110011) (.f 1101)) QA
def Wn:=go [a,b] [] (.e (.s (.s v0 (.c 1)) v1) (.s (.s v0 v1) (.c 1))) (.n 0 (.s 0 (.s 1 (.s 2 (.s 3 (.f 11001000100101) (.f 1100000000001)) (.f 1011001)) (.s 2 (.s 3 (.f 1100100010101) (.f 110000000001)) (.s 3 (.f 110010000001) (.f 11000000001)))) (.s 2 (.s 3 (.f 1100100011) (.f 110000001)) (.s 3 (.f 110010001) (.f 11000001)))) (.s 0 (.s 1 (.s 2 (.s 3 (.f 10100101001001) (.f 1010101001001)) (.f 1011001001)) (.f 1100001)) (.s 1 (.f 1100101) (.f 110001)))) QA
def Ki:=go [a,b,c] [.l (.a v0 v1) v2] (.l v1 v2) (.f 111) QA
def Wm:=go [a,b,c] [.l (.a v0 v1) v2] (.e (.a (.s v2 (.a v0 v1)) (.a (.a v0 v1) (.c 0))) v2) (.n 0 (.s 0 (.f 10101) (.f 1011)) (.s 0 (.f 11001) (.f 10101))) QA
def P3:=go [a,b,c,d,e] [.l v0 v1,.t (.a (.a v2 v3) v4) v0] (.t (.a (.a v2 v3) v4) v1) (.f 1111) QA
def LW:=go [a,b,c,d,e] [.l v0 v1,.l v1 (.c 4000),.t (.a (.a v2 v3) v4) v0] (.t (.a (.a v2 v3) v4) (.c 9223372036854775808)) (.f 11111) QA
def Wl:=go [a,b,c,d,e] [.e (.a v0 (.a (.a v1 v2) v3)) v4,.t (.a (.a v1 v2) v3) v4] (.t (.s v0 (.c 1)) v0) (.s 0 (.f 11000001) (.f 10111)) QA
def Wk:=go [a,b,c,d,e] [.e (.a v0 (.a (.a v1 v2) v3)) v4,.t (.a (.a v1 v2) v3) v4] (.e (.a (.s v0 (.c 1)) (.a (.a v1 v2) (.p v3))) v4) (.n 0 (.s 0 (.f 1010101) (.f 101101)) (.s 0 (.f 11001001) (.f 11011))) QA
def Wj:=go [a,b,c,d] [.t (.a (.a v0 v1) v2) v3] (.l (.a (.a v0 v1) (.p v2)) v3) (.f 111) QA
def LV:=go [a,b,c,d] [.t (.a (.a v0 v1) v2) v3] (.l (.a (.a v0 v1) v2) v3) (.f 111) QA
def Wi:=go [a,b,c,d,e] [.e (.a v0 (.a (.a v1 v2) v3)) v4] (.l (.a (.a v1 v2) v3) v4) (.f 1011) QA
def Wh:=go [a,b,c,d,e] [.e v0 v1,.t v0 v2,.l v2 v3,.t v3 v4] (.l v1 v4) (.f 1111101) QA
def Wg:=go [a,b,c,d] [.e v0 v1,.t v0 v2,.t v3 v1] (.t v3 v2) (.f 111101) QA
def Wf:=go [a,b,c,d] [.e v0 v1,.t v0 v2,.l v2 v3] (.l v1 v3) (.f 111101) QA
def We:=go [a,b,c,d] [.l v0 v1] (.l (.p v0) (.a (.p (.m 2 (.s v2 v3))) v1)) (.f 111) QA
def Wd:=go [a,b,c,d] [.l v0 (.c 4000),.l (.a v1 v2) (.p (.m 2 v0)),.l v3 v2] (.l v3 (.c 16777216)) (.f 11121) QA
def Wc:=go [a,b,c,d] [.l v0 (.c 4000),.l (.a v1 v2) (.p (.m 2 v0)),.l (.p v3) v2] (.l (.a v3 (.p (.c 0))) (.c 16777216)) (.f 11121) QA
def H4:=go [a,b] [.t v0 v1] (.n v0 (.a v1 (.c 2))) (.f 111) QA
def Wb:=go [a,b] [.t (.a v0 (.c 3)) v1] (.t (.a v0 (.c 2)) v1) (.f 111) QA
def Wa:=go [a,b,c] [.t (.a v0 (.c 3)) v1,.l v1 v2] (.l v0 v2) (.f 1111) QA
def P2:=go [a,b,c] [.t (.a v0 (.c 3)) v1,.t v2 v0] (.t v2 v1) (.f 1111) QA
def V9:=go [a] [] (.n (.a v0 (.c 3)) (.a v0 (.c 2))) (.f 101) QA
def V8:=go [a] [.n v0 (.c 0)] (.t (.c 0) v0) (.n 0 (.f 11) (.f 111)) QA
def V7:=go [a,b,c] [.l v0 (.c 4000),.l (.a v1 v2) (.p (.m 2 v0))] (.l v1 (.c 16777216)) (.f 1121) QA
def GF:=go [a,b,c,d] [.t v0 v1,.l v2 v0,.t v3 v2] (.t v3 v1) (.f 11111) QA
def V6:=go [a,b,c] [.t (.a v0 (.c 3)) v1,.l v1 v2] (.n v2 (.a v0 (.c 2))) (.f 11101) QA
def V5:=go [a,b,c] [.t (.a v0 (.c 3)) v1,.l v1 v2] (.n v2 (.a v0 (.c 3))) (.f 11101) QA
def V4:=go [a,b,c,d] [.t (.a v0 (.c 3)) v1,.t v2 v3,.l v1 v2] (.t (.a v0 (.c 2)) v3) (.f 11111) QA
def V3:=go [a,b,c,d] [.l v0 (.c 4000),.l (.a v1 v2) (.p (.m 2 v0)),.l (.p v3) v2] (.l v3 (.c 16777216)) (.f 11121) QA
def Kh:=go [a,b,c,d] [.t (.a v0 (.c 3)) v1,.t v2 v3,.l v1 v2] (.t (.a v0 (.c 3)) v3) (.f 11111) QA
def V2:=go [a,b,c,d] [.t (.a v0 (.c 3)) v1,.t v2 v3,.l v1 v2] (.n v3 (.a v0 (.c 2))) (.f 111101) QA
def V0:=go [a,b] [.t (.a v0 (.c 3)) v1] (.n (.a v0 (.c 2)) v1) (.f 111) QA
def VZ:=go [a,b,c,d,e] [.l v0 (.c 4000),.l (.a v1 v2) (.p (.m 2 v0)),.l (.p v3) v2,.l v4 (.p v3)] (.l v4 (.c 16777216)) (.f 111121) QA
def P1:=go [a,b] [.t (.a v0 (.c 3)) v1] (.n (.a v0 (.c 3)) v1) (.f 111) QA
def VY:=go [a,b] [.t (.a v0 (.c 3)) v1] (.n v1 (.a v0 (.c 2))) (.f 1101) QA
def VX:=go [a,b,c,d,e,f] [.l (.a v0 v1) (.p (.m 2 v2)),.e v1 (.a v3 v4),.t v5 (.a v3 v4)] (.l (.a (.p v0) v5) (.p (.m 2 v2))) (.f 111011) QA
def VW:=go [a,b,c,d,e] [.l (.a v0 v1) (.p (.m 2 v2)),.e v1 (.a v3 v4)] (.l (.a v0 v4) (.p (.m 2 v2))) (.f 11011) QA
def VV:=go [a,b,c] [] (.t v0 (.a (.p (.m 2 (.s v1 v2))) v0)) (.f 11) QA
def VU:=go [a,b,c] [.t (.a v0 (.c 3)) v1,.l v1 v2] (.t (.a v0 (.c 3)) v2) (.f 1111) QA
def VT:=go [a,b,c] [.l (.a v0 v1) (.p (.m 2 v2))] (.l v0 (.p (.m 2 v2))) (.f 111) QA
def VQ:=go [a,b,c] [.l (.a v0 v1) v2,.t (.c 0) v1] (.t v0 v2) (.f 1111) QA
def VP:=go [a,b] [.e v0 v1,.t v1 (.c 64)] (.t v0 (.c 64)) (.f 11011) QA
def VO:=go [a,b,c] [.l v0 v1,.t v1 v2,.t v2 (.c 64)] (.l v0 (.c 16777216)) (.f 11111) QA
def P0:=go [a,b,c] [.t (.a v0 (.c 3)) v1,.t v1 v2] (.t (.a v0 (.c 3)) v2) (.f 1111) QA
def PZ:=go [a,b] [.l v0 v1] (.l (.a v0 (.p (.c 0))) (.p v1)) (.f 111) QA
def VN:=go [a,b] [.l v0 v1,.t v1 (.c 64)] (.l v0 (.c 16777216)) (.f 1111) QA
def VM:=go [a,b] [.t v0 (.c 64),.l v1 (.p v0)] (.l v1 (.c 16777216)) (.f 1111) QA
def VL:=go [a,b] [.t v0 (.c 64),.l v1 (.p v0)] (.l (.p v1) (.c 4000)) (.f 1111) QA
def VJ:=go [a,b] [.t v0 v1] (.t v0 (.p (.p (.p (.p (.p v1)))))) (.f 111) QA
def PY:=go [a,b,c,d] [.t v0 v1,.t (.a v1 (.c 3)) v2,.t v2 v3] (.t v0 v3) (.f 11111) QA
def PX:=go [a,b,c] [.t v0 v1,.t (.a v1 (.c 3)) v2] (.n v0 v2) (.f 1111) QA
def LU:=go [a,b] [.t v0 v1] (.n v0 (.a v1 (.c 3))) (.f 111) QA
def PW:=go [a,b,c,d,e] [.t v0 v1,.t (.a v1 (.c 3)) v2,.t v2 v3,.l (.a v3 (.c 5)) v4] (.n v0 v4) (.f 111111) QA
def PV:=go [a,b,c,d] [.t (.a v0 (.c 3)) v1,.t v1 v2,.l (.a v2 (.c 5)) v3] (.l v0 v3) (.f 11111) QA
def VI:=go [a,b,c,d] [.t (.a v0 (.c 3)) v1,.t v1 v2,.t v3 v0] (.t v3 v2) (.f 11111) QA
def VH:=go [a,b,c] [.t (.a v0 (.c 3)) v1,.t v2 v0] (.n v2 v1) (.f 1111) QA
def VG:=go [a,b,c,d,e] [.t (.a v0 (.c 3)) v1,.t v1 v2,.l (.a v2 (.c 5)) v3,.t v4 v0] (.n v4 v3) (.f 111111) QA
def VF:=go [a,b,c,d,e] [.t v0 v1,.t (.a v1 (.c 3)) v2,.t v2 v3,.l (.a v3 (.c 5)) v4] (.n v4 v0) (.f 1111101) QA
def VD:=go [a,b,c,d] [.l v0 v1,.t v2 v3,.l v1 v2] (.l v0 v3) (.f 11111) QA
def VC:=go [a,b,c,d,e,f,g,h,i,j] [.l (.a v0 v1) v2,.l (.a v3 v1) v4,.l (.a v5 (.s v2 (.s v2 v1))) v6,.t v7 (.s v6 v5),.t v8 v1,.l v9 (.a v5 (.s (.s (.s v6 v5) (.c 1)) v7))] (.l v9 (.s (.s v6 (.c 1)) v7)) (.s 2 (.s 3 (.s 0 (.s 4 (.s 1 (.s 6 (.s 7 (.f 11001000101000100000001000001) (.f 101010000000000000000001)) (.f 101000000000000000001)) (.f 101100010000000001)) (.f 110000000000001)) (.f 1010101000101)) (.f 1011)) (.f 101000001)) QA
def VB:=go [a,b,c,d,e,f,g,h,i,j] [.l (.a v0 v1) v2,.l (.a v3 v1) v4,.l (.a v5 (.s v2 (.s v2 v1))) v6,.t v7 (.s v6 v5),.t v8 v1,.t (.a v5 (.s (.s (.s v6 v5) (.c 1)) v7)) v9] (.t (.s (.s v6 (.c 1)) v7) v9) (.s 2 (.s 3 (.s 0 (.s 1 (.s 4 (.s 6 (.s 7 (.f 10100100101001000000001000001) (.f 1010100101001000000001000001)) (.f 101000000000000000001)) (.f 1011001000000001000001)) (.f 1100000000001000001)) (.f 1010101000101)) (.f 1011)) (.f 101000001)) QA
def VA:=go [a,b,c,d,e,f,g,h,i,j,k,l] [.l (.a v0 v1) v2,.l (.a v3 v1) v4,.e (.a v5 v6) (.a v7 v8),.l (.a v8 (.s v2 (.s v2 v1))) v5,.t v9 (.s v5 v8),.t v10 v1,.l v11 (.a v6 (.s (.s (.s v5 v8) (.c 1)) v9))] (.l v11 (.s (.s v7 (.c 1)) v9)) (.s 2 (.s 3 (.s 0 (.s 4 (.s 1 (.s 6 (.s 7 (.f 1100100010100010000000100001001) (.f 101010000000000000000001)) (.f 101000000000000000001)) (.f 101100010000000001001)) (.f 110000000000001)) (.f 101010100010101)) (.f 1011)) (.f 10100000001)) QA
def Vz:=go [a,b,c,d,e,f,g,h,i,j,k,l] [.l (.a v0 v1) v2,.l (.a v3 v1) v4,.e (.a v5 v6) (.a v7 v8),.l (.a v8 (.s v2 (.s v2 v1))) v5,.t v9 (.s v5 v8),.t v10 v1,.t (.a v6 (.s (.s (.s v5 v8) (.c 1)) v9)) v11] (.t (.s (.s v7 (.c 1)) v9) v11) (.s 2 (.s 3 (.s 0 (.s 1 (.s 4 (.s 6 (.s 7 (.f 1010010010100100000000100010001) (.f 101010000000000000000001)) (.f 101000000000000000001)) (.f 101100100000000100010001)) (.f 110000000000100000001)) (.f 101010100010101)) (.f 1011)) (.f 10100000001)) QA
def Vy:=go [a,b,c,d,e] [.l (.a v0 (.s v1 (.s v1 v2))) v3,.t v4 v0] (.l v4 (.s (.s v3 (.s v3 v0)) (.c 1))) (.s 0 (.s 1 (.s 2 (.f 1010010100101) (.f 101010100101)) (.f 1011)) (.f 10101)) QA
def Vx:=go [a,b,c,d,e,f,g,h] [.e (.a v0 v1) (.a v2 v3),.l (.a v3 (.s v4 (.s v4 v5))) v0,.t v6 (.s v2 (.s v0 v3)),.t v7 v1] (.l v7 (.s (.s v2 (.s v0 v3)) (.c 1))) (.s 0 (.s 1 (.s 2 (.f 1010010100100011) (.f 10100000001)) (.f 101100100011)) (.f 101001)) QA
def Vw:=go [a,b,c,d,e,f,g] [.e (.a (.s v0 v1) (.a (.a v2 v1) v3)) (.a (.a v0 v2) v3),.e (.a (.s v4 v1) (.a (.a v2 v1) v3)) (.a (.a v4 v2) v3),.l (.a v5 (.s v0 (.s v0 v1))) v6] (.e v5 (.s v6 (.s v6 v5))) (.s 0 (.s 1 (.s 2 (.s 3 (.s 5 (.n 0 (.f 1100000000010001) (.f 110000000000101)) (.f 1010001)) (.f 101000000000001)) (.f 10100000000001)) (.f 1011)) (.f 1011)) QA
def Vv:=go [a,b,c,d,e,f,g,h,i] [.e (.a v0 v1) (.a v2 v3),.e (.a (.s v4 v5) (.a (.a v6 v5) v7)) (.a (.a v4 v6) v7),.e (.a (.s v8 v5) (.a (.a v6 v5) v7)) (.a (.a v8 v6) v7),.l (.a v3 (.s v4 (.s v4 v5))) v0] (.e v1 (.s v2 (.s v0 v3))) (.s 0 (.s 1 (.s 2 (.s 3 (.s 5 (.n 0 (.f 11000000000100010000001) (.f 110000000000101000000001)) (.f 1010001)) (.f 101000000000001)) (.f 10100000000001)) (.f 1011000000001)) (.f 1011)) QA
def Vt:=go [a,b,c,d,e,f,g,h,i] [.e v0 (.a v1 v2),.e (.a (.s v3 v4) (.a (.a v2 v4) v5)) (.a (.a v3 v2) v5),.e (.a (.s v6 v4) (.a (.a v2 v4) v5)) (.a (.a v6 v2) v5),.l (.a v7 (.s v3 (.s v3 v4))) v1,.l (.a v0 (.s (.a (.a v3 v2) v5) (.a v3 v2))) v8] (.e (.s v8 v7) (.a (.a v2 (.s v1 v7)) (.s v8 v0))) (.s 0 (.s 1 (.s 2 (.s 3 (.s 4 (.s 6 (.s 7 (.n 0 (.f 110000000000001001000100000001) (.f 1100000000000001001010000000001)) (.f 101)) (.f 1010001)) (.f 1010000000000000001)) (.f 101000000000000001)) (.f 1010000001)) (.f 10100001)) (.f 1011100001)) QA
def Vs:=go [a,b,c,d,e,f] [.l (.a v0 (.s (.a v1 v2) v1)) v3,.e (.a v4 (.s v5 v4)) v5,.e v5 v0] (.e (.s v3 v4) (.a (.s v5 v4) (.s v3 v0))) (.s 0 (.s 1 (.s 2 (.s 3 (.n 0 (.f 1100010010001001) (.f 110000100101001)) (.f 101)) (.f 10100000000001)) (.f 1010000001)) (.f 10101011)) QA
theorem Kg:a+1=a+1:=go [a] [] (.e (.p v0) (.p v0)) (.n 0 (.f 11) (.f 11)) QA
theorem Vq:a<=20000000000000->a<=4*18446744073709551616:=go [a] [.l v0 (.c 20000000000000)] (.l v0 (.m 4 (.c 18446744073709551616))) (.f 111) QA
theorem Vp:a < 0->b < c:=go [a,b,c] [.t v0 (.c 0)] (.t v1 v2) (.f 11) QA
def CR:=go [a,b] [] (.e (.a v0 v1) (.a v0 v1)) (.n 0 (.f 11) (.f 11)) QA
def H3:=go [a,b] [.t v0 v1] (.e v1 (.p (.s v1 (.c 1)))) (.s 0 (.n 0 (.f 111) (.f 1101)) (.f 1011)) QA
def Vo:=go [a,b] [.l v0 v1] (.e v1 (.a (.s v1 v0) v0)) (.s 0 (.n 0 (.f 111) (.f 1101)) (.f 1011)) QA
def Vn:=go [] [] (.n (.c 4) (.c 6)) (.f 11) QA
def Vm:=go [] [] (.n (.c 7) (.c 8)) (.f 11) QA
def Vl:=go [] [] (.n (.c 8) (.c 7)) (.f 101) QA
def Vj:=go [a,b] [.e v0 (.p v1)] (.e (.p v1) v0) (.n 0 (.f 1101) (.f 111)) QA
def PU:=go [a,b,c] [.l (.a v0 v1) (.p v2)] (.e (.p v2) (.a (.s (.p v2) v0) v0)) (.s 0 (.n 0 (.f 111) (.f 1101)) (.f 1011)) QA
def LR:=go [a,b,c] [.t v0 (.s v1 v2)] (.e (.s v1 v2) (.p (.s (.s v1 v2) (.c 1)))) (.s 0 (.s 2 (.n 0 (.f 111) (.f 1101)) (.f 1010001)) (.f 1101)) QA
def PS:=go [a,b,c] [.t v0 (.s v1 v2)] (.e (.s v1 v2) (.p (.s v1 (.p v2)))) (.s 0 (.s 1 (.n 0 (.f 1110001) (.f 110101)) (.f 1011001)) (.f 1101)) QA
def Vi:=go [a,b] [] (.e (.p (.a v0 v1)) (.a v0 (.p v1))) (.n 0 (.f 11) (.f 11)) QA
def LQ:=go [a,b,c,d] [.l v0 v1] (.e (.a (.s v1 v0) (.a (.a v2 v0) v3)) (.a (.a v1 v2) v3)) (.s 0 (.n 0 (.f 1101) (.f 111)) (.f 1011)) QA
def Vh:=go [a,b,c] [] (.e (.p (.a (.a v0 v1) v2)) (.a (.a v0 v1) (.p v2))) (.n 0 (.f 11) (.f 11)) QA
def PR:=go [a,b,c] [.e (.a v0 v1) v2] (.e (.a v0 v1) v2) (.n 0 (.f 111) (.f 1101)) QA
theorem PQ:0 < a->a=0->b=c:=go [a,b,c] [.t (.c 0) v0,.e v0 (.c 0)] (.e v1 v2) (.f 1011) QA
theorem PP:0 < a->a=0->b=c+d:=go [a,b,c,d] [.t (.c 0) v0,.e v0 (.c 0)] (.e v1 (.a v2 v3)) (.f 1011) QA
theorem Vg:a<=b->a≠b->a < b:=go [a,b] [.l v0 v1,.n v0 v1] (.t v0 v1) (.n 0 (.f 1101) (.f 111)) QA
theorem Vf:a<=b->b < 9223372036854775808->a=c->c < 9223372036854775808:=go [a,b,c] [.l v0 v1,.t v1 (.c 9223372036854775808),.e v0 v2] (.t v2 (.c 9223372036854775808)) (.f 110111) QA
theorem Ve:a < 9223372036854775808->b<=a->b=c->c < 9223372036854775808:=go [a,b,c] [.t v0 (.c 9223372036854775808),.l v1 v0,.e v1 v2] (.t v2 (.c 9223372036854775808)) (.f 110111) QA
theorem Vd:0+1<=2:=go [] [] (.l (.p (.c 0)) (.c 2)) (.f 11) QA
theorem Vc:4+1<=6*(0+1):=go [] [] (.l (.p (.c 4)) (.m 6 (.p (.c 0)))) (.f 11) QA
theorem Vb:0+1+1<=3:=go [] [] (.l (.p (.p (.c 0))) (.c 3)) (.f 11) QA
theorem Va:2+2+1<=5:=go [] [] (.l (.p (.a (.c 2) (.c 2))) (.c 5)) (.f 11) QA
theorem U9:3<=5:=go [] [] (.l (.c 3) (.c 5)) (.f 11) QA
theorem U8:1<=18446744073709551616:=go [] [] (.l (.c 1) (.c 18446744073709551616)) (.f 11) QA
theorem U7:1<=1+1:=go [] [] (.l (.c 1) (.p (.c 1))) (.f 11) QA
theorem LP:0<=a:=go [a] [] (.l (.c 0) v0) (.f 11) QA
theorem PO:0<=a - 0:=go [a] [] (.l (.c 0) (.s v0 (.c 0))) (.f 11) QA
theorem U6:1<=3:=go [] [] (.l (.c 1) (.c 3)) (.f 11) QA
theorem U5:5≠6:=go [] [] (.n (.c 5) (.c 6)) (.f 11) QA
theorem U4:9<=a->a≠1:=go [a] [.l (.c 9) v0] (.n v0 (.c 1)) (.f 1101) QA
theorem U3:9<=a->a≠2:=go [a] [.l (.c 9) v0] (.n v0 (.c 2)) (.f 1101) QA
theorem U2:9<=a->a≠3:=go [a] [.l (.c 9) v0] (.n v0 (.c 3)) (.f 1101) QA
theorem U1:9<=a->a≠4:=go [a] [.l (.c 9) v0] (.n v0 (.c 4)) (.f 1101) QA
theorem U0:9<=a->a≠5:=go [a] [.l (.c 9) v0] (.n v0 (.c 5)) (.f 1101) QA
theorem UZ:9<=a->a≠6:=go [a] [.l (.c 9) v0] (.n v0 (.c 6)) (.f 1101) QA
theorem UY:9<=a->a≠7:=go [a] [.l (.c 9) v0] (.n v0 (.c 7)) (.f 1101) QA
theorem UX:9<=a->a≠8:=go [a] [.l (.c 9) v0] (.n v0 (.c 8)) (.f 1101) QA
theorem UW:7 < 1152921504606846976:=go [] [] (.t (.c 7) (.c 1152921504606846976)) (.f 11) QA
theorem UV:a=b->b=a:=go [a,b] [.e v0 v1] (.e v1 v0) (.n 0 (.f 1101) (.f 111)) QA
theorem UT:0<=a - b:=go [a,b] [] (.l (.c 0) (.s v0 v1)) (.f 11) QA
theorem PN:¬a < b - c->a < b - c->Yn:=go [a,b,c] [.w v0 (.s v1 v2),.t v0 (.s v1 v2)] (.f) (.f 111) QA
theorem PM:a - b+(c+b+d) < e->a+c+d < e:=go [a,b,c,d,e] [.t (.a (.s v0 v1) (.a (.a v2 v1) v3)) v4] (.t (.a (.a v0 v2) v3) v4) (.s 0 (.f 101011) (.f 10111)) QA
theorem PL:a+b<=c->¬c - b+(d+b+e) < f->c+d+e < f->Yn:=go [a,b,c,d,e,f] [.l (.a v0 v1) v2,.w (.a (.s v2 v1) (.a (.a v3 v1) v4)) v5,.t (.a (.a v2 v3) v4) v5] (.f) (.s 0 (.f 110011) (.f 101001)) QA
theorem US:a < b->a=b->Yn:=go [a,b] [.t v0 v1,.e v0 v1] (.f) (.f 1101) QA
end
end Mini
end
section
namespace Mini
mutual
theorem an2 {a0 a1 G:Prop} (h:a0/\a1) (k:a0->a1->G):G:=k h.1 h.2
theorem an3 {a0 a1 a2 G:Prop} (h:a0/\a1/\a2) (k:a0->a1->a2->G):G:=an2 h.2 (k h.1)
theorem an4 {a0 a1 a2 a3 G:Prop} (h:a0/\a1/\a2/\a3) (k:a0->a1->a2->a3->G):G:=an3 h.2 (k h.1)
theorem an5 {a0 a1 a2 a3 a4 G:Prop} (h:a0/\a1/\a2/\a3/\a4) (k:a0->a1->a2->a3->a4->G):G:=an4 h.2 (k h.1)
theorem an6 {a0 a1 a2 a3 a4 a5 G:Prop} (h:a0/\a1/\a2/\a3/\a4/\a5) (k:a0->a1->a2->a3->a4->a5->G):G:=an5 h.2 (k h.1)
theorem an7 {a0 a1 a2 a3 a4 a5 a6 G:Prop} (h:a0/\a1/\a2/\a3/\a4/\a5/\a6) (k:a0->a1->a2->a3->a4->a5->a6->G):G:=an6 h.2 (k h.1)
theorem an8 {a0 a1 a2 a3 a4 a5 a6 a7 G:Prop} (h:a0/\a1/\a2/\a3/\a4/\a5/\a6/\a7) (k:a0->a1->a2->a3->a4->a5->a6->a7->G):G:=an7 h.2 (k h.1)
theorem an9 {a0 a1 a2 a3 a4 a5 a6 a7 a8 G:Prop} (h:a0/\a1/\a2/\a3/\a4/\a5/\a6/\a7/\a8) (k:a0->a1->a2->a3->a4->a5->a6->a7->a8->G):G:=an8 h.2 (k h.1)
theorem ew1 {α0:Sort _} {p:α0->Prop} {G:Prop} (h:∃x0,p x0) (k:∀x0,p x0->G):G:=Qy k
theorem ew2 {α0:Sort _} {α1:Sort _} {p:α0->α1->Prop} {G:Prop} (h:∃x0 x1,p x0 x1) (k:∀x0 x1,p x0 x1->G):G:=Qy fun x h=>ew1 h (k x)
theorem ew3 {α0:Sort _} {α1:Sort _} {α2:Sort _} {p:α0->α1->α2->Prop} {G:Prop} (h:∃x0 x1 x2,p x0 x1 x2) (k:∀x0 x1 x2,p x0 x1 x2->G):G:=Qy fun x h=>ew2 h (k x)
theorem ew4 {α0:Sort _} {α1:Sort _} {α2:Sort _} {α3:Sort _} {p:α0->α1->α2->α3->Prop} {G:Prop} (h:∃x0 x1 x2 x3,p x0 x1 x2 x3) (k:∀x0 x1 x2 x3,p x0 x1 x2 x3->G):G:=Qy fun x h=>ew3 h (k x)
theorem ew5 {α0:Sort _} {α1:Sort _} {α2:Sort _} {α3:Sort _} {α4:Sort _} {p:α0->α1->α2->α3->α4->Prop} {G:Prop} (h:∃x0 x1 x2 x3 x4,p x0 x1 x2 x3 x4) (k:∀x0 x1 x2 x3 x4,p x0 x1 x2 x3 x4->G):G:=Qy fun x h=>ew4 h (k x)
theorem ls1 {α:Type} {l:QC α} {n:QH} (h:ZJ=n+1):∃a r,l=a::r/\Q7n=n:=by
 cases l with
 | Zo=>cases h
 | Xx a r=>exact ⟨a,r,QA,QES h⟩
theorem ls3 {α:Type} {l:QC α} (h:ZJ=3):∃x y z,l=[x,y,z]:=by
 exact (ls1 h).Q2m fun x h=>Qy fun r h=>(ls1 h.2).Q2m fun y k=>k.elim fun t k=>(ls1 k.2).Q2m fun z m=>m.elim fun u m=>⟨x,y,z,h.1.QR (Z8 _ (k.1.QR (Z8 _ (m.1.QR (Z8 _ (Zx m.2))))))⟩
end
end Mini
end
section
open PySem PySem.W PySem.Calls PyProof.Rows
namespace Mini
mutual
theorem lt2 {l:QH} (h:l < 2):l=0\/l=1:=by
 cases l with
 | Q1x=>exact .inl QA
 | Q1y l=>exact .inr (Z8 Q5J (Nat.lt_one_iff.mp (Zw h)))
theorem lt3 {l:QH} (h:l < 3):l=0\/l=1\/l=2:=by
 cases l with
 | Q1x=>exact .inl QA
 | Q1y l=>exact .inr ((lt2 (Zw h)).imp (Z8 Q5J) (Z8 Q5J))
theorem lt4 {l:QH} (h:l < 4):l=0\/l=1\/l=2\/l=3:=by
 cases l with
 | Q1x=>exact .inl QA
 | Q1y l=>exact .inr ((lt3 (Zw h)).imp (Z8 Q5J) (Or.imp (Z8 Q5J) (Z8 Q5J)))
theorem afI {l h:QH} (q:l<=h):l<=(l+h) / 2:=(Nat.le_div_iff_mul_le (by decide)).mpr (by rw [QFb];exact Q4v q l)
theorem afH {l h:QH} (q:l < h):(l+h) / 2 < h:=(Nat.div_lt_iff_lt_mul (by decide)).mpr (by rw [QFb];exact Nat.add_lt_add_right q h)
theorem ine {a b:X4} (h:¬a < b) (n:a≠b):b < a:=Q6C ⟨Q6D h,n.symm⟩
theorem Da (n a:QH):QAg n (a:X4)=min a n:=by
 unfold QAg
 rw [QN (Q5M (Yt a))]
 rcases Nat.le_total a n with h | h
 ·rw [Int.min_eq_left (YF h),QAh (Yt a),Yk h];rfl
 ·rw [Int.min_eq_right (YF h),QAh (Yt n),Q4C h];rfl
theorem MD {a b:QH} (h:b<=a):¬(0:X4) > (a:X4) - b:=Q5M (Q1E (YF h))
theorem KP {a b c:QH} (h:a<=c):min c ((a:X4) - b).Q1Z=a - b:=by rw [Int.toNat_sub];exact Q4C (Qz (Nat.sub_le ..) h)
theorem He {n m:QH} (h:n<=Xb) (e:n=m):((m:QH):X4) < 2 ^ 63:=e▸Q9I (YF h) (by decide)
theorem FW {z:X4} {b:QH} (h:0<=z/\z < b):z=(z.toNat:QH)/\z.toNat < b:=⟨(Q31 h.1).Q37,(QET h.1).mpr h.2⟩
theorem aiI {i:X4} (h:0<=i):i=(QH7:QH):=(Q31 h).Q37
theorem afU {a b:QH} (h:¬a=b):(a:X4)≠b:=fun e=>h (Q0D e)
theorem KQ {a b:QH} (h:b<=16777216):min a b<=16777216:=Qz (Q0E ..) h
theorem KW {c:QH} (h:c∈[2,3,4,5,6,7,8]):2<=c/\c < 9:=(by decide:∀c∈[2,3,4,5,6,7,8],2<=c/\c < 9) c h
theorem aiK {c:QH} (h:c∈[7,8]):c∈[2,3,4,5,6,7,8]:=(by decide:∀c∈[7,8],c∈[2,3,4,5,6,7,8]) c h
theorem afV {c:QH} (h:c∈[2,3,4,5,6]):c∈[2,3,4,5,6,7,8]/\c≠1/\c≠7/\c≠8/\c < 9:=(by decide:∀c∈[2,3,4,5,6],c∈[2,3,4,5,6,7,8]/\c≠1/\c≠7/\c≠8/\c < 9) c h
theorem T8 {c:QH} (h:2<=c) (k:c<=6):c∈[2,3,4,5,6]:=(by decide:∀c,c < 7->2<=c->c∈[2,3,4,5,6]) c (Q9q k) h
theorem aiJ {c:QH} (h:6 < c) (k:c < 9):c=7\/c=8:=(by decide:∀c,c < 9->6 < c->c=7\/c=8) c k h
theorem afW {i:X4} (h:-2 ^ 63<=i/\i < 2 ^ 63):(XY (i < -(2 ^ 63:X4)) || XY (i >= 2 ^ 63))=QJ:=by
 rw [Yl (Q5M h.1),Yl (Q7o h.2)];rfl
end
end Mini
end
section
open PySem PySem.W PySem.Calls PyProof.Rows
set_option genInjectivity false
set_option genSizeOf false
namespace Mini
mutual
def Ey (xs:XP QH):Prop:=xs.toList.Pairwise (· < ·)
theorem Ey.lt {xs:XP QH} (h:Ey xs) {i k a b:QH} (ha:xs[i]?=QB a) (hb:xs[k]?=QB b) (hik:i < k):a < b:=by
 obtain (⟨hi,QA⟩):=Q1w ha
 obtain (⟨hk,QA⟩):=Q1w hb
 have:=Q2C h i k (by simpa using hi) (by simpa using hk) hik
 simpa using this
theorem Pz (xs:XP QH) (j Q7W lo hi:QH):Q1F xs j (Q7W+1) lo hi=if lo < hi then (if QH8 ((lo+hi) / 2) j < j then Q1F xs j Q7W ((lo+hi) / 2+1) hi else Q1F xs j Q7W lo ((lo+hi) / 2)) else lo:=QA
theorem Oc (xs:XP QH) (j:QH) (hs:Ey xs):∀Q7W lo hi,hi - lo<=Q7W->lo<=hi->hi<=Q5n->(∀i x,xs[i]?=QB x->i < lo->x < j)->(∀i x,xs[i]?=QB x->hi<=i->j<=x) ->
  Q1F xs j Q7W lo hi<=Q5n/\(∀i x,xs[i]?=QB x->i < Q1F xs j Q7W lo hi->x < j)/\(∀i x,xs[i]?=QB x->Q1F xs j Q7W lo hi<=i->j<=x):=by
 intro Q7W
 induction Q7W with
 | Q1x =>
  intro lo hi h1 h2 h3 h4 h5
  have:lo=hi:=by exact adD h1 h2
  subst this
  exact ⟨h3,h4,h5⟩
 | Q1y Q7W ih =>
  intro lo hi h1 h2 h3 h4 h5
  rw [Pz]
  by_cases hl:lo < hi
  ·rw [QY hl]
   have m0:=afI h2
   have m1:=afH hl
   have hm:(lo+hi) / 2 < Q5n:=QP m1 h3
   have hx:xs[(lo+hi) / 2]?=QB (QH8 ((lo+hi) / 2) j):=by simp [XB,hm]
   by_cases hc:QH8 ((lo+hi) / 2) j < j
   ·rw [QY hc]
    refine ih _ hi (Qz (Q8l (Q4D m0) hi) (QAi h1)) m1 h3 (fun i x hi' hlt=>?_) h5
    by_cases q:i=(lo+hi) / 2
    ·subst q;rw [hx]at hi';cases hi';exact hc
    ·exact Q1G (hs.lt hi' hx (by exact Bl hlt q)) hc
   ·rw [QN hc]
    refine ih lo _ (Q1H (QP (Q7p m0 m1) h1)) m0 (by exact Sy hm) h4 (fun i x hi' hge=>?_)
    by_cases q:i=(lo+hi) / 2
    ·subst q;rw [hx]at hi';cases hi';exact L6 hc
    ·have:=hs.lt hx hi' (by exact Sx hge q);exact adC hc this
  ·rw [QN hl]
   have:lo=hi:=by exact Sw h2 hl
   subst this
   exact ⟨h3,h4,h5⟩
theorem Jj (xs:XP QH) (j:QH) (hs:Ey xs):Xd xs j<=Q5n/\(∀i x,xs[i]?=QB x->i < Xd xs j->x < j)/\(∀i x,xs[i]?=QB x->Xd xs j<=i->j<=x) :=
 Oc xs j hs _ 0 Q5n (by exact Sv) (by exact zq8) (by exact SP) (fun i x _ h=>by exact Vp h) (fun i x h k=>by have:=(Q1w h).1;exact adA k this)
theorem Ey.insert {xs:XP QH} {j:QH} (hs:Ey xs) (hj:xs[Xd xs j]?≠QB j):Ey (SetTable.insertAt xs (Xd xs j) j):=by
 refine an3 (Jj xs j hs) fun h1 h2 h3=>?_
 unfold Ey
 rw [SetTable.toList_insertAt,List.pairwise_append,Q9K]
 have hd:∀b∈xs.toList.drop (Xd xs j),j < b:=by
  intro b hb
  obtain (⟨k,hk,QA⟩):=Zg hb
  rw [Q5o]
  have hlt:Xd xs j+k < Q5n:=by rw [Q1j]at hk;simp at hk;exact UQ hk
  have hg:xs[Xd xs j+k]?=QB (QDj[Xd xs j+k]'(by simpa using hlt)):=by simp [hlt]
  have:=h3 _ _ hg (Q2n _ _)
  refine Nat.lt_of_le_of_ne this fun q=>?_
  by_cases k0:k=0
  ·subst k0;exact hj (Eq.trans hg (Z8 QB q.symm))
  ·have hp:Xd xs j < Q5n:=by exact adz hlt
   have hg0:xs[Xd xs j]?=QB xs[Xd xs j]:=by simp [hp]
   have a:=h3 _ _ hg0 (Qh _)
   have b:=hs.lt hg0 hg (by exact ady k0)
   exact XO _ (QP b (q▸a))
 have ht:∀a∈xs.toList.take (Xd xs j),a < j:=by
  intro a ha
  obtain (⟨k,hk,QA⟩):=Zg ha
  rw [Q5p]
  rw [Xo]at hk
  have hlt:k < Q5n:=QP hk (Q0E ..)
  exact h2 k _ (by simp [hlt]) (QP hk (Q7L ..))
 refine ⟨hs.sublist (List.take_sublist _ _),⟨hd,hs.sublist (List.drop_sublist _ _)⟩,fun a ha b hb=>?_⟩
 rcases XT hb with QA | hb
 ·exact ht a ha
 ·exact Q1G (ht a ha) (hd b hb)
def Aq (w:Q6T):Qu:=w.params.followText "set-order"
structure Q2y (bt:Qu) (t:Y2):Prop where
 led:t.led=!bt
 dm:t.dummies=#[]
 rise:Ey ZV
theorem GoodT.noPlain {bt:Qu} {t:Y2} (h:Q2y bt t):Q2y bt {t with Q4b:=QJ}:=⟨h.led,h.dm,h.rise⟩
theorem Jz (n:QH):Ey (Array.range n):=by
 unfold Ey;simp [Q3l]
theorem GoodT.standIn {bt:Qu} {t:Y2} (h:Q2y bt t) (n:QH):Q2y bt (t.standIn n):=⟨h.led,QA,Jz n⟩
theorem GoodT.orStandIn {bt:Qu} {t:Y2} (h:Q2y bt t) (n:QH):Q2y bt (t.orStandIn n):=by
 unfold SetTable.orStandIn
 split
 ·exact h
 ·exact QAj n
theorem KX (j:QH):QEU #[] j=QJ:=by unfold QEU;simp
theorem GoodT.slot_empty {bt:Qu} {t:Y2} (h:Q2y bt t) {j:QH}:(t.slot j=.QH9/\ZV[Xd ZV j]?≠QB j)\/∃i,t.slot j=.live i:=by
 unfold SetTable.slot
 dsimp only
 rw [h.dm,KX]
 by_cases hq:(ZV[Xd ZV j]? == QB j)=QM
 ·rw [QY hq];exact .inr ⟨_,QA⟩
 ·rw [QN hq];exact .inl ⟨QA,fun e=>hq (by rw [e];simp)⟩
theorem GoodT.probe_go {bt:Qu} {t:Y2} (h:Q2y bt t) (f:QH->X4) (x:X4):∀Q7W (p:SetTable.Probe),p.dummy=QG->∀j d,Q5q t f x Q7W p=QB (.QH9 j d)->d=QG/\ZV[Xd ZV j]?≠QB j:=by
 intro Q7W
 induction Q7W with
 | Q1x=>exact fun p hp j d e=>nomatch e
 | Q1y Q7W ih =>
  intro p hp j d e
  have e:(match t.slot p.j with | .QH9=>QB (.QH9 p.j p.dummy) | .dummy=>Q5q t f x Q7W (QDk {p with dummy:=QB p.j}) | .live i=>if f i == x then QB (.candidate p.j i (QDk p)) else Q5q t f x Q7W (QDk p))=QB (.QH9 j d):=e
  rcases h.slot_empty (j:=p.j) with ⟨e1,e2⟩ | ⟨i,e1⟩
  ·rw [e1]at e
   dsimp only at e
   cases e
   exact ⟨hp,e2⟩
  ·rw [e1]at e
   dsimp only at e
   split at e
   ·cases e
   ·refine ih _ ?_ j d e
    unfold SetTable.advance
    split
    ·exact hp
    ·exact hp
theorem GoodT.freeSlot {bt:Qu} {t:Y2} (h:Q2y bt t) {x:X4} {j:QH} {d:Qu} (e:t.freeSlot x=QB (j,d)):d=QJ/\ZV[Xd ZV j]?≠QB j:=by
 injections bt t _ x j d _
 unfold SetTable.freeSlot at e
 split at e
 ·rename_i j' d' e1
  obtain ⟨QA,h2⟩:=h.probe_go _ _ _ _ QA _ _ e1
  cases e
  exact ⟨QA,h2⟩
 ·cases e
theorem GoodT.put {bt:Qu} {t:Y2} (h:Q2y bt t) {j:QH} (hj:ZV[Xd ZV j]?≠QB j):Q2y bt (t.put j).1:=by
 unfold SetTable.put
 refine ⟨h.led,?_,h.rise.insert hj⟩
 dsimp only
 rw [h.dm,KX];rfl
theorem GoodT.layNew {bt:Qu} {t:Y2} (h:Q2y bt t) (es:XP (X4×QI)) (x:X4) (v:QI):Q2y bt (QCF t es x v).2.1:=by
 injections bt t _ es x v
 unfold PySem.layNew
 split
 ·rename_i slot wd e
  obtain ⟨_,h2⟩:=h.freeSlot e
  exact (h.put h2).orStandIn _
 ·exact QAj _
theorem GoodT.laid {bt:Qu} {mask finger moves:QH} {Q4b:Qu} {hs:XP X4} {t:Y2} {o:XP QH} (e:QDG mask finger moves (!bt) Q4b hs=QB (t,o)):Q2y bt t:=by
 injections bt mask finger moves Q4b hs t o _
 unfold QDG at e
 obtain ⟨Q7q,_,e⟩:=(Option.bind_eq_some_iff.mp e)
 cases e
 refine ⟨QA,QA,?_⟩
 rw [List.map_filterMap]
 rw [show (fun j=>Q9L (fun x=>x.1) (Q9L (fun x=>(j,x)) (QCG j QG)))=fun j=>if (QCG j QG).QAk then QB j else QG by
  funext j;cases QCG j QG <;> rfl]
 refine List.Pairwise.filterMap _ (R:=fun a b=>a < b) ?_ Q3l;intros a a' hlt b hb b' hb'
 split at hb <;> split at hb' <;> simp at hb hb'
 subst hb hb';exact hlt
theorem GoodT.relayAll {bt:Qu} {t:Y2} (h:Q2y bt t) (es:XP (X4×QI)) (n:QH):Q2y bt (Q9x t es n).2.1:=by
 injections bt t _ es n
 unfold PySem.relayAll
 split
 ·rename_i t' order e
  dsimp only
  split
  ·unfold SetTable.relaid at e
   rw [h.led]at e
   exact GoodT.laid e
  ·exact QAj _
 ·exact QAj _
end
end Mini
end
section
open PySem PySem.W PySem.Calls PyProof.Rows
set_option genInjectivity false
set_option genSizeOf false
namespace Mini
section
variable (prog:Program) (w:World)
mutual
def ERs (w:Q6T) (Λ:Lab):QC (X8×QU)->QC ZW->Prop
 | [],[]=>Q44
 | (x,v)::r,e::es=>(∃t,e.key=.Xt x t)/\e.hash=QL Q0O x/\VR Λ v e.val/\ERs w Λ r es
 | _,_=>Yn
def OR (Λ:Lab):Ob->ZG->Prop
 | .any,_=>Q44
 | .Qs xs,o=>∃vs n,o=Q4e Xw n/\VRs Λ xs vs
 | .YM xs,o=>∃vs n,o={cls:=.Qk "tuple",YC:=.seq Xw n}/\VRs Λ xs vs
 | .Q04 Y5,o=>∃cvs,QEV (knd XE w) o cvs/\Q5r (·.1)=Q2o (·.1)/\VRs Λ (Q2o (·.2)) (Q5r (·.2))
 | .set xs,o=>Q9y/\∃es ep t,Q6o/\Q21=.set es ep t/\QEW (knd XE w) Q6U/\(∀k,k∈xs↔∃e∈Q6U,EM k e.2=QM)/\ZA < Q4E/\t.fits ZA=QM/\ZA=Qn/\Q2y (Aq w) t
 | .Q5L c d,o=>d < Xi/\o=instObj c (Xs d)
 | .Q1X Y5,o=>∃es,o=dictOf es Yu/\ERs w Λ Y5 es
 | .sub c xs,o=>∃vs n d,o={cls:=.QQ c,Q04:=d,YC:=.seq Xw n}/\VRs Λ xs vs
 | .YV v,o=>∃cv,Q21=.YV cv/\(match v,cv with | QG,QG=>Q44 | QB v,QB c=>VR Λ v c | _,_=>Yn)
 | .bm id v,o=>∃c,(o={cls:=.Qk "builtin_function_or_method",YC:=.Xp #[.Qd id,c]}\/o={cls:=.Qk "method-wrapper",YC:=.Xp #[.Qd id,c]})/\VR Λ v c
 | .raw o,o'=>o'=o
 | .Q7K a b k,o=>∃t u v,o={cls:=.Qk "range",YC:=.Xp #[.Qm a t,.Qm b u,.Qm k v]}
 | .QCC d,o=>d < Xi/\o={cls:=.Qk "dict_keys",YC:=.Xp #[.QQ (Xs d)]}
 | .lam mk lc,o=>lc < Xi/\o=mk (Xs lc)
 | .QEL fv tl,o=>tl < Xi/\∃fc,o={cls:=.Qk "map",YC:=.Xp #[.QQ (Xs tl),fc]}/\VR Λ fv fc
 | .Q8z l i,o=>l < Xi/\Q4w=.Qk "list_iterator"/\Q21=.Xp #[.QQ (Xs l),.Qm i 0]
 | .Q9r f C,o=>o=methodObj (.QQ f) (.QQ C)
 | .Q4t ps n,o=>o=Q4e (Q15 fun p=>Q5D p.1 p.2).Xe n
 | .tab es,o=>(∀e∈es,e.2.2 < Xi)/\o=QCH (Q9M fun e=>[Zp e.1,Zp e.2.1,.QQ (Xs e.2.2)]).Xe
theorem B4 {α β:Type} {f g:α->QC β}:∀ {l:QC α},(∀x∈l,f x=g x)->l.flatMap f=l.flatMap g
 | [],_=>QA
 | x::r,h=>by rw [Q0V,Q0V,h x (.Zf _),B4 fun y hy=>h y (.Q38 _ hy)]
theorem ERs.ext {w:Q6T} {Λ Zd:Lab} (e:Q0C Zd):∀ {Y5:QC (X8×QU)} {es:QC ZW},ERs w Λ Y5 es->ERs w Zd Y5 es
 | [],[],_=>ZQ
 | _::_,_::_,h=>⟨h.1,h.2.1,h.2.2.1.ext e,ERs.ext e h.2.2.2⟩
 | [],_::_,h=>h
 | _::_,[],h=>h
end
variable {prog w}
theorem OR.ext {Λ Λ':Lab} (e:Λ.Ext Λ') {o:Ob} {c:Obj} (h:OR prog w Λ o c):OR prog w Λ' o c:=by
 injections prog w Λ Λ' _ o c _
 cases o
 case any=>trivial
 case list=>obtain ⟨vs,n,h,k⟩:=h;exact ⟨vs,n,h,k.ext e⟩
 case tuple=>obtain ⟨vs,n,h,k⟩:=h;exact ⟨vs,n,h,k.ext e⟩
 case dict=>obtain ⟨cvs,h,k,r⟩:=h;exact ⟨cvs,h,k,r.ext e⟩
 case inst c d=>exact ⟨Nat.lt_of_lt_of_le h.1 e.1,by rw [e.2 d h.1];exact h.2⟩
 case idict=>obtain ⟨es,h,k⟩:=h;exact ⟨es,h,k.ext e⟩
 case sub=>obtain ⟨vs,n,d,h,k⟩:=h;exact ⟨vs,n,d,h,k.ext e⟩
 case cell v=>obtain ⟨cv,h,k⟩:=h;exact ⟨cv,h,by cases v <;> cases cv <;> first | exact k | exact VR.ext e k⟩
 case bm=>obtain ⟨c,h,k⟩:=h;exact ⟨c,h,k.ext e⟩
 case keysv d=>exact ⟨Nat.lt_of_lt_of_le h.1 e.1,by rw [e.2 d h.1];exact h.2⟩
 case lam _ d=>exact ⟨Nat.lt_of_lt_of_le h.1 e.1,by rw [e.2 d h.1];exact h.2⟩
 case mapo _ d=>obtain ⟨h,fc,k,r⟩:=h;exact ⟨Nat.lt_of_lt_of_le h e.1,fc,by rw [e.2 d h];exact k,r.ext e⟩
 case liter d _=>obtain ⟨h,k,r⟩:=h;exact ⟨Nat.lt_of_lt_of_le h e.1,k,by rw [e.2 d h];exact r⟩
 case tab es=>exact ⟨fun x hx=>Nat.lt_of_lt_of_le (h.1 x hx) e.1,by rw [h.2];congr 2;exact B4 fun x hx=>by rw [e.2 _ (h.1 x hx)]⟩
 all_goals exact h
end
mutual
def OV (Λ:Lab):QW QU->QW QI->Prop
 | QB v,QB c=>VR Λ v c
 | QG,QG=>Q44
 | _,_=>Yn
theorem OV.ext {Λ Zd:Lab} (e:Q0C Zd):∀ {v:QW QU} {c:QW QI},OV Λ v c->OV Zd v c
 | QB _,QB _,h=>VR.ext e h
 | QG,QG,_=>ZQ
 | QB _,QG,h=>h
 | QG,QB _,h=>h
structure Cx where
 XE:Q3L
 w:Q6T
 K:Q1B
 g:ZS
 p:Q3L
 QCA:QC X8
 mg:X8->QW QI
 mb:X8->QW QI
 O:OsState
structure Cx.Ok (c:Cx):Prop where
 inK:c.K.In c.g
 top:TopRead c.p c.loose c.mg c.mb c.g
 bmain:∃bm ob,c.mg "__builtins__"=QB (.QQ bm)/\bm≠Q6p/\Q39 bm=QB ob/\ob.cls=.Qk "module"/\ob.dict=QB Q6p/\QHA=.Q4b
structure Fm where
 sc:Q0M
 cl:QC (X8×QH)
 cd:QI
 tb:QW (Qq×QH)
instance:Q2B Cx:=let ⟨w⟩:=(inferInstance:Q2B Q6T);⟨⟨Zv,w,Zv,Zv,Zv,[],fun _=>QG,fun _=>QG,{}⟩⟩
instance:Q2B Fm:=⟨⟨Zv,[],Zv,QG⟩⟩
structure Rel (c:Cx) (fz:Qq->QW ZG) (L:Qq) (Λ:Lab) (σ:St) (s:QZ):Prop where
 nn:Xi=QO
 ns:∃m,QAl L m/\∀x,OV Λ (Xy x) (m x)
 Q4c:∀b o,fz b=QB o->Qc b=QB o
 Q8m:∀b o,Q39 b=QB o->fz b=QB o
 fzL:fz L=QG
 ob:∀l,l < Xi->∃o,Qc (Xs l)=QB o/\OR XK c.w Λ (QS l) o
 fzl:∀l,l < Xi->fz (Xs l)=QG
 lne:∀l,l < Xi->Xs l≠L
 inj:∀l l',l < Xi->l' < Xi->Xs l=Xs l'->l=l'
 Q4x:c.g.objs.size<=L
 low:Q3R < L
 nsm:∀l,l < Xi->(Xs l == Q3R)=QJ
 os:s.os=c.O
 Q0P:s.gens=#[]
def St.alloc (σ:St) (o:Ob):St:={σ with hp:=fun l=>if l=QO then o else QS l,nx:=QO+1}
def St.upd (σ:St) (l:QH) (o:Ob):St:={σ with hp:=fun k=>if k=l then o else QS k}
def St.set (σ:St) (x:X8) (v:QU):St:={σ with loc:=fun y=>if y=x then QB v else Xy y}
end
section
variable {c:Cx} {fz:Addr->Option Obj} {L:Addr} {Λ:Lab} {σ:St} {s:Shared}
mutual
theorem Rel.gkeep (R:Rel c fz L Λ σ s):∀b o,Q39 b=QB o->Qc b=QB o:=fun b o e=>Q4F b o (Q5N b o e)
theorem Rel.grow (R:Rel c fz L Λ σ s) {h':ZS} {tk:QH} {dr:Drawn} (hk:∀b o,Qc b=QB o->ZB b=QB o):Rel c fz L Λ σ {s with YO:=h',Q0T:=tk,Q3A:=dr} where
 nn:=Q45
 ns:=let ⟨m,h,k⟩:=QCI;⟨m,h.keeps hk,k⟩
 Q4c:=fun b o e=>hk b o (Q4F b o e)
 Q8m:=Q5N
 fzL:=Q6V
 ob:=fun l hl=>let ⟨o,h,k⟩:=Q6E l hl;⟨o,hk _ _ h,k⟩
 fzl:=Q5s
 lne:=Q5O
 inj:=Q7M
 Q4x:=Q3m
 low:=Q6W
 nsm:=Q92
 os:=QDH
 Q0P:=Q6F
theorem Rel.toks (R:Rel c fz L Λ σ s) {tk:QH}:Rel c fz L Λ σ {s with Q0T:=tk}:=R.grow (h':=QV) (tk:=tk) (dr:=Q1I) fun _ _ e=>e
theorem Rel.Llt (R:Rel c fz L Λ σ s):L < QD:=let ⟨_,h,_⟩:=QCI;h.lt
theorem Rel.push (R:Rel c fz L Λ σ s) {o:Ob} {co:ZG} {tk:QH} (ho:OR XK c.w (Z9 QD) o co) (hf:QCJ=QJ) :
  Rel c fz L (Z9 QD) (Qw o) {s with YO:=XM co,Q0T:=tk}:=by
 injections c fz L Λ σ s _ o co tk _ _
 have hx:=XN Λ QD
 have fs:(Z9 QD).f Xi=QD:=QY QA
 have lt:∀l,l < Xi->Xs l < QD:=fun l hl=>let ⟨o,h,_⟩:=Q6E l hl;X0 h
 refine {nn:=by show Xi+1=QO+1;rw [Q45],ns:=?_,Q4c:=fun b o e=>Qa _ (Q4F b o e),Q8m:=Q5N,fzL:=Q6V,ob:=fun l hl=>?_,fzl:=fun l hl=>?_,lne:=fun l hl=>?_,inj:=fun l l' hl hl' e=>?_,Q4x:=Q3m,low:=Q6W,nsm:=fun l hl=>?_,os:=QDH,Q0P:=Q6F}
 ·obtain ⟨m,h,k⟩:=QCI
  exact ⟨m,h.keeps fun b o e=>Qa _ e,fun x=>(k x).ext hx⟩
 ·by_cases h:l=Xi
  ·subst h
   refine ⟨co,by rw [fs];exact X3 _ hf,?_⟩
   have:(Qw o).hp Xi=o:=QY Q45
   rw [this];exact ho
  ·have hl':l < Xi:=by have:l < Xi+1:=hl;exact BH h this
   obtain ⟨o',h1,h2⟩:=(Q6E l hl')
   refine ⟨o',by rw [hx.2 l hl'];exact Qa _ h1,?_⟩
   have:(Qw o).hp l=QS l:=QN (by rw [<- Q45];exact h)
   rw [this];exact QEX hx
 ·by_cases h:l=Xi
  ·subst h
   rw [fs]
   cases q:fz QD with
   | QG=>rfl
   | QB o=>exact XF (X0 (Q4F _ _ q)) (XO _)
  ·have hl':l < Xi:=by have:l < Xi+1:=hl;exact BH h this
   rw [hx.2 l hl'];exact Q5s l hl'
 ·by_cases h:l=Xi
  ·subst h;rw [fs];exact Y8 R.Llt
  ·have hl':l < Xi:=by have:l < Xi+1:=hl;exact BH h this
   rw [hx.2 l hl'];exact Q5O l hl'
 ·have a1:l < Xi+1:=hl
  have a2:l' < Xi+1:=hl'
  by_cases h:l=Xi <;> by_cases h':l'=Xi
  ·rw [h,h']
  ·subst h
   have q:l' < Xi:=by exact Bl a2 h'
   rw [fs,hx.2 l' q]at e
   exact XF (lt l' q) (by rw [<- e];exact XO _)
  ·subst h'
   have q:l < Xi:=by exact Bl a1 h
   rw [fs,hx.2 l q]at e
   exact XF (lt l q) (by rw [e];exact XO _)
  ·have q:l < Xi:=by exact Bl a1 h
   have q':l' < Xi:=by exact Bl a2 h'
   rw [hx.2 l q,hx.2 l' q']at e
   exact Q7M l l' q q' e
 ·by_cases h:l=Xi
  ·subst h;rw [fs];exact Yo (Y8 (Q1G Q6W R.Llt))
  ·have hl':l < Xi:=by have:l < Xi+1:=hl;exact BH h this
   rw [hx.2 l hl'];exact Q92 l hl'
theorem Rel.upd (R:Rel c fz L Λ σ s) {l:QH} {o:Ob} {co:ZG} {h':ZS} {tk:QH} (hl:l < QO) (hs:∀b o,b≠Xs l->Qc b=QB o->ZB b=QB o) (hc:ZB (Xs l)=QB co) (ho:OR XK c.w Λ o co) :
  Rel c fz L Λ (Yy l o) {s with YO:=h',Q0T:=tk}:=by
 have hl':l < Xi:=by rw [Q45];exact hl
 refine {nn:=Q45,ns:=?_,Q4c:=fun b o' e=>hs b o' (fun q=>?_) (Q4F b o' e),Q8m:=Q5N,fzL:=Q6V,ob:=fun k hk=>?_,fzl:=Q5s,lne:=Q5O,inj:=Q7M,Q4x:=Q3m,low:=Q6W,nsm:=Q92,os:=QDH,Q0P:=Q6F}
 ·refine ew1 QCI fun m yq2U=>?_;refine an2 yq2U fun h k=>?_;clear yq2U
  exact ⟨m,h.at' fun o e=>hs _ o (fun q=>Q5O l hl' q.symm) e,k⟩
 ·rw [q,Q5s l hl']at e;cases e
 ·by_cases h:k=l
  ·subst h
   refine ⟨co,hc,?_⟩
   have:(Yy k o).hp k=o:=QY QA
   rw [this];exact ho
  ·refine ew1 (Q6E k hk) fun o' yq2V=>?_;refine an2 yq2V fun h1 h2=>?_;clear yq2V
   refine ⟨o',hs _ _ (fun q=>h (Q7M k l hk hl' q)) h1,?_⟩
   have:(Yy l o).hp k=QS k:=QN h
   rw [this];exact h2
theorem Rel.set (R:Rel c fz L Λ σ s) {x:X8} {v:QU} {cv:QI} {h':ZS} {m:X8->QW QI} {tk:QH} (hm:QAl L m) (hv:VR Λ v cv) (hn:h'.Ns L (fun y=>if y=x then QB cv else m y)) (hs:ZC L QV h') :
  Rel c fz L Λ (Q5P x v) {s with YO:=h',Q0T:=tk}:=by
 injections c fz L Λ σ s _ x v cv h' m tk _ _ _ _
 refine {nn:=Q45,ns:=⟨_,hn,fun y=>?_⟩,Q4c:=fun b o e=>(hs.2 b fun q=>?_).QR (Q4F b o e),Q8m:=Q5N,fzL:=Q6V,ob:=fun l hl=>?_,fzl:=Q5s,lne:=Q5O,inj:=Q7M,Q4x:=Q3m,low:=Q6W,nsm:=Q92,os:=QDH,Q0P:=Q6F}
 ·obtain ⟨m',h,k⟩:=QCI
  have e:m'=m:=by
   obtain ⟨o1,es1,ep1,a1,a2,_,a3⟩:=h
   obtain ⟨o2,es2,ep2,b1,b2,_,b3⟩:=hm
   funext y
   rw [a1]at b1;cases b1;rw [a2]at b2;cases b2
   rw [<- a3,<- b3]
  subst e
  show OV Λ (if y=x then QB v else Xy y) (if y=x then QB cv else m' y)
  split
  ·exact hv
  ·exact k y
 ·rw [q,Q6V]at e;cases e
 ·obtain ⟨o,h1,h2⟩:=(Q6E l hl)
  exact ⟨o,(hs.2 _ (Q5O l hl)).QR h1,h2⟩
end
end
end Mini
end
section
open PySem PySem.W PySem.Calls PyProof.Rows
set_option genInjectivity false
set_option genSizeOf false
namespace Mini
mutual
abbrev PT (β:Type):=St->(β->St->Prop)->Prop
structure Q4y (X1:Env) (fm:Fm) (Λ:Lab):Prop where
 sc:env.scope=Zr
 gl:Q7r=Q3e
 bl:env.builtins=Q6p
 kd:fm.sc.kind=.Q3B
 cells:∀x l,Q22 x=QB l->l < Xi/\QAm x=QB (Xs l)
 cd:env.code=Q2R
 tb:∀P l,Q2S=QB (P,l)->l < Xi/\Xs l=P
theorem EnvOk.ext {X1:Env} {fm:Fm} {Λ Zd:Lab} (h:Q4y X1 fm Λ) (e:Q0C Zd):Q4y X1 fm Zd :=
 ⟨h.sc,h.gl,h.bl,h.kd,fun x l hl=>let ⟨a,b⟩:=h.cells x l hl;⟨QP a e.1,by rw [e.2 l a];exact b⟩,h.cd,fun P l hl=>let ⟨a,b⟩:=h.tb P l hl;⟨QP a e.1,by rw [e.2 l a];exact b⟩⟩
def Zt {α β:Type} (c:Cx) (A:Q2z) (X1:Env) (fm:Fm) (Λ:Lab) (t:Sem α) (R:Lab->β->α->Prop) (σ:St) (P:β->St->Prop):Prop :=
 ∀fz s (Q:α->QZ->Prop) (E:QI->QZ->Prop),Q4y X1 fm Λ->Rel c fz Qo Λ σ s ->
  (∀Zd s' b a XH,Q0C Zd->P b XH->R Zd b a->Rel c fz Qo Zd XH s'->Q a s')->Qp (Qi XK c.w) A t Q E s
def UR:Lab->Yb->Yb->Prop:=fun _ _ _=>Q44
def ER {α:Type}:Lab->α->α->Prop:=fun _ a b=>a=b
end
section
variable {α β γ δ:Type} {c:Cx} {A:Around} {env:Env} {fm:Fm} {Λ:Lab} {σ:St}
mutual
theorem Zh {a:α} {b:β} {R:Lab->β->α->Prop} {P:β->St->Prop} (hP:P b σ) (hR:R Λ b a):Zt c A X1 fm Λ (Pure.pure a) R σ P :=
 fun fz s Q E _ r k=>QF (k Λ s b a σ (.Q1J _) hP hR r)
theorem YN {t:Sem α} {f:α->Sem γ} {R:Lab->β->α->Prop} {R':Lab->δ->γ->Prop} {P:β->St->Prop} {P':δ->St->Prop} (h:Zt c A X1 fm Λ t R σ P)
  (k:∀Zd b a XH,Q0C Zd->P b XH->R Zd b a->Zt c A X1 fm Zd (f a) R' XH P'):Zt c A X1 fm Λ (t >>= f) R' σ P' :=
 fun fz s Q E ok r q=>Q9 (h fz s _ E ok r fun Zd s' b a XH e hp hr r'=>k Zd b a XH e hp hr fz s' Q E (Yq e) r' fun QFc s'' b' a' Q5g e' hp' hr' r''=>q QFc s'' b' a' Q5g (QBv e') hp' hr' r'')
theorem Sim.mono {t:Sem α} {R:Lab->β->α->Prop} {P P':β->St->Prop} (h:Zt c A X1 fm Λ t R σ P) (hP:∀b XH,P b XH->P' b XH):Zt c A X1 fm Λ t R σ P' :=
 fun fz s Q E ok r q=>h fz s Q E ok r fun Zd s' b a XH e hp hr r'=>q Zd s' b a XH e (hP _ _ hp) hr r'
theorem ZK {t:Sem α} {vs:QC QI} {R:Lab->β->α->Prop} {P:β->St->Prop} (h:Zt c A X1 fm Λ t R σ P):Zt c A X1 fm Λ (PySem.holding vs t) R σ P :=
 fun fz s Q E ok r q=>Xa (h fz s Q E ok r q)
theorem QBW {t:Sem QI} {vs:QC QI} {R:Lab->β->QI->Prop} {P:β->St->Prop} (h:Zt c A X1 fm Λ t R σ P):Zt c A X1 fm Λ (Q93 vs t) R σ P :=
 fun fz s Q E ok r q=>wpAny_operating (h fz s Q E ok r q)
theorem Q0F {t:Yb->Sem α} {XJ:Pos} {R:Lab->β->α->Prop} {P:β->St->Prop} (h:Zt c A X1 fm Λ (t ()) R σ P):Zt c A X1 fm Λ (QHB XJ >>= t) R σ P :=
 fun fz s Q E ok r q=>Q9 (Q0n (h fz s Q E ok r q))
theorem Sim.skip {t:Yb->Sem α} {m:Sem Yb} {R:Lab->β->α->Prop} {P:β->St->Prop} (hm:∀ {A:Q2z} {s:QZ} {Q:Yb->QZ->Prop} {E:QI->QZ->Prop},Q () s->Qp (Qi XK c.w) A m Q E s) (h:Zt c A X1 fm Λ (t ()) R σ P):Zt c A X1 fm Λ (m >>= t) R σ P :=
 fun fz s Q E ok r q=>Q9 (hm (h fz s Q E ok r q))
theorem Xk {t:Sem α} {b:β} {R:Lab->β->α->Prop} {P:β->St->Prop} (hP:P b σ)
  (h:∀fz s (Q:α->QZ->Prop) (E:QI->QZ->Prop),Rel c fz Qo Λ σ s->(∀a tk,R Λ b a->Q a {s with Q0T:=tk})->Qp (Qi XK c.w) A t Q E s):Zt c A X1 fm Λ t R σ P :=
 fun fz s Q E ok r q=>h fz s Q E r fun a tk hR=>q Λ _ b a σ (.Q1J _) hP hR Q9N
theorem Zq {t:Sem α} {R:Lab->β->α->Prop} {P:β->St->Prop} (h:∀fz s,Q4y X1 fm Λ->Rel c fz Qo Λ σ s->∀(Q:α->QZ->Prop) (E:QI->QZ->Prop),(∀Zd s' b a XH,Q0C Zd->P b XH->R Zd b a->Rel c fz Qo Zd XH s'->Q a s')->Qp (Qi XK c.w) A t Q E s):Zt c A X1 fm Λ t R σ P :=
 fun fz s Q E ok r q=>h fz s ok r Q E q
theorem Q9O {T:XC} {YC:Data} {o:Ob} {P:QU->St->Prop} (hz:sizeOk YC) (ho:∀Zd,Q0C Zd->OR XK c.w Zd o {cls:=.Qk T,YC:=YC}) (hf:({cls:=.Qk T,YC:=YC}:ZG).isFreed=QJ) (hP:P (.QQ QO) (Qw o)) :
  Zt c A X1 fm Λ (PySem.newObj (.Qk T) YC) VR σ P:=fun fz s Q E ok r q=>by
 refine Xl ?_ hz
 refine q (Z9 QD) _ (.QQ QO) _ (Qw o) (XN _ _) hP ⟨?_,?_⟩ (Q9P (tk:=Y6) (ho _ (XN _ _)) hf)
 ·show QO < Xi+1;rw [Q3i];exact Xu _
 ·show _=Q1k (if QO=Xi then _ else _);rw [QY r.nn.symm]
end
end
noncomputable def BI (gl:Str->Option Value) (fm:Fm) (x:Str):PT Val:=fun σ P=>match fm.sc.names.lookup x with
 | some .local=>Ad (σ.loc x) fun v=>P v σ
 | some .cell=>Ad (fm.cl.lookup x) fun l=>BD (σ.hp l) fun u=>Ad u fun v=>P v σ
 | some .free=>Ad (fm.cl.lookup x) fun l=>BD (σ.hp l) fun u=>Ad u fun v=>P v σ
 | some .globalImplicit=>Ad (gl x) fun v=>P (.imm v) σ
 | _=>False
noncomputable def Br (fm:Fm) (x:Str) (v:Val):PT Unit:=fun σ P=>match fm.sc.names.lookup x with
 | some .local=>P () (σ.set x v)
 | some .cell=>Ad (fm.cl.lookup x) fun l=>BD (σ.hp l) fun _=>P () (σ.upd l (.cell (some v)))
 | _=>False
structure GlOk (c:Cx) (gl:Str->Option Value):Prop where
 is:∀x v,gl x=some v->(nsIn c.K mainGlobals x=some (some v))\/(nsIn c.K mainGlobals x=some none/\bootBuiltins x=some v/\x≠"__name__")
section
variable {c:Cx} {A:Around} {env:Env} {fm:Fm} {Λ:Lab} {σ:St} {gl:Str->Option Value}
mutual
theorem Gm {M:Model} {x:X8} {s:QZ} {Q:QI->QZ->Prop} {E:QI->QZ->Prop} (hk:Q7s=.Q3B) (hx:Q6q x=QB .globalImplicit)
  (h:Qp M A (loadGlobal X1 x) Q E s):Qp M A (QFd X1 x) Q E s:=by
 unfold QFd
 simp only [QDI,hk,hx,ScopeKind.isAnnotationScope,Q7t,XU,Zi]
 exact h
theorem Fv {x:X8} {P:QU->St->Prop} (hc:Q3S) (hg:GlOk c gl) (hx:(x == ("__classdict__":X8))=QJ) (h:BI gl fm x σ P):Zt c A X1 fm Λ (QFd X1 x) VR σ P:=fun fz s Q E ok r q=>by
 have hk:Q7s=.Q3B:=by rw [QCK];exact ok.kd
 have hko:Q6q x=ZL x:=by unfold Q9Q;rw [QCK]
 have YV:(Ad (Q22 x) fun l=>BD (QS l) fun u=>Ad u fun v=>P v σ)->∃l v cv,QAm x=QB (Xs l)/\QDJ (Xs l) (QB cv)/\VR Λ v cv/\P v σ:=by
  intro h
  refine Q2x h fun l hl h=>BD.el h fun u hu h=>Q2x h fun v hv h=>?_
  subst hv
  obtain (⟨h1,h2⟩):=QCL x l hl
  refine ew1 (Q3C l h1) fun o yq3h=>?_;refine an2 yq3h fun ho hor=>?_;clear yq3h
  rw [hu]at hor
  obtain (⟨cv,a,b⟩):=hor
  cases cv with
  | QG=>exact b.elim
  | QB cv=>exact ⟨l,v,cv,h2,⟨o,ho,a⟩,b,h⟩
 unfold BI at h
 generalize e:ZL x=k at h
 rcases k with _ | k
 ·exact Qy
 cases k
 ·refine Q2x h fun v hv h=>?_
  refine ew1 r.ns fun m yq3i=>?_;refine an2 yq3i fun hm k=>?_;clear yq3i
  have kx:=k x
  rw [hv]at kx
  cases hmx:m x with
  | QG=>rw [hmx]at kx;exact kx.elim
  | QB cv =>
   rw [hmx]at kx
   exact wpAny_loadName_local hk (Q6X e) hm hmx (q Λ s v cv σ (.Q1J _) h kx r)
 ·refine ew3 (YV h) fun l v cv yq3j=>?_;refine an4 yq3j fun a b d p=>?_;clear yq3j
  exact wpAny_loadName_cell hk (Q6X e) a b (q Λ s v cv σ (.Q1J _) p d r)
 ·refine ew3 (YV h) fun l v cv yq3k=>?_;refine an4 yq3k fun a b d p=>?_;clear yq3k
  exact wpAny_loadName_free hk (Q6X e) a b (q Λ s v cv σ (.Q1J _) p d r) hx
 ·exact Qy
 ·refine Q2x h fun v hv h=>?_
  have fin:=q Λ s (.imm v) v σ (.Q1J _) h QA r
  have hT:=hc.top
  refine Gm hk (Q6X e) ?_
  rcases hg.is x v hv with a | ⟨a,b,d⟩
  ·exact loadGlobal_global (X1:=X1) (by rw [QHC];exact hT.g.keeps Q0K) (mg_of QEY hT.g a) fin
  ·exact loadGlobal_builtin (X1:=X1) (by rw [QHC];exact hT.g.keeps Q0K) (mg_none_of QEY hT.g a) (by rw [ok.bl];exact hT.b.keeps Q0K) ((hT.builtins x d).QR b) fin
theorem Ef {x:X8} {v:QU} {cv:QI} {P:Yb->St->Prop} (hv:VR Λ v cv) (h:Br fm x v σ P):Zt c A X1 fm Λ (bindName X1 x cv) UR σ P:=fun fz s Q E ok r q=>by
 have hk:Q7s=.Q3B:=by rw [QCK];exact ok.kd
 have hko:Q6q x=ZL x:=by unfold Q9Q;rw [QCK]
 refine wpAny_bindName ?_
 unfold Br at h
 generalize e:ZL x=k at h
 rcases k with _ | k
 ·exact Qy
 cases k
 ·refine ew1 r.ns fun m yq3l=>?_;refine an2 yq3l fun hm k=>?_;clear yq3l
  refine wpAny_storeName_local (Q6X e) hm (fun h' hn hs=>q Λ _ () () _ (.Q1J _) h ZQ (r.set hm hv hn hs)) (by rw [hk];rfl)
 ·refine Q2x h fun l hl h=>BD.el h fun u hu h=>?_
  obtain (⟨h1,h2⟩):=QCL x l hl
  refine ew1 (Q3C l h1) fun o yq3m=>?_;refine an2 yq3m fun ho hor=>?_;clear yq3m
  rw [hu]at hor
  obtain (⟨cv',a,_⟩):=hor
  refine wpAny_storeName_cell hk (Q6X e) h2 ⟨o,ho,a⟩ fun h' hi hs=>?_
  obtain (⟨o',ho',hd'⟩):=hi
  exact q Λ _ () () _ (.Q1J _) h ZQ (QDl (tk:=Y6) (by rw [<- Q3i];exact h1) (fun b o hb e=>(hs.2 b hb).QR e) ho' ⟨_,hd',hv⟩)
 ·exact Qy
 ·exact Qy
 ·exact Qy
end
end
end Mini
end
section
open PySem PySem.W PySem.Calls PyProof.Rows
namespace Mini
theorem Ns.uniq {h:Heap} {L:Addr} {m m':Str->Option Value} (a:h.Ns L m) (b:h.Ns L m'):m=m':=by
 injections h L m m' _ _
 obtain ⟨o1,es1,ep1,a1,a2,_,a3⟩:=a
 obtain ⟨o2,es2,ep2,b1,b2,_,b3⟩:=b
 funext y
 rw [a1]at b1;cases b1;rw [a2]at b2;cases b2
 rw [<- a3,<- b3]
section
variable {c:Cx} {fz:Addr->Option Obj} {L:Addr} {Λ:Lab} {σ:St} {s:Shared}
mutual
theorem Rel.growL (R:Rel c fz L Λ σ s) {h':ZS} {tk:QH} {m:X8->QW QI} (hm:QAl L m) (hm':h'.Ns L m) (hk:∀b o,b≠L->Qc b=QB o->ZB b=QB o):Rel c fz L Λ σ {s with YO:=h',Q0T:=tk} where
 nn:=Q45
 ns:=let ⟨m1,h,k⟩:=QCI;⟨m,hm',fun x=>by rw [Ns.uniq hm h];exact k x⟩
 Q4c:=fun b o e=>hk b o (fun q=>by rw [q,Q6V]at e;cases e) (Q4F b o e)
 Q8m:=Q5N
 fzL:=Q6V
 ob:=fun l hl=>let ⟨o,h,k⟩:=Q6E l hl;⟨o,hk _ _ (Q5O l hl) h,k⟩
 fzl:=Q5s
 lne:=Q5O
 inj:=Q7M
 Q4x:=Q3m
 low:=Q6W
 nsm:=Q92
 os:=QDH
 Q0P:=Q6F
def AL (g:ZS) (L:Qq) (h:ZS):QC (Qq×ZG):=(X6 QFe).QDm fun b=>if b=L\/(QCM b).QAk=QM then QG else (Q05 b).map (b,·)
theorem BS {g:ZS} {L:Qq} {h:ZS} {b:Qq} {o:ZG}:(b,o)∈AL g L h↔b≠L/\QCM b=QG/\Q05 b=QB o:=by
 injections g L h b o
 unfold AL
 rw [List.mem_filterMap]
 constructor
 ·intros Q2X
  obtain ⟨a,ha,e⟩:=Q2X
  split at e
  ·cases e
  ·rename_i hn
   cases hq:Q05 a with
   | QG=>rw [hq]at e;cases e
   | QB o' =>
    injections o' zI
    rw [hq]at e
    simp only [Option.map_some,Option.some.injEq,Prod.mk.injEq]at e
    obtain ⟨QA,QA⟩:=e
    refine ⟨fun q=>hn (.inl q),?_,hq⟩
    cases hg:QCM a with
    | QG=>rfl
    | QB _=>exact XF (.inr (by rw [hg];rfl)) hn
 ·intros Q6r
  obtain ⟨h1,h2,h3⟩:=Q6r
  refine ⟨b,List.mem_range.mpr (X0 h3),?_⟩
  rw [QN (by rw [h2];simp [h1]),h3];rfl
theorem BZ {g:ZS} {L:Qq} {h:ZS}:News g L h (AL g L h):=fun p hp=>let ⟨a,b,d⟩:=BS.mp hp;⟨d,a,b⟩
theorem Rel.fr (R:Rel c fz L Λ σ s):∃m,Fr c.g L QV m/\∀x,OV Λ (Xy x) (m x):=let ⟨m,h,k⟩:=QCI;⟨m,⟨h,R.gkeep,Q3m⟩,k⟩
theorem Gr {g:ZS} {L:Qq} {h h':ZS} {m:X8->QW QI} {X:QC (Qq×ZG)} (F:Fr g L h m) (F':Fr g L h' m) (N:News g L h' (X++AL g L h)):∀b o,b≠L->Q05 b=QB o->ZB b=QB o:=fun b o hb e=>by
 cases hg:QCM b with
 | QB o' =>
  have:=F.keep b o' hg
  rw [e]at this
  cases this
  exact F'.keep b o hg
 | QG=>exact (N (b,o) (Q7X _ (BS.mpr ⟨hb,hg,e⟩))).1
theorem Rel.lists (R:Rel c fz L Λ σ s) {l:QH} {xs:QC QU} (hl:l < QO) (h:QS l=.Qs xs):∃vs n,Qc (Xs l)=QB (Q4e Xw n)/\VRs Λ xs vs:=by
 refine ew1 (Q6E l (by rw [Q45];exact hl)) fun o yq3U=>?_;refine an2 yq3U fun ho hor=>?_;clear yq3U
 rw [h]at hor
 obtain (⟨vs,n,QA,k⟩):=hor
 exact ⟨vs,n,ho,k⟩
theorem Rel.listsV (R:Rel c fz L Λ σ s) {l:QH} {xs:QC QU} {a:QI} (hv:VR Λ (.QQ l) a) (h:QS l=.Qs xs):a=.QQ (Xs l)/\l < QO/\∃vs n,Qc (Xs l)=QB (Q4e Xw n)/\VRs Λ xs vs :=
 ⟨hv.2,by rw [<- Q45];exact hv.1,R.lists (by rw [<- Q45];exact hv.1) h⟩
theorem Al {h:ZS} {a:Qq} {vs:QC QI} {n:QH} (e:Q05 a=QB (Q4e Xw n)):h.IsList a Xw:=⟨_,e,QA,n,QA⟩
theorem Rel.made (R:Rel c fz L Λ σ s) {h':ZS} {tk:QH} {m:X8->QW QI} {a:Qq} {o:Ob} {co:ZG} (F:Fr c.g L QV m) (F':Fr c.g L h' m) (N:News c.g L h' ((a,co)::AL c.g L QV)) (ha:QD<=a) (ho:OR XK c.w (Z9 a) o co) :
  Rel c fz L (Z9 a) (Qw o) {s with YO:=h',Q0T:=tk}:=by
 injections c fz L Λ σ s _ h' tk m a o co _ _ _ _ _
 have hk:=Gr (X:=[(a,co)]) F F' N
 have hx:=XN Λ a
 have fs:(Z9 a).f Xi=a:=QY QA
 have new:ZB a=QB co:=(N (a,co) (.Zf _)).1
 have lt:∀l,l < Xi->Xs l < QD:=fun l hl=>let ⟨o,h,_⟩:=Q6E l hl;X0 h
 have R1:Rel c fz L Λ σ {s with YO:=h',Q0T:=tk}:=R.growL F.ns F'.ns hk
 refine {nn:=by show Xi+1=QO+1;rw [Q45],ns:=?_,Q4c:=R1.keep,Q8m:=Q5N,fzL:=Q6V,ob:=fun l hl=>?_,fzl:=fun l hl=>?_,lne:=fun l hl=>?_,inj:=fun l l' hl hl' e=>?_,Q4x:=Q3m,low:=Q6W,nsm:=fun l hl=>?_,os:=QDH,Q0P:=Q6F}
 ·obtain ⟨m,h,k⟩:=R1.ns
  exact ⟨m,h,fun x=>(k x).ext hx⟩
 ·by_cases h:l=Xi
  ·subst h
   refine ⟨co,by rw [fs];exact new,?_⟩
   have:(Qw o).hp Xi=o:=QY Q45
   rw [this];exact ho
  ·have hl':l < Xi:=by have:l < Xi+1:=hl;exact BH h this
   obtain ⟨o',h1,h2⟩:=(R1.ob l hl')
   refine ⟨o',by rw [hx.2 l hl'];exact h1,?_⟩
   have:(Qw o).hp l=QS l:=QN (by rw [<- Q45];exact h)
   rw [this];exact QEX hx
 ·by_cases h:l=Xi
  ·subst h
   rw [fs]
   cases q:fz a with
   | QG=>rfl
   | QB o=>exact XF (X0 (Q4F _ _ q)) (YW ha)
  ·have hl':l < Xi:=by have:l < Xi+1:=hl;exact BH h this
   rw [hx.2 l hl'];exact Q5s l hl'
 ·by_cases h:l=Xi
  ·subst h;rw [fs];exact (N (a,co) (.Zf _)).2.1
  ·have hl':l < Xi:=by have:l < Xi+1:=hl;exact BH h this
   rw [hx.2 l hl'];exact Q5O l hl'
 ·have a1:l < Xi+1:=hl
  have a2:l' < Xi+1:=hl'
  by_cases h:l=Xi <;> by_cases h':l'=Xi
  ·rw [h,h']
  ·subst h
   have q:l' < Xi:=by exact Bl a2 h'
   rw [fs,hx.2 l' q]at e
   exact XF (e▸lt l' q) (YW ha)
  ·subst h'
   have q:l < Xi:=by exact Bl a1 h
   rw [fs,hx.2 l q]at e
   exact XF (e▸lt l q) (YW ha)
  ·have q:l < Xi:=by exact Bl a1 h
   have q':l' < Xi:=by exact Bl a2 h'
   rw [hx.2 l q,hx.2 l' q']at e
   exact Q7M l l' q q' e
 ·by_cases h:l=Xi
  ·subst h;rw [fs];exact Yo (Y8 (QP (Q1G Q6W R.Llt) ha))
  ·have hl':l < Xi:=by have:l < Xi+1:=hl;exact BH h this
   rw [hx.2 l hl'];exact Q92 l hl'
theorem Q1l {Λ:Lab} {σ:St} (a:Qq) (h:Xi=QO):VR (Z9 a) (.QQ QO) (.QQ a):=⟨by show QO < Xi+1;rw [h];exact Xu _,by show _=Q1k (if QO=Xi then _ else _);rw [QY QGi]⟩
end
end
noncomputable def M9 (a b:Ob):PT Val:=fun σ P=>match a with
 | .list xs=>(match b with
  | .list ys=>xs.length+ys.length<=sizeLine/\P (.ref σ.nx) (σ.alloc (.list (xs++ys)))
  | _=>False)
 | _=>False
noncomputable def M8 (a b:Val) (f:Int->Int->Prop):Prop:=match a with
 | .int x=>(match b with
  | .int y=>f x y
  | _=>False)
 | _=>False
noncomputable def aeY (a b:Val):PT Val:=fun σ P=>match a with
 | .int x=>(match b with
  | .int y=>P (.int (x+y)) σ
  | _=>False)
 | .str x=>(match b with
  | .str y=>x.length+y.length<=sizeLine/\P (.str (x++y)) σ
  | _=>False)
 | .ref l=>(match b with
  | .ref k=>M9 (σ.hp l) (σ.hp k) σ P
  | _=>False)
 | _=>False
noncomputable def aeX (a b:Val):PT Val:=fun σ P=>match a with
 | .int x=>(match b with
  | .int y=>(Builtin.Int.intBits x<=64\/Builtin.Int.intBits y<=64)/\P (.int (x*y)) σ
  | _=>False)
 | .str x=>(match b with
  | .int y=>MulOk x y/\P (.str (Txt.mul x y)) σ
  | _=>False)
 | _=>False
noncomputable def CP (op:Operator) (a b:Val):PT Val:=fun σ P=>match op with
 | .Add=>aeY a b σ P
 | .Sub=>M8 a b fun x y=>P (.int (x - y)) σ
 | .Mult=>aeX a b σ P
 | .FloorDiv=>M8 a b fun x y=>y≠0/\Builtin.divisionGoesByPylong x y=false/\P (.int (x.fdiv y)) σ
 | .Mod=>M8 a b fun x y=>y≠0/\P (.int (x.fmod y)) σ
 | .Pow=>M8 a b fun x y=>0<=y/\(Builtin.Int.intBits x:Int)*y<=2 ^ 27/\P (.int (x ^ y.toNat)) σ
 | _=>False
section
variable {c:Cx} {A:Around} {env:Env} {fm:Fm} {Λ:Lab} {σ:St}
mutual
theorem E7 {op:Q6Y} {a b:QU} {x y:QI} {P:QU->St->Prop} {f:X4->X4->Prop} (ha:VR Λ a x) (hb:VR Λ b y) (h:M8 a b f) (k:∀i j t u,f i j->Zt c A X1 fm Λ (QFf op (.Qm i t) (.Qm j u)) VR σ P):Zt c A X1 fm Λ (QFf op x y) VR σ P:=by
 cases a
 case Qm i =>
  cases b
  case Qm j =>
   obtain (⟨t,QA⟩):=ha
   obtain (⟨u,QA⟩):=hb
   exact k i j t u h
  all_goals exact Qy
 all_goals exact Qy
theorem OQ {op:Q6Y} {a b:QU} {x y:QI} {P:QU->St->Prop} (ha:VR Λ a x) (hb:VR Λ b y) (h:CP op a b σ P):Zt c A X1 fm Λ (QFf op x y) VR σ P:=by
 cases op
 case Sub=>exact E7 ha hb h fun i j t u h=>Xk h fun fz s Q E r q=>sub_int (q _ _ ⟨_,QA⟩)
 case FloorDiv=>exact E7 ha hb h fun i j t u h=>Xk h.2.2 fun fz s Q E r q=>floordiv_int h.1 (q _ _ ⟨_,QA⟩) (.inl h.2.1)
 case Mod=>exact E7 ha hb h fun i j t u h=>Xk h.2 fun fz s Q E r q=>mod_int' h.1 (q _ _ ⟨_,QA⟩)
 case Pow=>exact E7 ha hb h fun i j t u h=>Xk h.2.2 fun fz s Q E r q=>pow_int h.1 h.2.1 (q _ _ ⟨_,QA⟩)
 case Mult =>
  cases a
  case Qm i =>
   cases b
   case Qm j =>
    obtain (⟨t,QA⟩):=ha;obtain (⟨u,QA⟩):=hb
    exact Xk (QDn h) fun fz s Q E r q=>mul_int (q _ _ ⟨_,QA⟩) (Q6s (QFg h) IntMulOk.of_left IntMulOk.of_right)
   all_goals exact Q1R h
  case Xt i =>
   cases b
   case Qm j =>
    obtain (⟨t,QA⟩):=ha;obtain (⟨u,QA⟩):=hb
    exact Xk (QDn h) fun fz s Q E r q=>SB.mul (QFg h) (fun t' tk=>q _ _ ⟨_,QA⟩)
   all_goals exact Q1R h
  all_goals exact Q1R h
 case Add =>
  cases a
  case Qm i =>
   cases b
   case Qm j =>
    obtain (⟨t,QA⟩):=ha;obtain (⟨u,QA⟩):=hb
    exact Xk h fun fz s Q E r q=>add_int (q _ _ ⟨_,QA⟩)
   all_goals exact Q1R h
  case Xt i =>
   cases b
   case Xt j =>
    obtain (⟨t,QA⟩):=ha;obtain (⟨u,QA⟩):=hb
    exact Xk (QDn h) fun fz s Q E r q=>add_str (fun t' tk=>q _ _ ⟨_,QA⟩) (QFg h)
   all_goals exact Q1R h
  case QQ l =>
   cases b
   case QQ k =>
    have h':M9 (QS l) (QS k) σ P:=h
    clear h
    cases e1:QS l <;> rw [e1]at h'
    case Qs xs =>
     cases e2:QS k <;> rw [e2]at h'
     case Qs ys =>
      refine Zq fun fz s ok r Q E q=>?_
      refine an3 (Q0w ha e1) fun yq3X _ yq3Y=>?_;obtain QA:=yq3X;refine ew2 yq3Y fun vs n yq3Z=>?_;refine an2 yq3Z fun h1 h2=>?_;clear yq3Y yq3Z
      refine an3 (Q0w hb e2) fun yq40 _ yq41=>?_;obtain QA:=yq40;refine ew2 yq41 fun ws n' yq42=>?_;refine an2 yq42 fun h3 h4=>?_;clear yq41 yq42
      refine ew1 r.fr fun m yq43=>?_;refine an2 yq43 fun F _=>?_;clear yq43
      refine add_arrays F BZ (Al h1) (Al h3) (fun h'' F' N'=>?_) (by simp [<- h2.length,<- h4.length];exact h'.1)
      have:=r.made (tk:=Y6) (o:=.Qs (xs++ys)) F F' N' (Qh _) ⟨vs++ws,0,by simp,(h2.append h4).ext (XN _ _)⟩
      exact q _ _ _ _ _ (XN _ _) h'.2 (Q1l _ Q3i) this
     all_goals exact h'.elim
    all_goals exact h'.elim
   all_goals exact Q1R h
  all_goals exact Q1R h
 all_goals exact Q1R h
end
end
end Mini
end
section
open PySem PySem.W PySem.Calls PyProof.Rows
set_option genInjectivity false
set_option genSizeOf false
namespace Mini
structure AOk (A:Around):Prop where
 handled:A.handled=none
 units:A.units+200 < cLine
 depth:A.depth+10 < recursionLimit
mutual
inductive DV (hp:Nat->Ob):Val->Dat->Prop
 | none:DV hp .none .none
 | int (i:Int):DV hp (.int i) (.int i)
 | str (x:Str):DV hp (.str x) (.str x)
 | tuple {l:Nat} {xs:List Val} {ds:List Dat}:hp l=.tuple xs->DVs hp xs ds->DV hp (.ref l) (.tuple ds)
 | list {l:Nat} {xs:List Val} {ds:List Dat}:hp l=.list xs->DVs hp xs ds->DV hp (.ref l) (.list ds)
inductive DVs (hp:Nat->Ob):List Val->List Dat->Prop
 | nil:DVs hp [] []
 | cons {v:Val} {vs:List Val} {d:Dat} {ds:List Dat}:DV hp v d->DVs hp vs ds->DVs hp (v::vs) (d::ds)
end
section
variable {c:Cx} {fz:Addr->Option Obj} {L:Addr} {Λ:Lab} {σ:St} {s:Shared}
mutual
theorem Rel.mem (R:Rel c fz L Λ σ s) {l:QH} (hl:l < Xi) {o:ZG} (h:Qc (Xs l)=QB o):(Xs l,o)∈AL c.g L QV:=by
 refine BS.mpr ⟨Q5O l hl,?_,h⟩
 cases q:Q39 (Xs l) with
 | QG=>rfl
 | QB o'=>have:=Q5N _ _ q;rw [Q5s l hl]at this;cases this
theorem Rel.datR (R:Rel c fz L Λ σ s):(∀ {v:QU} {d:Dat},DV QS v d->∀a:QI,VR Λ v a->Q9z (AL c.g L QV) a d)/\(∀ {vs:QC QU} {ds:QC Dat},DVs QS vs ds->∀as:QC QI,VRs Λ vs as->Q7u (AL c.g L QV) as ds):=by
 injections c fz L Λ σ s _
 have h1:∀a,VR Λ .QG a->Q9z (AL c.g L QV) a .QG:=fun a h=>by cases h;exact .QG
 have h2:∀i a,VR Λ (.Qm i) a->Q9z (AL c.g L QV) a (.Qm i):=fun i a h=>by obtain (⟨t,QA⟩):=h;exact .Qm _ _
 have h3:∀i a,VR Λ (.Xt i) a->Q9z (AL c.g L QV) a (.Xt i):=fun i a h=>by obtain (⟨t,QA⟩):=h;exact .Xt _ _
 have h4:∀ {l:QH} {xs:QC QU} {ds:QC Dat},QS l=.YM xs->DVs QS xs ds->(∀as,VRs Λ xs as->Q7u (AL c.g L QV) as ds)->∀a,VR Λ (.QQ l) a->Q9z (AL c.g L QV) a (.YM ds):=fun {l xs ds} e _ ih a h=>by
  refine ew1 (Q6E l h.1) fun o yq44=>?_;refine an2 yq44 fun ho hor=>?_;clear yq44
  rw [e]at hor
  obtain (⟨vs,n,QA,hv⟩):=hor
  rw [h.2]
  exact .YM (R.mem h.1 ho) (ih _ hv)
 have h5:∀ {l:QH} {xs:QC QU} {ds:QC Dat},QS l=.Qs xs->DVs QS xs ds->(∀as,VRs Λ xs as->Q7u (AL c.g L QV) as ds)->∀a,VR Λ (.QQ l) a->Q9z (AL c.g L QV) a (.Qs ds):=fun {l xs ds} e _ ih a h=>by
  refine ew1 (Q6E l h.1) fun o yq45=>?_;refine an2 yq45 fun ho hor=>?_;clear yq45
  rw [e]at hor
  obtain (⟨vs,n,QA,hv⟩):=hor
  rw [h.2]
  exact .Qs (R.mem h.1 ho) (ih _ hv)
 have h6:∀as,VRs Λ [] as->Q7u (AL c.g L QV) as []:=fun as h=>by cases h;exact .Zo
 have h7:∀ {v:QU} {vs:QC QU} {d:Dat} {ds:QC Dat},DV QS v d->DVs QS vs ds->(∀a,VR Λ v a->Q9z (AL c.g L QV) a d)->(∀as,VRs Λ vs as->Q7u (AL c.g L QV) as ds)->∀as,VRs Λ (v::vs) as->Q7u (AL c.g L QV) as (d::ds):=fun _ _ i1 i2 as h=>by
  cases h with | Xx h hs=>exact .Xx (i1 _ h) (i2 _ hs)
 exact ⟨fun k=>DV.rec (Q4f:=fun v d _=>∀a,VR Λ v a->Q9z (AL c.g L QV) a d) (motive_2:=fun vs ds _=>∀as,VRs Λ vs as->Q7u (AL c.g L QV) as ds) h1 h2 h3 h4 h5 h6 h7 k,fun k=>DVs.rec (Q4f:=fun v d _=>∀a,VR Λ v a->Q9z (AL c.g L QV) a d) (motive_2:=fun vs ds _=>∀as,VRs Λ vs as->Q7u (AL c.g L QV) as ds) h1 h2 h3 h4 h5 h6 h7 k⟩
theorem Rel.dat (R:Rel c fz L Λ σ s) {v:QU} {d:Dat} {a:QI} (k:DV QS v d) (h:VR Λ v a):Q9z (AL c.g L QV) a d:=R.datR.1 k a h
theorem Rel.dats (R:Rel c fz L Λ σ s) {vs:QC QU} {ds:QC Dat} {as:QC QI} (k:DVs QS vs ds) (h:VRs Λ vs as):Q7u (AL c.g L QV) as ds:=R.datR.2 k as h
end
end
noncomputable def Ob.own:Ob->Bool
 | .list _ | .dict _ | .set _ | .inst _ _ | .idict _ | .sub _ _=>true
 | _=>false
noncomputable def EF (f:Int->Int->Bool) (a b:Val):PT Val:=fun σ P=>match a with
 | .int x=>(match b with
  | .int y=>P (.bool (f x y)) σ
  | _=>False)
 | _=>False
open Classical in
noncomputable def aeW (a b:Val):PT Val:=fun σ P=>match a with
 | .int x=>(match b with
  | .int y=>P (.bool (x == y)) σ
  | _=>False)
 | .str x=>(match b with
  | .str y=>P (.bool (x == y)) σ
  | _=>False)
 | .ref l=>(match b with
  | .ref k=>Af (σ.hp l) fun xs=>Af (σ.hp k) fun ys=>∃ds es,DVs σ.hp xs ds/\DVs σ.hp ys es/\(∀d∈ds,kqdOk 8 d=true)/\(∀d∈es,kqdOk 8 d=true)/\P (.bool (decide (ds=es))) σ
  | _=>False)
 | _=>False
open Classical in
noncomputable def aeT (a b:Val):PT Val:=fun σ P=>match a with
 | .int x=>(match b with
  | .int y=>P (.bool (x != y)) σ
  | _=>False)
 | .str x=>(match b with
  | .str y=>P (.bool (x != y)) σ
  | _=>False)
 | .ref l=>(match b with
  | .ref k=>Af (σ.hp l) fun xs=>Af (σ.hp k) fun ys=>∃ds es,DVs σ.hp xs ds/\DVs σ.hp ys es/\(∀d∈ds,kqdOk 8 d=true)/\(∀d∈es,kqdOk 8 d=true)/\P (.bool (!decide (ds=es))) σ
  | _=>False)
 | _=>False
noncomputable def isNone:Val->Bool
 | .none=>true
 | .imm v=>v == .none
 | _=>false
noncomputable def aeU (a b:Val):PT Val:=fun σ P=>match b with
 | .none=>P (.bool (isNone a)) σ
 | .bool y=>(match a with
  | .bool x=>P (.bool (x == y)) σ
  | _=>False)
 | .ref k=>(match a with
  | .ref l=>(σ.hp l).own=true/\P (.bool (decide (l=k))) σ
  | _=>False)
 | _=>False
noncomputable def KD (a b:Val):PT Val:=fun σ P=>match b with
 | .none=>P (.bool (!isNone a)) σ
 | .bool y=>(match a with
  | .bool x=>P (.bool (!(x == y))) σ
  | _=>False)
 | .ref k=>(match a with
  | .ref l=>(σ.hp l).own=true/\P (.bool (!decide (l=k))) σ
  | _=>False)
 | _=>False
open Classical in
noncomputable def aeV (v b:Val):PT Val:=fun σ P=>Ai b fun k=>Af (σ.hp k) fun ys=>∃d es,DV σ.hp v d/\DVs σ.hp ys es/\kqdOk 8 d=true/\(∀d∈es,kqdOk 8 d=true)/\P (.bool (decide (d∈es))) σ
open Classical in
noncomputable def KC (v b:Val):PT Val:=fun σ P=>Ai b fun k=>Af (σ.hp k) fun ys=>∃d es,DV σ.hp v d/\DVs σ.hp ys es/\kqdOk 8 d=true/\(∀d∈es,kqdOk 8 d=true)/\P (.bool (!decide (d∈es))) σ
noncomputable def BK (op:CmpOp) (a b:Val):PT Val:=match op with
 | .Eq=>aeW a b
 | .NotEq=>aeT a b
 | .Lt=>EF (fun x y=>decide (x < y)) a b
 | .LtE=>EF (fun x y=>decide (x<=y)) a b
 | .Gt=>EF (fun x y=>decide (y < x)) a b
 | .GtE=>EF (fun x y=>decide (y<=x)) a b
 | .Is=>aeU a b
 | .IsNot=>KD a b
 | .In=>aeV a b
 | .NotIn=>KC a b
section
variable {c:Cx} {A:Around} {env:Env} {fm:Fm} {Λ:Lab} {σ:St}
mutual
theorem Ji (x y:Qu):(Value.bool x == Value.bool y)=(x == y):=by cases x <;> cases y <;> rfl
theorem KI {o:Ob} {co:ZG} (h:o.own=QM) (k:OR XK c.w Λ o co):co.cls≠.Qk "tuple":=by
 injections c Λ o co _ _
 cases o <;> first | exact XF h Qj | skip
 ·obtain ⟨vs,n,QA,_⟩:=k;simp
 ·obtain ⟨cvs,⟨es,ep,he,_⟩,_⟩:=k;rw [he.1];simp
 ·obtain ⟨_,es,ep,t,he,_⟩:=k;rw [he.1];simp
 ·rw [k.2];simp
 ·obtain ⟨es,QA,_⟩:=k;simp
 ·obtain ⟨vs,n,d,QA,_⟩:=k;simp
theorem TB {l k:QH} {x y:QI} {Q:QI->QZ->Prop} {E:QI->QZ->Prop} {fz:Qq->QW ZG} {s:QZ} (r:Rel c fz Qo Λ σ s) (ha:VR Λ (.QQ l) x) (hb:VR Λ (.QQ k) y) (ho:(QS l).own=QM) (h:Q (.Ys (XY (l=k))) s) :
  Qp (Qi XK c.w) A (Q0t .Is x y) Q E s:=by
 obtain (⟨h1,QA⟩):=ha
 obtain (⟨h2,QA⟩):=hb
 by_cases e:l=k
 ·subst e;rw [Yz QA]at h;exact wpAny_is_ref_self h
 ·rw [Yl e]at h
  refine ew1 (Q3C l h1) fun o1 yq46=>?_;refine an2 yq46 fun a1 b1=>?_;clear yq46
  refine ew1 (Q3C k h2) fun o2 yq47=>?_;refine an2 yq47 fun a2 b2=>?_;clear yq47
  exact wpAny_is_ref_other (fun q=>e (r.inj l k h1 h2 q)) a1 a2 (KI ho b1) h
theorem Ln {l k:QH} {x y:QI} {Q:QI->QZ->Prop} {E:QI->QZ->Prop} {fz:Qq->QW ZG} {s:QZ} (r:Rel c fz Qo Λ σ s) (ha:VR Λ (.QQ l) x) (hb:VR Λ (.QQ k) y) (ho:(QS l).own=QM) (h:Q (.Ys (!XY (l=k))) s) :
  Qp (Qi XK c.w) A (Q0t .QFh x y) Q E s:=by
 obtain (⟨h1,QA⟩):=ha
 obtain (⟨h2,QA⟩):=hb
 by_cases e:l=k
 ·subst e;rw [Yz QA]at h;exact wpAny_isNot_ref_self h
 ·rw [Yl e]at h
  refine ew1 (Q3C l h1) fun o1 yq48=>?_;refine an2 yq48 fun a1 b1=>?_;clear yq48
  refine ew1 (Q3C k h2) fun o2 yq49=>?_;refine an2 yq49 fun a2 b2=>?_;clear yq49
  exact wpAny_isNot_ref_other (fun q=>e (r.inj l k h1 h2 q)) a1 a2 (KI ho b1) h
theorem Tz {a b:QU} {x y:QI} {P:QU->St->Prop} (ha:VR Λ a x) (hb:VR Λ b y) (h:EF (fun x y=>XY (x < y)) a b σ P):Zt c A X1 fm Λ (Q0t .Lt x y) VR σ P:=by
 cases a <;> try exact Qy
 cases b <;> try exact Qy
 obtain (⟨t,QA⟩):=ha;obtain (⟨u,QA⟩):=hb
 exact Xk h fun fz s Q E r q=>lt_int (q _ _ QA)
theorem TA {a b:QU} {x y:QI} {P:QU->St->Prop} (ha:VR Λ a x) (hb:VR Λ b y) (h:EF (fun x y=>XY (x<=y)) a b σ P):Zt c A X1 fm Λ (Q0t .LtE x y) VR σ P:=by
 cases a <;> try exact Qy
 cases b <;> try exact Qy
 obtain (⟨t,QA⟩):=ha;obtain (⟨u,QA⟩):=hb
 exact Xk h fun fz s Q E r q=>le_int (q _ _ QA)
theorem TD {a b:QU} {x y:QI} {P:QU->St->Prop} (ha:VR Λ a x) (hb:VR Λ b y) (h:EF (fun x y=>XY (y < x)) a b σ P):Zt c A X1 fm Λ (Q0t .Gt x y) VR σ P:=by
 cases a <;> try exact Qy
 cases b <;> try exact Qy
 obtain (⟨t,QA⟩):=ha;obtain (⟨u,QA⟩):=hb
 exact Xk h fun fz s Q E r q=>gt_int (q _ _ QA)
theorem TE {a b:QU} {x y:QI} {P:QU->St->Prop} (ha:VR Λ a x) (hb:VR Λ b y) (h:EF (fun x y=>XY (y<=x)) a b σ P):Zt c A X1 fm Λ (Q0t .GtE x y) VR σ P:=by
 cases a <;> try exact Qy
 cases b <;> try exact Qy
 obtain (⟨t,QA⟩):=ha;obtain (⟨u,QA⟩):=hb
 exact Xk h fun fz s Q E r q=>ge_int (q _ _ QA)
theorem TF {a b:QU} {x y:QI} {P:QU->St->Prop} (hA:AOk A) (ha:VR Λ a x) (hb:VR Λ b y) (h:aeW a b σ P):Zt c A X1 fm Λ (Q0t .Eq x y) VR σ P:=by
 have hu:Q8Z+64 < QDo:=by have:=Q7v;exact Kt this
 cases a <;> try exact Qy
 ·cases b <;> try exact Qy
  obtain (⟨t,QA⟩):=ha;obtain (⟨u,QA⟩):=hb
  exact Xk h fun fz s Q E r q=>eq_int (q _ _ QA)
 ·cases b <;> try exact Qy
  obtain (⟨t,QA⟩):=ha;obtain (⟨u,QA⟩):=hb
  exact Xk h fun fz s Q E r q=>eq_str (q _ _ QA)
 ·cases b <;> try exact Qy
  refine Q4u h fun xs e1 h=>Q4u h fun ys e2 h=>?_
  ·skip
   refine ew2 h fun ds es yq4a=>?_;refine an5 yq4a fun d1 d2 k1 k2 p=>?_;clear yq4a
   refine Xk p fun fz s Q E r q=>?_
   refine an3 (Q0w ha e1) fun yq4b g1 yq4c=>?_;obtain QA:=yq4b;refine ew2 yq4c fun vs n yq4d=>?_;refine an2 yq4d fun a1 a2=>?_;clear yq4c yq4d
   refine an3 (Q0w hb e2) fun yq4e g2 yq4f=>?_;obtain QA:=yq4e;refine ew2 yq4f fun ws n' yq4g=>?_;refine an2 yq4g fun b1 b2=>?_;clear yq4f yq4g
   exact kqd_eq BZ (QFi (by rw [Q3i];exact g1) a1) QA QA (QCN d1 a2) (fun _ h=>h) (QFi (by rw [Q3i];exact g2) b1) QA QA (QCN d2 b2) (fun _ h=>h) k1 k2 hu (q _ _ QA)
theorem Tx {a b:QU} {x y:QI} {P:QU->St->Prop} (hA:AOk A) (ha:VR Λ a x) (hb:VR Λ b y) (h:aeT a b σ P):Zt c A X1 fm Λ (Q0t .QHD x y) VR σ P:=by
 have hu:Q8Z+64 < QDo:=by have:=Q7v;exact Kt this
 cases a <;> try exact Qy
 ·cases b <;> try exact Qy
  obtain (⟨t,QA⟩):=ha;obtain (⟨u,QA⟩):=hb
  exact Xk h fun fz s Q E r q=>ne_int (q _ _ QA)
 ·cases b <;> try exact Qy
  obtain (⟨t,QA⟩):=ha;obtain (⟨u,QA⟩):=hb
  exact Xk h fun fz s Q E r q=>ne_str (q _ _ QA)
 ·cases b <;> try exact Qy
  refine Q4u h fun xs e1 h=>Q4u h fun ys e2 h=>?_
  ·skip
   refine ew2 h fun ds es yq4h=>?_;refine an5 yq4h fun d1 d2 k1 k2 p=>?_;clear yq4h
   refine Xk p fun fz s Q E r q=>?_
   refine an3 (Q0w ha e1) fun yq4i g1 yq4j=>?_;obtain QA:=yq4i;refine ew2 yq4j fun vs n yq4k=>?_;refine an2 yq4k fun a1 a2=>?_;clear yq4j yq4k
   refine an3 (Q0w hb e2) fun yq4l g2 yq4m=>?_;obtain QA:=yq4l;refine ew2 yq4m fun ws n' yq4n=>?_;refine an2 yq4n fun b1 b2=>?_;clear yq4m yq4n
   exact kqd_ne BZ (QFi (by rw [Q3i];exact g1) a1) QA QA (QCN d1 a2) (fun _ h=>h) (QFi (by rw [Q3i];exact g2) b1) QA QA (QCN d2 b2) (fun _ h=>h) k1 k2 hu (q _ _ QA)
theorem ON {a b:QU} {x y:QI} {P:QU->St->Prop} (ha:VR Λ a x) (hb:VR Λ b y) (h:aeU a b σ P):Zt c A X1 fm Λ (Q0t .Is x y) VR σ P:=by
 injections c A X1 fm Λ σ a b x y P _ _ _
 cases b <;> try exact Qy
 ·cases hb
  have e:(x == Zy)=QCO a:=by
   cases a
   ·cases ha;rfl
   ·cases ha;rfl
   ·obtain ⟨t,QA⟩:=ha;rfl
   ·obtain ⟨t,QA⟩:=ha;rfl
   ·obtain ⟨t,QA⟩:=ha;rfl
   ·cases ha;rfl
  have h':P (.Ys (QCO a)) σ:=h
  rw [<- e]at h'
  exact Xk h' fun fz s Q E r q=>is_none_gen (q _ _ QA)
 ·cases a <;> try exact Qy
  cases ha;cases hb
  exact Xk h fun fz s Q E r q=>wpAny_is_plain QA (q _ _ (by simp [VR];exact Ji _ _))
 ·cases a <;> try exact Qy
  exact Xk h.2 fun fz s Q E r q=>TB r ha hb h.1 (q _ _ QA)
theorem Jw {a b:QU} {x y:QI} {P:QU->St->Prop} (ha:VR Λ a x) (hb:VR Λ b y) (h:KD a b σ P):Zt c A X1 fm Λ (Q0t .QFh x y) VR σ P:=by
 cases b <;> try exact Qy
 ·cases hb
  have e:(x == Zy)=QCO a:=by
   cases a
   ·cases ha;rfl
   ·cases ha;rfl
   ·obtain (⟨t,QA⟩):=ha;rfl
   ·obtain (⟨t,QA⟩):=ha;rfl
   ·obtain (⟨t,QA⟩):=ha;rfl
   ·cases ha;rfl
  have h':P (.Ys (!QCO a)) σ:=h
  rw [<- e]at h'
  exact Xk h' fun fz s Q E r q=>isnot_none_gen (q _ _ QA)
 ·cases a <;> try exact Qy
  cases ha;cases hb
  exact Xk h fun fz s Q E r q=>wpAny_isNot_plain QA (q _ _ (by simp [VR];exact Ji _ _))
 ·cases a <;> try exact Qy
  exact Xk h.2 fun fz s Q E r q=>Ln r ha hb h.1 (q _ _ QA)
theorem TC {a b:QU} {x y:QI} {P:QU->St->Prop} (hA:AOk A) (ha:VR Λ a x) (hb:VR Λ b y) (h:aeV a b σ P):Zt c A X1 fm Λ (Q0t .In x y) VR σ P:=by
 have hu:Q8Z+64 < QDo:=by have:=Q7v;exact Kt this
 refine Q1Y h fun k eb h=>?_;subst eb
 ·refine Q4u h fun ys e2 h=>?_
  refine ew2 h fun d es yq4o=>?_;refine an5 yq4o fun d1 d2 k1 k2 p=>?_;clear yq4o
  refine Xk p fun fz s Q E r q=>?_
  refine an3 (Q0w hb e2) fun yq4p g2 yq4q=>?_;obtain QA:=yq4p;refine ew2 yq4q fun ws n' yq4r=>?_;refine an2 yq4r fun b1 b2=>?_;clear yq4q yq4r
  exact kqd_isIn BZ (QFi (by rw [Q3i];exact g2) b1) QA QA (QCN d2 b2) (fun _ h=>h) (r.dat d1 ha) (fun _ h=>h) k2 k1 hu (q _ _ QA)
theorem Lm {a b:QU} {x y:QI} {P:QU->St->Prop} (hA:AOk A) (ha:VR Λ a x) (hb:VR Λ b y) (h:KC a b σ P):Zt c A X1 fm Λ (Q0t .NotIn x y) VR σ P:=by
 have hu:Q8Z+64 < QDo:=by have:=Q7v;exact Kt this
 refine Q1Y h fun k eb h=>?_;subst eb
 ·refine Q4u h fun ys e2 h=>?_
  refine ew2 h fun d es yq4s=>?_;refine an5 yq4s fun d1 d2 k1 k2 p=>?_;clear yq4s
  refine Xk p fun fz s Q E r q=>?_
  refine an3 (Q0w hb e2) fun yq4t g2 yq4u=>?_;obtain QA:=yq4t;refine ew2 yq4u fun ws n' yq4v=>?_;refine an2 yq4v fun b1 b2=>?_;clear yq4u yq4v
  exact kqd_notIn BZ (QFi (by rw [Q3i];exact g2) b1) QA QA (QCN d2 b2) (fun _ h=>h) (r.dat d1 ha) (fun _ h=>h) k2 k1 hu (q _ _ QA)
theorem KB {op:QHE} {a b:QU} {x y:QI} {P:QU->St->Prop} (hA:AOk A) (ha:VR Λ a x) (hb:VR Λ b y) (h:BK op a b σ P):Zt c A X1 fm Λ (Q0t op x y) VR σ P:=by
 cases op with
 | Eq=>exact TF hA ha hb h
 | QHD=>exact Tx hA ha hb h
 | Lt=>exact Tz ha hb h
 | LtE=>exact TA ha hb h
 | Gt=>exact TD ha hb h
 | GtE=>exact TE ha hb h
 | Is=>exact ON ha hb h
 | QFh=>exact Jw ha hb h
 | In=>exact TC hA ha hb h
 | NotIn=>exact Lm hA ha hb h
end
end
end Mini
end
section
open PySem PySem.W PySem.Calls PyProof.Rows
namespace Mini
mutual
def Db (g:ZS) (L:Qq) (h:ZS) (d:Qq):QC (Qq×ZG):=(AL g L h).Q9R fun p=>p.1 != d
theorem CF {g:ZS} {L:Qq} {h:ZS} {d b:Qq} {o:ZG}:(b,o)∈Db g L h d↔b≠d/\b≠L/\QCM b=QG/\Q05 b=QB o:=by
 unfold Db
 rw [QBg,BS]
 simp only [bne_iff_ne,ne_eq]
 exact ⟨fun ⟨a,b⟩=>⟨b,a⟩,fun ⟨a,b⟩=>⟨b,a⟩⟩
theorem Dp {g:ZS} {L:Qq} {h:ZS} {d:Qq}:∀p∈Db g L h d,p.1≠d:=fun p hp=>(CF.mp (show (p.1,p.2)∈_ from hp)).1
end
section
variable {c:Cx} {fz:Addr->Option Obj} {L:Addr} {Λ:Lab} {σ:St} {s:Shared}
mutual
theorem Rel.ledAt (R:Rel c fz L Λ σ s) {l:QH} (hl:l < QO) {co:ZG} (ho:Qc (Xs l)=QB co):News c.g L QV ((Xs l,co)::Db c.g L QV (Xs l)):=by
 have hl':l < Xi:=by rw [Q45];exact hl
 intro p hp
 rcases XT hp with QA | hp
 ·have:=BS.mp (R.mem hl' ho)
  exact ⟨this.2.2,this.1,this.2.1⟩
 ·have:=CF.mp (show (p.1,p.2)∈_ from hp)
  exact ⟨this.2.2.2,this.2.1,this.2.2.1⟩
theorem Eo {g:ZS} {L d:Qq} {h h':ZS} {m:X8->QW QI} {X:QC (Qq×ZG)} (F:Fr g L h m) (F':Fr g L h' m) (N:News g L h' (X++Db g L h d)):∀b o,b≠L->b≠d->Q05 b=QB o->ZB b=QB o:=fun b o hb hd e=>by
 cases hg:QCM b with
 | QB o' =>
  have:=F.keep b o' hg
  rw [e]at this
  cases this
  exact F'.keep b o hg
 | QG=>exact (N (b,o) (Q7X _ (CF.mpr ⟨hd,hb,hg,e⟩))).1
theorem Rel.turned (R:Rel c fz L Λ σ s) {l:QH} (hl:l < QO) {h':ZS} {tk:QH} {m:X8->QW QI} {o:Ob} {co':ZG} (F:Fr c.g L QV m) (F':Fr c.g L h' m) (N:News c.g L h' ((Xs l,co')::Db c.g L QV (Xs l))) (ho:OR XK c.w Λ o co') :
  Rel c fz L Λ (Yy l o) {s with YO:=h',Q0T:=tk}:=by
 have hl':l < Xi:=by rw [Q45];exact hl
 have hk:=Eo (X:=[(Xs l,co')]) F F' N
 have new:ZB (Xs l)=QB co':=(N _ (.Zf _)).1
 refine {nn:=Q45,ns:=?_,Q4c:=fun b o' e=>hk b o' (fun q=>?_) (fun q=>?_) (Q4F b o' e),Q8m:=Q5N,fzL:=Q6V,ob:=fun k hk'=>?_,fzl:=Q5s,lne:=Q5O,inj:=Q7M,Q4x:=Q3m,low:=Q6W,nsm:=Q92,os:=QDH,Q0P:=Q6F}
 ·refine ew1 QCI fun m1 yq4w=>?_;refine an2 yq4w fun h k=>?_;clear yq4w
  exact ⟨m,F'.ns,fun x=>by rw [Ns.uniq F.ns h];exact k x⟩
 ·rw [q,Q6V]at e;cases e
 ·rw [q,Q5s l hl']at e;cases e
 ·by_cases h:k=l
  ·subst h
   refine ⟨co',new,?_⟩
   have:(Yy k o).hp k=o:=QY QA
   rw [this];exact ho
  ·refine ew1 (Q6E k hk') fun o' yq4x=>?_;refine an2 yq4x fun h1 h2=>?_;clear yq4x
   refine ⟨o',hk _ _ (Q5O k hk') (fun q=>h (Q7M k l hk' hl' q)) h1,?_⟩
   have:(Yy l o).hp k=QS k:=QN h
   rw [this];exact h2
theorem Rel.tuplesV (R:Rel c fz L Λ σ s) {l:QH} {xs:QC QU} {a:QI} (hv:VR Λ (.QQ l) a) (h:QS l=.YM xs):a=.QQ (Xs l)/\l < QO/\∃vs n,Qc (Xs l)=QB {cls:=.Qk "tuple",YC:=.seq Xw n}/\VRs Λ xs vs:=by
 refine ew1 (Q6E l hv.1) fun o yq4y=>?_;refine an2 yq4y fun ho hor=>?_;clear yq4y
 rw [h]at hor
 obtain (⟨vs,n,QA,k⟩):=hor
 exact ⟨hv.2,by rw [<- Q45];exact hv.1,vs,n,ho,k⟩
theorem B1 {h:ZS} {a:Qq} {vs:QC QI} {n:QH} (e:Q05 a=QB {cls:=.Qk "tuple",YC:=.seq Xw n}):IsTup h a Xw:=⟨_,e,QA,n,QA⟩
end
end
mutual
def Nc (v:QU):PT Qu:=fun σ P=>match v with
 | .QG=>P QJ σ
 | .Ys b=>P b σ
 | .Qm i=>P (i != 0) σ
 | .Xt x=>QA0<=Xb/\P ((QA0:X4) != 0) σ
 | .QQ l=>(Af (QS l) fun xs=>Qn<=Xb/\P (!xs.isEmpty) σ)\/(AJ (QS l) fun ps _=>Zj<=Xb/\P (!QCP) σ)
 | .imm _=>Yn
def TR (v:QU):PT QU:=fun σ P=>(EI v fun x=>QA0<=Xb/\P (.Qm QA0) σ)\/(Ai v fun l=>(Af (QS l) fun xs=>Qn<=Xb/\P (.Qm Qn) σ) \/
 (AJ (QS l) fun xs _=>Qn<=Xb/\P (.Qm Qn) σ)\/(Cp (QS l) fun xs=>Qn<=Xb/\P (.Qm Qn) σ))
def FF (v i:QU):PT QU:=fun σ P=>(Ai v fun l=>Bi i fun k=>(-2 ^ 63<=k/\k < 2 ^ 63)/\((Af (QS l) fun xs=>∃j x,Q4G k Qn=QB j/\xs[j]?=QB x/\P x σ) \/
  (AJ (QS l) fun xs _=>∃j x,Q4G k Qn=QB j/\xs[j]?=QB x/\P (.Qm x.1) σ)\/(Cp (QS l) fun xs=>∃j x,Q4G k Qn=QB j/\xs[j]?=QB x/\P x σ))) \/
 (EI v fun x=>Bi i fun k=>(-2 ^ 63<=k/\k < 2 ^ 63)/\∃j ch,Q4G k QA0=QB j/\Q94[j]?=QB ch/\P (.Xt ⟨#[ch]⟩) σ)
theorem I8:∀(ps:QC (X4×Tok)) (vs:QC QI),Zj=Q0U->(!QCP)=!vs.toArray.isEmpty:=by
 intro ps vs h;cases ps <;> cases vs <;> first | rfl | (simp at h)
theorem Rel.flistsV {c:Cx} {fz:Qq->QW ZG} {L:Qq} {Λ:Lab} {σ:St} {s:QZ} (R:Rel c fz L Λ σ s) {l:QH} {ps:QC (X4×Tok)} {n:QH} {a:QI} (hv:VR Λ (.QQ l) a) (h:QS l=.Q4t ps n):a=.QQ (Xs l)/\l < QO/\∃vs n,Qc (Xs l)=QB (Q4e Xw n)/\∀Zd,VRs Zd (Q15 fun p=>.Qm p.1) vs:=by
 refine ew1 (Q6E l hv.1) fun o yq4z=>?_;refine an2 yq4z fun ho hor=>?_;clear yq4z
 rw [h]at hor
 refine ⟨hv.2,by rw [<- Q45];exact hv.1,_,n,hor▸ho,fun Zd=>?_⟩
 clear hor ho h
 induction ps with
 | Zo=>exact .Zo
 | Xx p r ih=>exact .Xx ⟨p.2,QA⟩ ih
end
section
variable {c:Cx} {A:Around} {env:Env} {fm:Fm} {Λ:Lab} {σ:St}
mutual
theorem CU:(Xb:X4) < 2 ^ 63:=by decide
theorem Ll {v:QU} {x:QI} {P:Qu->St->Prop} (hv:VR Λ v x) (h:Nc v σ P):Zt c A X1 fm Λ (QEZ x) ER σ P:=by
 cases v
 ·cases hv;exact Xk h fun fz s Q E r q=>truthy_none (q _ _ QA)
 ·cases hv;exact Xk h fun fz s Q E r q=>Q3k (q _ _ QA)
 ·obtain (⟨t,QA⟩):=hv;exact Xk h fun fz s Q E r q=>truthy_int (q _ _ QA)
 ·obtain (⟨t,QA⟩):=hv
  exact Xk h.2 fun fz s Q E r q=>PySem.P.truthy_str (Q7o (He h.1 QA)) (q _ _ QA)
 ·refine Qy (fun h=>Q4u h fun xs e h=>?_) fun h=>QH5 h fun xs m e h=>?_
  ·skip
   refine Xk h.2 fun fz s Q E r q=>?_
   refine an3 (Q0w hv e) fun yq4A g1 yq4B=>?_;obtain QA:=yq4A;refine ew2 yq4B fun vs n yq4C=>?_;refine an2 yq4C fun a1 a2=>?_;clear yq4B yq4C
   refine QA1 (Al a1) (He h.1 (Q7N Q23)) (q _ _ ?_)
   show _=_
   cases a2 <;> rfl
  ·skip
   refine Xk h.2 fun fz s Q E r q=>?_
   refine an3 (QAn hv e) fun yq4D g1 yq4E=>?_;obtain QA:=yq4D;refine ew2 yq4E fun vs n yq4F=>?_;refine an2 yq4F fun a1 a2'=>?_;clear yq4E yq4F
   have a2:=a2' Λ
   refine QA1 (Al a1) (by have:=CU;have:=h.1;have:=Zk;simp at *;exact YS (Vf h.1 (Ym (by assumption)) this)) (q _ _ ?_)
   show _=_
   exact I8 _ _ (by simpa using Zk)
 ·exact Qy
theorem Kz {v:QU} {x:QI} {P:QU->St->Prop} (hv:VR Λ v x) (h:TR v σ P):Zt c A X1 fm Λ (Q0Q (.Qd "len") [x]) VR σ P:=by
 have sz:=CU
 refine Qy (fun h=>EI.el h fun x ev h=>?_) fun h=>Q1Y h fun l ev h=>?_ <;> subst ev
 ·obtain (⟨t,QA⟩):=hv
  exact Xk h.2 fun fz s Q E r q=>len_str (Q7o (He h.1 QA)) (q _ _ ⟨_,QA⟩)
 ·refine Qy (fun h=>Q4u h fun xs e h=>?_) fun h=>Qy (fun h=>QH5 h fun xs m e h=>?_) fun h=>QH3 h fun xs e h=>?_
  ·skip
   refine Xk h.2 fun fz s Q E r q=>?_
   refine an3 (Q0w hv e) fun yq4G g1 yq4H=>?_;obtain QA:=yq4G;refine ew2 yq4H fun vs n yq4I=>?_;refine an2 yq4I fun a1 a2=>?_;clear yq4H yq4I
   refine len_list (Al a1) (He h.1 (Q7N Q23)) (q _ _ (by rw [XW,<- Zk];exact ⟨_,QA⟩))
  ·skip
   refine Xk h.2 fun fz s Q E r q=>?_
   refine an3 (QAn hv e) fun yq4J g1 yq4K=>?_;obtain QA:=yq4J;refine ew2 yq4K fun vs n yq4L=>?_;refine an2 yq4L fun a1 a2'=>?_;clear yq4K yq4L
   have a2:=a2' Λ
   refine len_list (Al a1) (by have:=h.1;have:=Zk;simp at *;exact YS (Ve (Ym sz) h.1 this)) (q _ _ (by rw [XW,<- Zk,QK];exact ⟨_,QA⟩))
  ·skip
   refine Xk h.2 fun fz s Q E r q=>?_
   refine an3 (QAo hv e) fun yq4M g1 yq4N=>?_;obtain QA:=yq4M;refine ew2 yq4N fun vs n yq4O=>?_;refine an2 yq4O fun a1 a2=>?_;clear yq4N yq4O
   refine len_tuple (B1 a1) (He h.1 (Q7N Q23)) (q _ _ (by rw [XW,<- Zk];exact ⟨_,QA⟩))
end
end
end Mini
end
section
open PySem
namespace Mini
noncomputable def B9 {α:Type} (e:Expr) (f:Str->Pos->α) (d:α):α:=by apply @Expr.casesOn (fun _=>α) e;(case Name=>exact f);all_goals ((repeat intro a);exact d)
noncomputable def To {α:Type} (e:Expr) (f:List Expr->α) (d:α):α:=by apply @Expr.casesOn (fun _=>α) e;(case Tuple=>exact fun ts _ _=>f ts);all_goals ((repeat intro a);exact d)
noncomputable def Ed {α:Type} (e:Expr) (f:Option Expr->Option Expr->Option Expr->α) (d:α):α:=by apply @Expr.casesOn (fun _=>α) e;(case Slice=>exact fun a b c _=>f a b c);all_goals ((repeat intro a);exact d)
noncomputable def Fg {α:Type} (e:Expr) (f:Expr->Str->Pos->α) (d:α):α:=by apply @Expr.casesOn (fun _=>α) e;(case Attribute=>exact f);all_goals ((repeat intro a);exact d)
noncomputable def Mi {α:Type} (e:Expr) (f:Expr->Expr->α) (d:α):α:=by apply @Expr.casesOn (fun _=>α) e;(case Subscript=>exact fun a b _=>f a b);all_goals ((repeat intro a);exact d)
noncomputable def xCall {α:Type} (e:Expr) (f:Expr->List Expr->List Keyword->Pos->α) (d:α):α:=by apply @Expr.casesOn (fun _=>α) e;(case Call=>exact f);all_goals ((repeat intro a);exact d)
noncomputable def B2 (e:Expr):Bool:=by apply @Expr.casesOn (fun _=>Bool) e;(case Starred=>exact fun _ _=>true);all_goals ((repeat intro a);exact false)
noncomputable def Bv (e:Expr):Bool:=by apply @Expr.casesOn (fun _=>Bool) e;(case Set=>exact fun _ _ _=>true);all_goals ((repeat intro a);exact false)
noncomputable def A3 (e:Expr):Bool:=by apply @Expr.casesOn (fun _=>Bool) e;(case ListComp=>exact fun _ _ _ _=>true);(case SetComp=>exact fun _ _ _ _=>true);(case DictComp=>exact fun _ _ _ _ _=>true);all_goals ((repeat intro a);exact false)
noncomputable def Cf (e:Expr):Bool:=Ed e (fun _ _ _=>true) false
noncomputable def Td (e:Expr):Bool:=To e (fun _=>true) false
noncomputable def T7 (e:Expr):Bool:=Fg e (fun _ _ _=>true) false
end Mini
end
section
open PySem PySem.W PySem.Calls PyProof.Rows
namespace Mini
theorem AP {i:Expr} (h:Cf i=false) (o v:Value):subscripted i false o v=PySem.operate [o,v] (getItem o v):=by
 cases i <;> first | rfl | exact absurd h.symm Bool.false_ne_true
section
variable {prog:Program} {w:World} {A:Around} {E:Value->Shared->Prop} {s:Shared}
theorem Dd {value slice:Expr} {o i:Value} {T id:String} {ops:List Value} {Q:Value->Shared->Prop} (hT:s.TypeIs o T)
  (hl:typeLookup (.type T) "__getitem__"=pure (some (.builtin id))) (h:wpAny (model prog w) A (getItem o i) Q E s)
  (hs:subscripted slice false o i=PySem.operate ops (getItem o i)):wpAny (model prog w) A (subscriptTail value slice o i) Q E s:=by
 unfold subscriptTail
 refine wpAny_bind ?_
 rw [getitemInPython_of_ne hT.not_modules]
 refine wpAny_bind (wpAny_specialOf hT hl ?_)
 have fin:wpAny (model prog w) A (subscripted slice false o i) (fun r s₃=>wpAny (model prog w) A (letTemporaryGo value o r >>= fun _=>pure r) Q E s₃) E s:=by
  rw [hs]
  exact wpAny_operating (wpAny_mono h (fun r s₃ h₃=>wpAny_bind (wpAny_letTemporaryGo (wpAny_pure h₃))) fun _ _ x=>x)
 first
  | exact wpAny_pure (wpAny_bind fin)
  | exact wpAny_bind (wpAny_pure (wpAny_bind fin))
  | exact wpAny_bind fin
end
mutual
theorem Dx {k:X4} {n j:QH} (h:Q4G k n=QB j):(0<=k/\j=k.toNat/\k.toNat < n)\/(k < 0/\-(n:X4)<=k/\j=(k+n).Q1Z):=by
 injections k n j _
 unfold Q4G at h
 dsimp only at h
 split at h <;> rename_i hk
 ·split at h
  ·rename_i q
   simp only [X9,Xm]at q
   right;cases h;exact ⟨hk,by omega,QA⟩
  ·cases h
 ·split at h
  ·rename_i q
   simp only [X9,Xm]at q
   left;cases h;exact ⟨Q6D hk,QA,(QET (Q6D hk)).mpr q.2⟩
  ·cases h
def Bm {α:Type} (xs:QC α) (lo hi st:QW X4):QC α:=(sliceRange (QBX lo hi st Qn).1 (QBX lo hi st Qn).2.1 (QBX lo hi st Qn).2.2).QDm fun i=>xs[i]?
theorem VRs.pick {Λ:Lab} {xs:QC QU} {vs:QC QI} (h:VRs Λ xs vs) (l:QC QH):VRs Λ (QFj fun i=>xs[i]?) (QFj fun i=>vs[i]?):=by
 injections Λ xs vs _ l
 induction l with
 | Zo=>exact .Zo
 | Xx i l ih =>
  injections i l ih zI
  rw [Q8n,Q8n]
  cases e:xs[i]? with
  | QB v =>
   injections v zI
   obtain ⟨c,e',hc⟩:=(h.get e)
   rw [e'];exact .Xx hc ih
  | QG =>
   have:vs[i]?=QG:=by
    rw [Q5h]at e ⊢;rw [<- h.length];exact e
   rw [this];exact ih
theorem CT (vs:QC QI) (lo hi st:QW X4):QAp Xw lo hi st=(Bm vs lo hi st).Xe:=by
 unfold QAp Bm
 simp
def Bq:QU->QW (QW X4)
 | .QG=>QB QG
 | .Qm i=>QB (QB i)
 | _=>QG
theorem Df {Λ:Lab} {v:QU} {x:QI} {p:QW X4} (h:Bq v=QB p) (hv:VR Λ v x):IsPart x p:=by
 cases v
 case QG=>cases X2 (show QB QG=QB p from h);cases hv;exact .QG
 case Qm i=>cases X2 (show QB (QB i)=QB p from h);obtain (⟨t,QA⟩):=hv;exact .Qm _ _
 all_goals exact nomatch (show QG=QB p from h)
def Bs (v lo hi st:QU):PT QU:=fun σ P=>Ai v fun l =>
 (Af (QS l) fun xs=>Ad (Bq lo) fun a=>Ad (Bq hi) fun b=>Ad (Bq st) fun k=>k≠QB 0/\Qn<=Xb/\P (.QQ QO) (Qw (.Qs (Bm xs a b k)))) \/
 (AJ (QS l) fun ps _=>Ad (Bq lo) fun a=>Ad (Bq hi) fun b=>Ad (Bq st) fun k=>k≠QB 0/\Zj<=Xb/\P (.QQ QO) (Qw (.Qs (Bm (Q15 fun p=>.Qm p.1) a b k))))
end
section
variable {c:Cx} {A:Around} {env:Env} {fm:Fm} {Λ:Lab} {σ:St}
mutual
theorem MW {Q95 slice:Qf} {v i:QU} {x y:QI} {P:QU->St->Prop} (hs:Cf slice=QJ) (hv:VR Λ v x) (hi:VR Λ i y) (h:FF v i σ P):Zt c A X1 fm Λ (QDK Q95 slice x y) VR σ P:=by
 refine Qy (fun h=>Q1Y h fun l ev h=>QBT h fun k ei h=>?_) fun h=>EI.el h fun s ev h=>QBT h fun k ei h=>?_ <;> subst ev ei
 ·obtain (⟨u,QA⟩):=hi
  obtain (⟨hb,h⟩):=h
  refine Qy (fun h=>Q4u h fun xs e yq4Q=>?_) fun h=>Qy (fun h=>QH5 h fun xs m e yq4W=>?_) fun h=>QH3 h fun xs e yq51=>?_
  ·refine ew2 yq4Q fun j z yq4R=>?_;refine an3 yq4R fun h1 h2 p=>?_;clear yq4Q yq4R
   refine Zq fun fz s ok r Q E q=>?_
   refine an3 (Q0w hv e) fun yq4S g1 yq4T=>?_;obtain QA:=yq4S;refine ew2 yq4T fun vs n yq4U=>?_;refine an2 yq4U fun a1 a2=>?_;clear yq4T yq4U
   refine ew1 (a2.get h2) fun cz yq4V=>?_;refine an2 yq4V fun h3 h4=>?_;clear yq4V
   refine Dd (Al a1).typeIs Q32 ?_ (AP hs _ _)
   have fin:=q Λ s z cz σ (.Q1J _) p h4 r
   rcases Dx h1 with ⟨k1,QA,k3⟩ | ⟨k1,k2,QA⟩
   ·exact Q9S (Al a1) k1 hb.2 (by simpa using h3) fin
   ·exact Q6t (Al a1) k1 (by rw [XW,<- Zk];exact k2) hb.1 (by have:=Zk;simpa [this] using h3) fin
  ·refine ew2 yq4W fun j z yq4X=>?_;refine an3 yq4X fun h1 h2 p=>?_;clear yq4W yq4X
   refine Zq fun fz s ok r Q E q=>?_
   refine an3 (QAn hv e) fun yq4Y g1 yq4Z=>?_;obtain QA:=yq4Y;refine ew2 yq4Z fun vs n yq50=>?_;refine an2 yq50 fun a1 a2'=>?_;clear yq4Z yq50
   have a2:=a2' Λ
   obtain (⟨cz,h3,h4⟩):=a2.get (i:=j) (v:=.Qm z.1) (by rw [QT,h2];rfl)
   refine Dd (Al a1).typeIs Q32 ?_ (AP hs _ _)
   have fin:=q Λ s (.Qm z.1) cz σ (.Q1J _) p h4 r
   have hl:=Zk
   rw [QK]at hl
   rcases Dx h1 with ⟨k1,QA,k3⟩ | ⟨k1,k2,QA⟩
   ·exact Q9S (Al a1) k1 hb.2 (by simpa using h3) fin
   ·exact Q6t (Al a1) k1 (by rw [XW,<- hl];exact k2) hb.1 (by simpa [hl] using h3) fin
  ·refine ew2 yq51 fun j z yq52=>?_;refine an3 yq52 fun h1 h2 p=>?_;clear yq51 yq52
   refine Zq fun fz s ok r Q E q=>?_
   refine an3 (QAo hv e) fun yq53 g1 yq54=>?_;obtain QA:=yq53;refine ew2 yq54 fun vs n yq55=>?_;refine an2 yq55 fun a1 a2=>?_;clear yq54 yq55
   refine ew1 (a2.get h2) fun cz yq56=>?_;refine an2 yq56 fun h3 h4=>?_;clear yq56
   refine Dd (B1 a1).typeIs slot_tuple_getitem.lookup ?_ (AP hs _ _)
   exact getItem_tuple (B1 a1) hb.1 hb.2 (by rw [XW,<- Zk];exact h1) (by simpa using h3) (q Λ s z cz σ (.Q1J _) p h4 r)
 ·obtain (⟨t,QA⟩):=hv;obtain (⟨u,QA⟩):=hi
  refine an2 h fun hb yq57=>?_;refine ew2 yq57 fun j ch yq58=>?_;refine an3 yq58 fun h1 h2 p=>?_;clear yq57 yq58
  refine Xk p fun fz s Q E r q=>?_
  refine Dd (T:="str") QA F.slot_str_getitem.lookup ?_ (AP hs _ _)
  exact PySem.P.getItem_str (afW hb) (by rw [h1];exact h2) (q _ _ ⟨_,QA⟩)
theorem OP {Q95:Qf} {lo hi st:QW Qf} {XJ:Pos} {v a b k:QU} {x va vb vk:QI} {P:QU->St->Prop} {fz:Qq->QW ZG} {s:QZ} {Q:QI->QZ->Prop} {E:QI->QZ->Prop}
  (r:Rel c fz Qo Λ σ s) (hv:VR Λ v x) (ha:VR Λ a va) (hb:VR Λ b vb) (hk:VR Λ k vk) (h:Bs v a b k σ P)
  (q:∀Zd s' b a XH,Q0C Zd->P b XH->VR Zd b a->Rel c fz Qo Zd XH s'->Q a s') :
  Qp (Qi XK c.w) A (QDK Q95 (.QBY lo hi st XJ) x (.QQ QD)) Q E {s with YO:=XM {cls:=.Qk "slice",YC:=.Xp #[va,vb,vk]}}:=by
 injections c A X1 Λ σ Q95 lo hi st XJ v a b k x va vb vk P fz s Q E _ _ _ _ _ _ _
 refine Q1Y h ?_;intros l ev h;subst ev
 ·refine Qy ?_ ?_
  ·intros h;refine Q4u h ?_;intros xs e1 h;refine Q2x h ?_;intros p1 e2 h;refine Q2x h ?_;intros p2 e3 h;refine Q2x h ?_;intros p3 e4 h
   skip
   obtain ⟨h0,hz,p⟩:=h
   obtain ⟨QA,g1,vs,n,a1,a2⟩:=(Q0w hv e1)
   have hl:=Al a1
   have fin:Q (.QQ (XM {cls:=.Qk "slice",YC:=.Xp #[va,vb,vk]}).YT) {s with YO:=(XM {cls:=.Qk "slice",YC:=.Xp #[va,vb,vk]}).Q6G {cls:=.Qk "list",YC:=.seq (QAp Xw p1 p2 p3)}}:=by
    have r1:Rel c fz Qo Λ σ {s with YO:=XM {cls:=.Qk "slice",YC:=.Xp #[va,vb,vk]}}:=Q6H (tk:=Y6) (dr:=Q1I) fun b o e=>Qa _ e
    refine q (Z9 _) _ _ _ _ (XN _ _) p (Q1l _ Q3i) (QA2 (tk:=Y6) ⟨Bm vs p1 p2 p3,0,?_,?_⟩ QA)
    ·rw [CT]
    ·unfold Bm
     rw [Zk]
     exact (a2.pick _).ext (XN _ _)
   have zO:∃ops,QFk (.QBY lo hi st XJ) QJ (.QQ (Xs l)) (.QQ QD)=Q93 ops (getItem (.QQ (Xs l)) (.QQ QD)):=by
    cases st
    ·exact ⟨_,QA⟩
    ·exact ⟨_,QA⟩
   obtain ⟨ops,ho⟩:=zO
   refine Dd (Q9T (s:={s with YO:=XM {cls:=.Qk "slice",YC:=.Xp #[va,vb,vk]}}) (QEa _)) Q32 ?_ ho
   exact Q6I (QEa _) (Q9U ..) (Df e2 ha) (Df e3 hb) (Df e4 hk) h0 fin (by rw [XW,<- Zk];exact hz)
  intros h;refine QH5 h ?_;intros ps m e1 h;refine Q2x h ?_;intros p1 e2 h;refine Q2x h ?_;intros p2 e3 h;refine Q2x h ?_;intros p3 e4 h
  ·skip
   obtain ⟨h0,hz,p⟩:=h
   obtain ⟨QA,g1,vs,n,a1,a2'⟩:=(QAn hv e1)
   have a2:=a2' Λ
   have Q2Y:=Zk
   rw [QK]at Q2Y
   have hl:=Al a1
   have fin:Q (.QQ (XM {cls:=.Qk "slice",YC:=.Xp #[va,vb,vk]}).YT) {s with YO:=(XM {cls:=.Qk "slice",YC:=.Xp #[va,vb,vk]}).Q6G {cls:=.Qk "list",YC:=.seq (QAp Xw p1 p2 p3)}}:=by
    have r1:Rel c fz Qo Λ σ {s with YO:=XM {cls:=.Qk "slice",YC:=.Xp #[va,vb,vk]}}:=Q6H (tk:=Y6) (dr:=Q1I) fun b o e=>Qa _ e
    refine q (Z9 _) _ _ _ _ (XN _ _) p (Q1l _ Q3i) (QA2 (tk:=Y6) ⟨Bm vs p1 p2 p3,0,?_,?_⟩ QA)
    ·rw [CT]
    ·unfold Bm
     rw [Zk]
     exact (a2.pick _).ext (XN _ _)
   have zO:∃ops,QFk (.QBY lo hi st XJ) QJ (.QQ (Xs l)) (.QQ QD)=Q93 ops (getItem (.QQ (Xs l)) (.QQ QD)):=by
    cases st
    ·exact ⟨_,QA⟩
    ·exact ⟨_,QA⟩
   obtain ⟨ops,ho⟩:=zO
   refine Dd (Q9T (s:={s with YO:=XM {cls:=.Qk "slice",YC:=.Xp #[va,vb,vk]}}) (QEa _)) Q32 ?_ ho
   exact Q6I (QEa _) (Q9U ..) (Df e2 ha) (Df e3 hb) (Df e4 hk) h0 fin (by rw [XW,<- Q2Y];exact hz)
end
end
end Mini
end
section
open PySem PySem.W PySem.Calls PyProof.Rows
namespace Mini
mutual
theorem Fq {e:Qf} {QA3:QC Qf} {X1:Env} (h:B2 e=QJ):Q3D (e::QA3) X1=(QJ,Q2p e X1)::Q3D QA3 X1:=by
 cases e <;> first | rfl | exact XF QGi Qj
def Am (es:QC Qf):Qu:=es.all fun e=>!B2 e
theorem AN {XJ:Pos}:∀ {es:QC Qf} {X1:Env},Am es=QM->Q7w XJ (Q3D es X1)=QEb fun e=>(QJ,Q2p e X1)
 | [],_,_=>QA
 | e::es,X1,h=>by
  simp only [Am,QDL,X9,ZD]at h
  rw [Fq h.1]
  show (QJ,Q2p e X1)::Q7w XJ (Q3D es X1)=_
  rw [AN (show Am es=QM from h.2)];rfl
def A6 (ev:Qf->PT QU):QC Qf->PT (QC QU)
 | [],σ,P=>P [] σ
 | e::es,σ,P=>ev e σ fun v σ=>A6 ev es σ fun vs σ=>P (v::vs) σ
end
section
variable {c:Cx} {A:Around} {env:Env} {fm:Fm} {Λ:Lab} {σ:St}
mutual
theorem CV {f:Qf->PT QU} (hf:∀e Λ σ P,f e σ P->Zt c A X1 fm Λ (Q2p e X1) VR σ P):∀(es:QC Qf) (Λ:Lab) (σ:St) (P:QC QU->St->Prop),A6 f es σ P ->
  Zt c A X1 fm Λ (spliced (QEb fun e=>(QJ,Q2p e X1))) VRs σ P
 | [],Λ,σ,P,h=>Zh (b:=[]) h .Zo
 | e::es,Λ,σ,P,h=>by
  refine YN (R:=VR) (P:=fun v σ=>A6 f es σ fun vs σ=>P (v::vs) σ) (hf e Λ σ _ h) fun Zd v a XH ext p hv=>?_
  refine YN (R:=ER) (P:=fun (l:QC QI) s=>l=[a]/\s=XH) (Zh (b:=[a]) ⟨QA,QA⟩ QA) fun Λ2 b' a' σ2 QDM p2 hv2=>?_
  obtain (⟨QA,QA⟩):=p2
  cases hv2
  refine YN (R:=VRs) (P:=fun vs σ=>P (v::vs) σ) (ZK (CV hf es Λ2 σ2 _ p)) fun QFc vs as Q5g ext' p' hvs=>?_
  exact Zh (b:=v::vs) p' (.Xx ((QAq QDM).ext ext') hvs)
theorem MY {f:Qf->PT QU} (hf:∀e Λ σ P,f e σ P->Zt c A X1 fm Λ (Q2p e X1) VR σ P) {fv:QI} {es:QC Qf} {XJ:Pos} {P:QC QU->St->Prop} (hs:Am es=QM) (h:A6 f es σ P) :
  Zt c A X1 fm Λ (evalArgs fv QM (Q7w XJ (Q3D es X1)) []) (fun Λ vs (a:Args)=>VRs Λ vs a.pos/\a.kw=[]) σ P:=fun fz s Q E ok r q=>by
 rw [AN hs]
 cases es with
 | Zo=>exact evalArgs_nil3 (q Λ s [] ⟨[],[]⟩ σ (.Q1J _) h ⟨.Zo,QA⟩ r)
 | Xx e es =>
  exact QCQ (CV hf (e::es) Λ σ P h fz s _ E ok r fun Zd s' vs as XH ext p hvs r'=>q Zd s' vs ⟨as,[]⟩ XH ext p ⟨hvs,QA⟩ r')
def agf (K:Q1B) (u:QI):Prop:=match u with
 | .Qd _=>Q44
 | .Qk _=>Q44
 | .QQ a=>keepIn K (.QQ a)=QM\/∃d vs sl,QA4 a=QB ⟨.Qk "builtin_function_or_method",d,.Xp vs,sl⟩
 | _=>Yn
def Bw (K:Q1B) (σ:St) (v:QU):Prop:=match v with
 | .imm u=>agf K u
 | .QQ l=>(FH (QS l) fun _ _=>Q44)\/Cr (QS l) fun mk _=>∀a,∃fd,(mk a).YC=.Q7j fd
 | _=>Yn
theorem Lx (hc:Q3S) {fz:Qq->QW ZG} {s:QZ} (r:Rel c fz Qo Λ σ s) {f:QU} {x:QI} (hx:VR Λ f x) (h:Bw c.K σ f) :
  ∃k,(k=QA5\/k=Q7x\/k=Q5t)/\ZO (Qi XK c.w) QV (QFl x) k:=by
 cases f
 case imm u =>
  cases u
  case Qd=>cases hx;exact ⟨.QBw,.inr (.inl QA),QDp⟩
  case Qk=>cases hx;exact ⟨.QBw,.inr (.inl QA),QDp⟩
  case QQ =>
   cases hx
   refine Q6s h (fun h=>?_) fun h=>?_
   ·exact keeps_K h _ (ZR Q0K)
   ·obtain (⟨d,vs,sl,h⟩):=h
    refine ⟨.QBw,.inr (.inl QA),(Q1m (part:=QG) (ZR Q0K _ _ h)).Q2q ?_⟩
    exact Q3E QA
  all_goals exact Qy
 case QQ l =>
  refine Q6s h (fun h=>FH.el h fun id v e h=>?_) fun h=>Cr.el h fun mk lc e h=>?_
  ·skip
   refine ew1 (Q3C l hx.1) fun o yq5f=>?_;refine an2 yq5f fun ho hor=>?_;clear yq5f
   rw [e]at hor
   obtain (⟨cv,hh,_⟩):=hor
   rw [hx.2]
   refine ⟨.QBw,.inr (.inl QA),(Q1m (part:=QG) ho).Q2q ?_⟩
   rcases hh with QA | QA <;> exact Q3E QA
  ·refine ew1 (Q3C l hx.1) fun o yq5g=>?_;refine an2 yq5g fun ho hor=>?_;clear yq5g
   rw [e]at hor
   obtain (⟨_,QA⟩):=hor
   obtain (⟨fd,hfd⟩):=h (Xs lc)
   rw [hx.2]
   refine ⟨.QCR,.inl QA,(Q1m (part:=QG) ho).Q2q ?_⟩
   rw [hfd]
   exact Q3E QA
 all_goals exact Qy
theorem DP (hc:Q3S) {f:Qf->PT QU} (hf:∀e Λ σ P,f e σ P->Zt c A X1 fm Λ (Q2p e X1) VR σ P) {fv:QU} {x:QI} {first:QC QU} {fx:QC QI} {es:QC Qf} {XJ:Pos} {P:QU->St->Prop} {YX:QU->QC QU->PT QU}
  (hcal:∀Λ σ P vs as x,VR Λ fv x->VRs Λ vs as->YX fv vs σ P->Zt c A X1 fm Λ (Q0Q x as) VR σ P)
  (hx:VR Λ fv x) (hfx:VRs Λ first fx) (hs:Am es=QM) (h:A6 f es σ fun vs σ=>Bw c.K σ fv/\YX fv (first++vs) σ P) :
  Zt c A X1 fm Λ (callWith XJ x fx (Q7w XJ (Q3D es X1)) []) VR σ P:=fun fz s Q E ok r q=>by
 have QGj:((Q7w XJ (Q3D es X1)).any (·.1) || ([]:QC (QW X8×Sem QI)).any (·.1.QCO))=QJ:=by
  rw [AN hs];simp
 refine QFm (P:=fun h=>∃k,(k=QA5\/k=Q7x\/k=Q5t)/\ZO (Qi XK c.w) h (QFl x) k) QGj (fun _ h=>h) ?_
 refine MY hf hs h fz s _ E ok r fun Zd s' vs a XH ext p hvs r'=>?_
 obtain (⟨h1,h2⟩):=hvs
 rw [h2]
 exact ⟨Lx hc r' (Q7y ext) p.1,hcal Zd XH P _ _ _ (Q7y ext) ((hfx.ext ext).Q7z h1) p.2 fz s' Q E (Yq ext) r' fun QFc s'' b a Q5g ext' p' hr r''=>q QFc s'' b a Q5g (QDq ext') p' hr r''⟩
end
end
end Mini
end
section
open PySem PySem.W PySem.Calls PyProof.Rows
set_option genInjectivity false
set_option genSizeOf false
namespace Mini
mutual
def Ak (Y5:QC (Yh×QU)) (k:Yh):QW QU:=(Q8a fun kv=>kv.1=k).map (·.2)
def Ce (Y5:QC (Yh×QU)) (k:Yh) (v:QU):QC (Yh×QU):=if QHF (fun kv=>XY (kv.1=k)) then Q2o (fun kv=>if kv.1=k then (kv.1,v) else kv) else Y5++[(k,v)]
def EL (Y5:QC (Yh×QU)) (k:Yh):QC (Yh×QU):=kvs.filter fun kv=>!XY (kv.1=k)
inductive KVR (Λ:Lab):QC (Yh×QU)->QC (Yh×QI)->Prop
 | Zo:KVR Λ [] []
 | Xx {k:Yh} {v:QU} {c:QI} {r:QC (Yh×QU)} {q:QC (Yh×QI)}:VR Λ v c->KVR Λ r q->KVR Λ ((k,v)::r) ((k,c)::q)
theorem QGk {Λ:Lab}:∀ {Y5:QC (Yh×QU)} {cvs:QC (Yh×QI)},Q5r (·.1)=Q2o (·.1)->VRs Λ (Q2o (·.2)) (Q5r (·.2))->KVR Λ Y5 cvs
 | [],[],_,_=>.Zo
 | [],_::_,h,_=>by simp at h
 | _::_,[],h,_=>by simp at h
 | (k,v)::r,(k',c)::q,h,h'=>by
  simp only [XV,List.cons.injEq]at h
  obtain (⟨QA,h⟩):=h
  cases h' with | Xx a b=>exact .Xx a (QGk h b)
theorem KVR.keys {Λ:Lab} {Y5:QC (Yh×QU)} {cvs:QC (Yh×QI)} (h:KVR Λ Y5 cvs):Q5r (·.1)=Q2o (·.1):=by
 induction h with
 | Zo=>rfl
 | Xx _ _ ih=>simp [ih]
theorem KVR.vals {Λ:Lab} {Y5:QC (Yh×QU)} {cvs:QC (Yh×QI)} (h:KVR Λ Y5 cvs):VRs Λ (Q2o (·.2)) (Q5r (·.2)):=by
 induction h with
 | Zo=>exact .Zo
 | Xx a _ ih=>exact .Xx a ih
theorem KVR.length {Λ:Lab} {Y5:QC (Yh×QU)} {cvs:QC (Yh×QI)} (h:KVR Λ Y5 cvs):Yu=Q6u:=by
 induction h with
 | Zo=>rfl
 | Xx _ _ ih=>simp [ih]
theorem KVR.get {Λ:Lab} {Y5:QC (Yh×QU)} {cvs:QC (Yh×QI)} (h:KVR Λ Y5 cvs) (k:Yh):OV Λ (Ak Y5 k) (Q4V cvs k):=by
 induction h with
 | Zo=>trivial
 | @Xx k' v c r q a b ih =>
  unfold Ak Q4V at *
  rw [Q18,Q18]
  by_cases e:k'=k
  ·simp [e];exact a
  ·simp [e];simpa using ih
theorem KVR.any {Λ:Lab} {Y5:QC (Yh×QU)} {cvs:QC (Yh×QI)} (h:KVR Λ Y5 cvs) (k:Yh):QHF (fun kv=>XY (kv.1=k))=cvs.any (fun kv=>XY (kv.1=k)):=by
 induction h with
 | Zo=>rfl
 | Xx _ _ ih=>simp only [Q6J,ih]
theorem KVR.set {Λ:Lab} {Y5:QC (Yh×QU)} {cvs:QC (Yh×QI)} (h:KVR Λ Y5 cvs) (k:Yh) {v:QU} {c:QI} (hv:VR Λ v c):KVR Λ (Ce Y5 k v) (QCS cvs k c):=by
 injections Λ Y5 cvs _ k v c _
 have h1:KVR Λ (Q2o (fun kv=>if kv.1=k then (kv.1,v) else kv)) (Q5r (fun kv=>if kv.1=k then (kv.1,c) else kv)):=by
  induction h with
  | Zo=>exact .Zo
  | @Xx k' v' c' r q a b ih =>
   simp only [XV]
   by_cases e:k'=k
   ·simp only [e,Q5u];exact .Xx hv ih
   ·simp only [e,Zi];exact .Xx a ih
 have h2:KVR Λ (Y5++[(k,v)]) (cvs++[(k,c)]):=by
  clear h1
  induction h with
  | Zo=>exact .Xx hv .Zo
  | Xx a b ih=>exact .Xx a ih
 unfold Ce QCS
 rw [h.any k]
 split
 ·exact h1
 ·exact h2
theorem KVR.del {Λ:Lab} {Y5:QC (Yh×QU)} {cvs:QC (Yh×QI)} (h:KVR Λ Y5 cvs) (k:Yh):KVR Λ (EL Y5 k) (QHG cvs k):=by
 unfold EL QHG
 induction h with
 | Zo=>exact .Zo
 | @Xx k' v' c' r q a b ih =>
  rw [Q1n,Q1n]
  by_cases e:k'=k
  ·simp [e];simpa using ih
  ·simp [e];exact .Xx a (by simpa using ih)
end
section
variable {prog:Program} {w:World} {K:Type} [DecidableEq K] {knd:PySem.KeyKind prog w K} {A:Around} {E:Value->Shared->Prop} {s:Shared}
mutual
theorem Eh {d:Qq} {Y5:QC (K×QI)} {k:K} {key v:QI} {Q:QI->QZ->Prop} (Q53:Q3n k key=QM) (hm:Q4W knd d Y5)
  (QAr:∀u,Q4V Y5 k=QB u->Q u {s with Q0T:=Y6+1})
  (hQ:Q4V Y5 k=QG->∀h',QDr knd d (QCS Y5 k v)->ZC d QV h'->Q v {s with YO:=h',Q0T:=Y6+1})
  (hsz:Yu<=Xb) :
  Qp (Qi XE w) A (QCT d key v) Q E s:=by
 have hmap:=hm.mapOf
 obtain (⟨o,es,ep,ho,hc,hd,hk,hp,hn⟩):=hm
 have hes:ZA<=Xb:=by
  have e1:=hp.length;have e2:es.toList.length=ZA:=by simp
  exact aee hsz e1 e2
 refine Xa ?_
 refine Q9 (QCU Q53 ?_)
 refine Q9 (wpAny_dictFind_of (s:={s with Q0T:=Y6+1}) Q53 ho hd hk ?_)
 have hidx:(QFn fun e=>Q3n k e.key)=kvs.findIdx? fun kv=>XY (kv.1=k):=by
  rw [<- hp.findIdx k];obtain (⟨l⟩):=es;simp
 cases hi:QFn fun e=>Q3n k e.key with
 | QB i =>
  have hl:(es.toList.findIdx? fun e=>Q3n k e.key)=QB i:=by rw [<- hi];obtain (⟨l⟩):=es;simp
  refine ew1 (hp.at hl) fun e yq5h=>?_;refine an3 yq5h fun he hek hev=>?_;clear yq5h
  refine Q9 (wpAny_dictEntries (s:={s with Q0T:=Y6+1}) ho hd ?_)
  have he':es[i]?=QB e:=by rw [<- he];obtain (⟨l⟩):=es;simp
  rw [he']
  exact Q9 (Q0b (QF (QAr e.val hev)))
 | QG =>
  have hnot:k∉Q2o (·.1):=not_mem_of_findIdx_none (hidx▸hi)
  have hany:¬(QHF fun kv=>XY (kv.1=k))=QM:=by
   rw [Q4H];rintro ⟨kv,hkv,he⟩
   exact hnot (Q0G ⟨kv,hkv,YG he⟩)
  have hva:Q4V Y5 k=QG:=by
   unfold Q4V
   rw [Q3o,Q3T]
   intro x hx q
   exact hnot (Q0G ⟨x,hx,by simpa using q⟩)
  refine Q9 (Q0b (Q9 (wpAny_updateDictKeys (hz:=hes) (s:={s with Q0T:=Y6+1}) ho hd (QF (hQ hva _ ⟨_,_,ep+1,XS _ ho (Obj.isFreed_of_dict (Q80 hd _)),
   hc.mapDictKeys _,Q80 hd _,hk.push Q53 _,?_,?_⟩ (XX ..))))))
  ·rw [QCS,QN hany]
   have:=hp.append Q53 (Q3p k) v
   obtain (⟨l⟩):=es
   simpa using this
  ·rw [QCS,QN hany,Qt,Q5v]
   refine ⟨hn,by simp,?_⟩
   intro a ha b hb
   simp only [XV,Q54,Xj]at hb
   subst hb
   exact fun e=>hnot (e▸ha)
theorem E3 {d:Qq} {Y5:QC (K×QI)} {k:K} {key v:QI} {Q:QI->QZ->Prop} (Q53:Q3n k key=QM) (hm:Q4W knd d Y5) (hds:(d == Q3R)=QJ)
  (QAr:∀u,Q4V Y5 k=QB u->Q u {s with Q0T:=Y6+1})
  (hQ:Q4V Y5 k=QG->∀h',QDr knd d (QCS Y5 k v)->ZC d QV h'->Q v {s with YO:=h',Q0T:=Y6+1})
  (hsz:Yu<=Xb):Qp (Qi XE w) A (Q0Q (.Qd "dict.setdefault") [.QQ d,key,v]) Q E s:=by
 refine Y3 Q4n hm.typeIs PySem.F.entry_dict_setdefault ?_ (PySem.F.args_dict_setdefault_3 _ _ _)
 unfold Builtin.«dict.setdefault»
 refine Q9 ?_
 refine Q9 (wpAny_notOrdered_dict hm.typeIs ?_)
 refine QF ?_
 show Qp _ _ (if (d == Q3R)=QM then _ else (QCT d key v >>= _)) _ _ s
 rw [QN (by rw [hds];exact Qj)]
 exact Q9 (Eh Q53 hm (fun u hu=>QF ⟨u,QA,QAr u hu⟩) (fun hn h' hd' hs=>QF ⟨v,QA,hQ hn h' hd' hs⟩) hsz)
theorem Gy {d:Qq} {Y5:QC (K×QI)} {k:K} {key:QI} {Q:Yb->QZ->Prop} (Q53:Q3n k key=QM) (hD:Q4W knd d Y5) (hl:(Q4V Y5 k).QAk=QM) (hsz:Yu<=Xb)
  (h:∀h',QDr knd d (QHG Y5 k)->ZC d QV h'->Q () {s with YO:=h',Q0T:=Y6+1}):Qp (Qi XE w) A (QHH (.QQ d) key) Q E s:=by
 unfold QHH
 try with_reducible refine Xa ?_
 refine Q9 (wpAny_sequenceKey Q8b (by decide) ?_)
 refine Q9 (YK (Q1z:=Qb "__delitem__") Q8b Q5i
  (QA6 Q5i Q8b PySem.F.entry_dict_delitem (PySem.F.args_dict_delitem_2 _ _) (meets_dict_delitem_pairs knd d Q53) ⟨Y5,hD,hsz,hl,fun h' hmm hs=>?_⟩))
 exact QF (h h' hmm hs)
end
end
end Mini
end
section
open PySem PySem.W PySem.Calls PyProof.Rows
set_option genInjectivity false
set_option genSizeOf false
set_option maxRecDepth 8000
set_option maxHeartbeats 1000000
namespace Mini
mutual
theorem F0:Q3q QA7 "set.__iter__"=QB Builtin.«frozenset.__iter__» :=
 Q3r (id':="frozenset.__iter__") (by kernel_rfl) (by decide +XD) (by decide +XD) (by kernel_rfl)
theorem AM:QFo "set_iterator" "__next__" "set_iterator.__next__" :=
 .of (Q7q:="set_iterator") (n:="__next__") (by rw [YH,Xf];kernel_rfl) (by decide +XD) (by decide +XD) (by decide +XD)
  (by first | exact .inl (by decide +XD) | exact .inr (by decide +XD)) (by rw [YY];kernel_rfl)
theorem DA:Q3q QA7 "set_iterator.__next__"=QB Builtin.«set_iterator.__next__»:=Q2r (by kernel_rfl)
theorem D8 (a:QI):Q4I "set_iterator.__next__" ⟨[a],[]⟩:=by unfold Q4I;kernel_rfl
theorem DO:QFo "set_iterator" "__iter__" "set_iterator.__iter__" :=
 .of (Q7q:="set_iterator") (n:="__iter__") (by rw [YH,Xf];kernel_rfl) (by decide +XD) (by decide +XD) (by decide +XD)
  (by first | exact .inl (by decide +XD) | exact .inr (by decide +XD)) (by rw [YY];kernel_rfl)
theorem Gv:Q3q QA7 "set_iterator.__iter__"=QB Builtin.«dict_keyiterator.__iter__» :=
 Q3r (id':="dict_keyiterator.__iter__") (by kernel_rfl) (by decide +XD) (by decide +XD) (by kernel_rfl)
theorem H1 (a:QI):Q4I "set_iterator.__iter__" ⟨[a],[]⟩:=by unfold Q4I;kernel_rfl
theorem BG {α:Type}:∀ {l:QC α} {i:QH} (h:i < ZJ),(l[i]::l.eraseIdx i).Perm l
 | x::r,0,_=>.Q1J _
 | x::r,i+1,h=>by
  rw [Q6v,List.eraseIdx_cons_succ]
  exact (List.Perm.swap _ _ _).QR (Q5Q x (BG (by simpa using h)))
theorem Hu {M:Model} {A:Q2z} {src:Source} {n:QH} {Q:QH->QZ->Prop} {E:QI->QZ->Prop} {s:QZ} (h0:n≠0) (h:∀i dr,i < n->Q i {s with Q3A:=dr}):Qp M A (choose src n) Q E s:=fun Γ p hΓ=>by
 show Sem.wp M Γ (.choose src n fun x=>.ZX x) _ _ p s
 rw [Sem.wp_choose]
 exact ⟨h0,h _ _ (QCV _ (Q3U h0))⟩
end
section
variable {prog:Program} {w:World} {A:Around} {E:Value->Shared->Prop} {s:Shared}
mutual
theorem ET {α:Type} (n:QH):∀(xs:QC α) (s:QZ) (Q:QC α->QZ->Prop),Qn<=n->(∀ys dr,ys.Perm xs->Q ys {s with Q3A:=dr})->Qp (Qi XE w) A (drawOrder n xs) Q E s:=by
 induction n with
 | Q1x =>
  intro xs s Q hl h
  have e:=List.eq_nil_of_length_eq_zero (Q81 hl)
  subst e
  exact QF (h [] Q1I .Zo)
 | Q1y n ih =>
  intro xs s Q hl h
  cases xs with
  | Zo=>exact QF (h [] Q1I .Zo)
  | Xx x r =>
   refine Q9 (Hu (Nat.succ_ne_zero _) fun i dr hi=>?_)
   rw [Qg hi]
   refine Q9 (ih _ _ _ (by rw [Q5R hi];exact Nat.pred_le_iff.mpr hl) fun ys dr' hp=>QF (h _ dr' ?_))
   exact (Q5Q _ hp).QR (BG hi)
theorem AW {Q:Qu->QZ->Prop} (h:Q (Aq w) s):Qp (Qi XE w) A setsByText Q E s:=by
 exact Q9 (Q1o (QF h))
structure Q5w (w:Q6T) (h:ZS) (a:Qq) (es:XP (X4×QI)) (ep:QH) (t:Y2):Prop where
 at':∃o,Q05 a=QB o/\Q6o/\Q21=.set es ep t
 fits:t.fits ZA=QM
 good:Q2y (Aq w) t
theorem TO {α:Type} (f:QH->QH) (n k:QH) (l:QC α) (acc:XP α):QA8 f (n+1) k l acc=(match l[f k % ZJ]? with | QB x=>QA8 f n (k+1) (l.eraseIdx (f k % ZJ)) (QA9 x) | QG=>acc):=QA
theorem DU {α:Type} (f:QH->QH):∀(n k:QH) (l:QC α) (acc:XP α),ZJ=n->(QA8 f n k l acc).QFp (Q4J++l)
 | 0,k,l,acc,h=>by
  have:=Zx h;subst this
  show acc.toList.Perm (Q4J++[]);simp
 | n+1,k,l,acc,h=>by
  rw [TO]
  have hi:f k % ZJ < ZJ:=QCV _ (by exact Ma h)
  rw [Qg hi]
  dsimp only
  refine (DU f n (k+1) _ _ (by rw [Q5R hi];exact adx h)).QR ?_
  rw [Q3s,Q0W]
  exact Q7Y _ (BG hi)
theorem CY {α:Type} (f:QH->QH) (xs:XP α):(Q5E f xs).QFp QDj:=by
 unfold Q5E
 simpa using DU f Q5n 0 QDj #[] (by simp)
inductive Way where
 | QDN (ys:XP (X4×QI))
 | Q4b
 | Q3A (tup:Qq) (ps:QC QH)
instance:Q2B Way:=⟨.Q4b⟩
def Yv (t:Y2):QH->QH
 | 0=>0
 | i+1=>t.place.getD i 0+1
def Q2s (t:Y2):Way->QH->QI
 | .QDN _,_=>.Qm 0 0
 | .Q4b,i=>.Qm (slotAt t i:X4) 0
 | .Q3A tup _,_=>.QQ tup
def Q8c (es:XP (X4×QI)):Way->QC QI
 | .QDN ys=>ys.toList.map (·.2)
 | .Q4b=>Q3F (·.2)
 | .Q3A _ ps=>Q15 fun p=>(Q3F (·.2)).Q4m p .QG
def Way.ok (w:Q6T) (a:Qq) (es:XP (X4×QI)) (ep:QH) (t:Y2):Way->ZS->Prop
 | .QDN ys,_=>Aq w=QM/\ys=Q5E (Q1K a ep) es
 | .Q4b,_=>Aq w=QJ/\(Q8d=QM\/ZA<=1)
 | .Q3A tup ps,h=>(Aq w=QJ/\ps.Perm (X6 ZA))/\∃o n,Q05 tup=QB o/\Q21=.seq (Q15 fun (p:QH)=>Q5D (p:X4) 0).Xe n
def Way.own (I:Qq):Way->QC Qq
 | .Q3A tup _=>[I,tup]
 | _=>[I]
def Hp (w:Q6T) (a:Qq) (es:XP (X4×QI)) (ep:QH) (t:Y2) (I:Qq) (y:Way) (i:QH) (h:ZS):Prop :=
 (∃o,Q05 I=QB o/\Q4w=.Qk "set_iterator"/\Q21=.Xp #[y.first t i,.Qm i 0,.QQ a,.Qm ZA 0,.Qm ep 0])/\y.ok w a es ep t h
theorem Way.items_perm {w:Q6T} {a:Qq} {es:XP (X4×QI)} {ep:QH} {t:Y2} {h:ZS}:∀(y:Way),y.ok w a es ep t h->(y.items es).Perm (Q3F (·.2))
 | .QDN ys,k=>by
  have:=k.2;subst this
  exact (CY _ es).map _
 | .Q4b,k=>.Q1J _
 | .Q3A tup ps,k=>by
  have:=k.1.2.map fun p=>(Q3F (·.2)).Q4m p .QG
  refine this.trans (List.Perm.of_eq ?_)
  refine List.ext_getElem (by simp) fun i h1 h2=>?_
  simp at h1 h2
  simp [h2]
theorem HF {t:Y2} (hr:Ey ZV) {i:QH} (hi:i<=Q24):Xd ZV (Yv t i)=i:=by
 refine an3 (Jj ZV (Yv t i) hr) fun h1 h2 h3=>?_
 have lt:∀k,k < i->k < Xd ZV (Yv t i):=by
  intro k hk
  rcases Q3t k (Xd ZV (Yv t i)) with h | h
  ·exact h
  ·exfalso
   have hks:k < Q24:=by exact Be hi hk
   have:=h3 k ZV[k] (by simp [hks]) h
   cases i with
   | Q1x=>exact adw hk
   | Q1y i =>
    have e:Yv t (i+1)=ZV[i]'(by exact Kr hi)+1:=by simp [Yv,XB,show i < Q24 by exact Kr hi]
    rw [e]at this
    rcases Q3t k i with q | q
    ·have:=hr.lt (i:=k) (k:=i) (a:=ZV[k]) (b:=ZV[i]'(by exact Kr hi)) (by simp [hks]) (by simp [show i < Q24 by exact Kr hi]) q
     exact adv (by assumption) this
    ·have:k=i:=by exact adu hk q
     subst this;omega
 have ge:Xd ZV (Yv t i)<=i:=by
  rcases Q3t i (Xd ZV (Yv t i)) with h | h
  ·exfalso
   have his:i < Q24:=by exact Be h1 h
   have:=h2 i ZV[i] (by simp [his]) h
   cases i with
   | Q1x=>simp [Yv]at this
   | Q1y i =>
    have e:Yv t (i+1)=ZV[i]'(by exact GO his)+1:=by simp [Yv,XB,show i < Q24 by exact GO his]
    rw [e]at this
    have:=hr.lt (i:=i) (k:=i+1) (a:=ZV[i]'(by exact GO his)) (b:=ZV[i+1]'his) (by simp [show i < Q24 by exact GO his]) (by simp [his]) (by exact Hq)
    exact adt (by assumption) this
  ·exact h
 rcases Q3t (Xd ZV (Yv t i)) i with h | h
 ·exact XF (lt _ h) (XO _)
 ·exact Kw ge h
theorem SetAt.noDrawn {h:ZS} {a:Qq} {es:XP (X4×QI)} {ep:QH} {t:Y2} (S:Q5w w h a es ep t):Q24=ZA:=by
 have:=S.fits
 simp only [SetTable.fits,X9,ZM]at this
 exact this.1
theorem Au {a:Qq} {es:XP (X4×QI)} {ep:QH} {t:Y2} {Q:(XP (X4×QI)×QH×Y2)->QZ->Prop} (S:Q5w w QV a es ep t) (h:Q (es,ep,t) s):Qp (Qi XE w) A (setState a) Q E s :=
 let ⟨_,ho,_,hd⟩:=S.at';QAA ho hd S.fits h
theorem Hd {a:Qq} {es:XP (X4×QI)} {ep i:QH} {t:Y2} {Q:QW (QI×QH)->QZ->Prop} (S:Q5w w QV a es ep t) (hb:Aq w=QM)
  (h:Q ((Q5E (Q1K a ep) es)[i]?.map fun e=>(e.2,0)) s):Qp (Qi XE w) A (setNext a 0 i ep) Q E s:=by
 injections XE w A E s a es ep i t Q _ _ _
 refine Q9 (Au S ?_)
 refine Q9 (AW ?_)
 rw [hb]
 rw [QY QA]
 rw [QN (by simp)]
 refine Q9 (Q9 (Au S ?_))
 refine Q9 (AW ?_)
 rw [hb]
 rw [QY QA]
 refine Q9 (Q1o ?_)
 exact QF (QF h)
theorem FJ {a:Qq} {es:XP (X4×QI)} {ep i:QH} {t:Y2} {Q:QW (QI×QH)->QZ->Prop} (S:Q5w w QV a es ep t) (hb:Aq w=QJ) (hp:Q8d=QM\/ZA<=1) (hi:i<=ZA)
  (h:Q (es[i]?.map fun e=>(e.2,Yv t (i+1))) s):Qp (Qi XE w) A (setNext a (Yv t i) i ep) Q E s:=by
 injections XE w A E s a es ep i t Q _ _ _ _ _
 have hsz:=S.noDrawn
 refine Q9 (Au S ?_)
 refine Q9 (AW ?_)
 rw [hb]
 rw [QN Qj]
 have hd:(!Q8d&&XY (ZA > 1))=QJ:=by
  rcases hp with h | h
  ·rw [h];rfl
  ·rw [show XY (ZA > 1)=QJ from Yl (by exact adr h),QCW]
 show Qp _ _ (if (!Q8d&&XY (ZA > 1))=QM then _ else _) _ _ _
 rw [QN (by rw [hd];simp)]
 have hl:t.led=QM:=by rw [S.good.led,hb];rfl
 refine Q9 ?_
 show Qp _ _ (if (!t.led&&!es.isEmpty)=QM then _ else _) _ _ _
 rw [QN (by rw [hl];simp)]
 refine QF ?_
 rw [HF S.good.rise (by rw [hsz];exact hi)]
 refine QF ?_
 rcases Q3t i ZA with hlt | hge
 ·rw [Q06 hlt]at h ⊢
  rw [Q06 (by rw [hsz];exact hlt)]
  simpa [Yv,XB,hsz,hlt] using h
 ·rw [Q25 hge]at h ⊢
  exact h
theorem JJ {a:Qq} {es:XP (X4×QI)} {ep p:QH} {t:Y2} {Q:QI->QZ->Prop} {x:QI} (S:Q5w w QV a es ep t) (hx:(Q3F (·.2))[p]?=QB x) (h:Q x s):Qp (Qi XE w) A (setNextDrawn a p ep) Q E s:=by
 refine Q9 (Au S ?_)
 dsimp only
 rw [QN (by simp)]
 rw [QT,Q47]at hx
 refine ew1 (Yr hx) fun e yq5K=>?_;refine an2 yq5K fun he yq5L=>?_;obtain QA:=yq5L;clear yq5K
 rw [he]
 exact QF h
end
end
end Mini
end
section
open PySem PySem.W PySem.Calls PyProof.Rows
set_option maxRecDepth 100000
set_option maxHeartbeats 1000000
namespace Mini
section
variable {prog:Program} {w:World} {A:Around} {E:Value->Shared->Prop} {s:Shared} {K:Type} [DecidableEq K] {knd:PySem.KeyKind prog w K}
mutual
def Ga (knd:Q69 XE w K) (h:ZS) (a:Qq) (S:K->Qu) (n:QH):Prop :=
 ∃o es ep t,Q05 a=QB o/\Q6o/\Q21=.set es ep t/\QEW knd Q6U/\(∀k,S k=QM↔∃e∈Q6U,Q3n k e.2=QM)
  /\ ZA < Q4E/\t.fits ZA=QM/\ZA=n/\Q2y (Aq w) t
theorem Ga.setOf {h:ZS} {a:Qq} {S:K->Qu} {n:QH} (g:Ga knd h a S n):h.SetOf knd a S n :=
 ew4 g fun o es ep t h=>an9 h fun h1 h2 h3 h4 h5 h6 h7 h8 _=>⟨o,es,ep,t,h1,h2,h3,h4,h5,h6,h7,h8⟩
theorem ME {h:ZS} {a:Qq} {o:ZG} {es:XP (X4×QI)} {ep:QH} {t:Y2} (ho:Q05 a=QB o) (hex:Q6o) (hd:Q21=.set es ep t)
  {es':XP (X4×QI)} {t':Y2} {S':K->Qu} (hel:QEW knd es'.toList) (QDO:∀k,S' k=QM↔∃e∈es'.toList,Q3n k e.2=QM) (hb:QFq < Q4E) (hf:t'.fits QFq=QM) (hg:Q2y (Aq w) t') :
  (h.update a (QCX es' t')).QBh a=QB {o with YC:=.set es' (ep+1) t'}/\Ga knd (h.update a (QCX es' t')) a S' QFq:=by
 obtain (⟨h1,_⟩):=SetOf_store (knd:=knd) ho hex hd hel QDO hb hf
 exact ⟨h1,_,es',ep+1,t',h1,hex,QA,hel,QDO,hb,hf,QA,hg⟩
theorem F9 {g:Qu->Sem Yb} (hg:∀(b:Qu) (Q1p:QZ) (Q':Yb->QZ->Prop),Q' () Q1p->Qp (Qi XE w) A (g b) Q' E Q1p)
  {a:Qq} {o:ZG} {es:XP (X4×QI)} {ep:QH} {t:Y2} (ho:Qc a=QB o) (hex:Q6o) (hd:Q21=.set es ep t)
  {es1:XP (X4×QI)} {t2:Y2} {S':K->Qu} (hel1:QEW knd es1.toList) (QDs:∀k',S' k'=QM↔∃e∈es1.toList,Q3n k' e.2=QM)
  (hb1:Q3G < Q4E) (hf2:t2.fits Q3G=QM) (hgt:Q2y (Aq w) t2) {QFr:Qu} {R:QW Qu->QZ->Prop}
  (h:∀h',ZC a QV h'->Ga knd h' a S' Q3G->R (QB QM) {s with YO:=h'}) :
  Qp (Qi XE w) A (do
    storeSet a es1 t2
    if (!QFr&&t2.tooFull)=QM then do
      g (Q9x t2 es1 (Q1q Q3G)).2.2
      storeSet a (Q9x t2 es1 (Q1q Q3G)).1 (Q9x t2 es1 (Q1q Q3G)).2.1
      ZX (QB QM)
     else ZX (QB QM)) R E s:=by
 obtain (⟨g1,G1⟩):=ME (knd:=knd) ho hex hd hel1 QDs hb1 hf2 hgt
 refine Q9 (QAB ho hd ?_ (QAC hb1))
 have sb:=XX QV a (QCX es1 t2)
 cases hc:(!QFr&&t2.tooFull) with
 | QJ=>rw [QN Qj];exact QF (h _ sb G1)
 | QM =>
  rw [QY QA]
  have hp:=relayAll_perm t2 es1 (Q1q Q3G)
  have hfr:=relayAll_fits t2 es1 (Q1q Q3G)
  have hgr:=hgt.relayAll es1 (Q1q Q3G)
  refine Q9 (hg _ _ _ ?_)
  have hsz:(Q9x t2 es1 (Q1q Q3G)).1.size=Q3G:=by rw [<- Q03,QEc,Q03]
  obtain (⟨_,G2⟩):=ME (knd:=knd) g1 hex QA (hel1.perm hp) (fun k'=>(QDs k').QR ⟨fun ⟨e,he,q⟩=>⟨e,hp.mem_iff.mpr he,q⟩,fun ⟨e,he,q⟩=>⟨e,hp.mem_iff.mp he,q⟩⟩) (by rw [hsz];exact hb1) hfr hgr
  refine Q9 (QAB g1 QA ?_ (QAC (by rw [hsz];exact hb1)))
  rw [hsz]at G2
  exact QF (h _ (sb.trans (XX _ a _)) G2)
theorem Kc {a:Qq} {S:K->Qu} {n:QH} {k:K} {x:QI} {Q:Qu->QZ->Prop} (Q53:Q3n k x=QM) (hsc:QFs=QM) (hS:Ga knd QV a S n) (QFt:n+1 < Q4E)
  (h:∀h',ZC a QV h'->Ga knd h' a (fun k'=>S k' || XY (k'=k)) (if S k then n else n+1)->Q (!S k) {s with YO:=h'}) :
  Qp (Qi XE w) A (QEd a x (Q3p k)) Q E s:=by
 obtain (⟨o,es,ep,t,ho,hex,hd,hel,QDO,hb,hf,hn,hgt⟩):=hS
 unfold QEd setAddHashedIn
 refine Xa (Q9 (QAA ho hd hf ?_))
 dsimp only
 rw [byScan_of hsc hb hel]
 simp only [↓reduceIte]
 unfold setAddByScan
 refine Q9 (Q9 (Q0b (Q9 (wpAny_setScan_of Q53 ho hd hf hel ?_))))
 cases hr:List.findIdx? (fun e=>Q3n k e.2) Q6U with
 | QB j =>
  obtain (⟨hj,hpj,_⟩):=List.findIdx?_eq_some_iff_getElem.mp hr
  have hSk:S k=QM:=(QDO k).mpr ⟨Q6U[j],Q0H hj,hpj⟩
  have:=h QV (Q5x a QV) ⟨o,es,ep,t,ho,hex,hd,hel,fun k'=>by
   rw [Q2D,Xm,<- QDO k']
   exact ⟨fun hk=>hk.elim id fun e=>e▸hSk,.inl⟩,hb,hf,by rw [hSk];exact hn,hgt⟩
  rw [hSk]at this
  exact QF (QF this)
 | QG =>
  have hSk:S k=QJ:=by
   cases hk:S k with
   | QJ=>rfl
   | QM=>refine ew1 ((QDO k).mp hk) fun e yq5S=>?_;refine an2 yq5S fun he hp=>?_;clear yq5S;have:=List.findIdx?_eq_none_iff.mp hr e he;rw [hp]at this;cases this
  have hgw:∀(b:Qu) (Q1p:QZ) (Q':Yb->QZ->Prop),Q' () Q1p->Qp (Qi XE w) A (match b with | QM=>rule "set.scan.the-table-gave-way" | QJ=>ZX ()) Q' E Q1p :=
   fun b Q1p Q' hq=>by cases b <;> first | exact QF hq | exact Q0b hq
  have QFu:=layNew_perm t es (Q3p k) x
  have hfits:=layNew_fits t es (Q3p k) x
  have hgood:=hgt.layNew es (Q3p k) x
  dsimp only
  rw [Q3s]at QFu
  have Q2Y:(QCF t es (Q3p k) x).1.size=n+1:=by rw [<- Q03,hperm.length_eq,Xz,Q03,hn];rfl
  have hel1:=(hel.push Q53 hsc).perm QFu
  have QDs:∀k',(S k' || XY (k'=k))=QM↔∃e∈(QCF t es (Q3p k) x).1.toList,Q3n k' e.2=QM:=mem_push_iff Q53 QDO QFu
  have hb1:(QCF t es (Q3p k) x).1.size < Q4E:=by rw [Q2Y];exact QFt
  refine Q9 (hgw _ _ _ ?_)
  have fin:∀h',ZC a QV h'->Ga knd h' a (fun k'=>S k' || XY (k'=k)) (QCF t es (Q3p k) x).1.size->Q QM {s with YO:=h'}:=fun h' hs hG=>by
   have:=h h' hs
   rw [hSk]at this
   rw [Q2Y]at hG
   exact this hG
  cases hp:(QCF t es (Q3p k) x).2.1.Q4b with
  | QM =>
   rw [QY QA]
   refine Q9 ?_
   rw [hashByValue_scannable 8 hsc]
   refine QF ?_
   cases plainKind x with
   | QM =>
    refine F9 hgw ho hex hd hel1 QDs hb1 hfits hgood fun h' hs hG=>QF (fin h' hs hG)
   | QJ =>
    refine F9 hgw ho hex hd hel1 QDs hb1 (SetTable.fits_plain_off hfits) hgood.noPlain fun h' hs hG=>QF (fin h' hs hG)
  | QJ =>
   rw [QN Qj]
   refine Q9 (QF ?_)
   refine F9 hgw ho hex hd hel1 QDs hb1 hfits hgood fun h' hs hG=>QF (fin h' hs hG)
theorem LL {a:Qq} {S:K->Qu} {n:QH} {k:K} {key:QI} {Q:QI->QZ->Prop} (Q53:Q3n k key=QM) (hsc:QDP=QM) (hS:Ga knd QV a S n) (QFt:n+1 < Q4E)
  (h:∀h',ZC a QV h'->Ga knd h' a (fun k'=>S k' || XY (k'=k)) (if S k then n else n+1)->Q .QG {s with YO:=h',Q0T:=Y6+1}) :
  Qp (Qi XE w) A (Q0Q (.Qd "set.add") [.QQ a,key]) Q E s:=by
 refine Y3 Q82 hS.setOf.typeIs PySem.F.entry_set_add ?_ (PySem.F.args_set_add_2 _ _)
 unfold Builtin.«set.add» Q5S
 simp only [QAs,QCY]
 unfold Q3H setAdd
 refine Q9 (QF (Q9 (QF (Q9 (Xa (Q9 (QCU Q53 ?_)))))))
 exact Kc (s:={s with Q0T:=Y6+1}) Q53 hsc hS QFt fun h' hs hG=>QF ⟨_,QA,h h' hs hG⟩
theorem JT:Q2y (Aq w) (.QDt 0 0 (!(Aq w))):=⟨QA,QA,by unfold Ey;simp [SetTable.fresh]⟩
theorem Gz {Q₁:QI->QZ->Prop}
  (h:Q₁ (.QQ QD) {s with YO:=XM {cls:=.Qk "set",Q04:=QG,YC:=.set #[] 0 (.QDt 0 0 (!(Aq w)))}}) :
  Q1L (Qi XE w) A (.Q0Q (.Qd "set.__new__") ⟨[.Qk "set"],[]⟩) (wants Q₁ E) s:=by
 injections XE w A E s Q₁ _
 refine Q2E ?_
 show Qp _ Q96 (do Q6Z "set.__new__" ⟨[.Qk "set"],[]⟩;QBZ (.Qd "set.__new__" ⟨[.Qk "set"],[]⟩)) _ _ s
 refine Q9 (Zl PySem.F.newCall_set_0 (QF ⟨Q2I Q7Z _,ZY PySem.F.entry_set_new ?_⟩))
 rw [Zm Q7Z _]
 unfold Builtin.«set.__new__» Builtin.Frozenset.newClass
 have hsub:=sub_set_self
 obtain ⟨hp,g,d,tk,os⟩:=s
 dsimp only
 wp_walk
 refine Q1o (QF ?_)
 dsimp only
 simp only [newObj]
 exact Q9 (wpAny_alloc (QF (QF h)))
theorem Jg {Q:QI->QZ->Prop}
  (h:Q (.QQ QD) {s with YO:=XM {cls:=.Qk "set",Q04:=QG,YC:=.set #[] 0 (.QDt 0 0 (!(Aq w)))}}) :
  Qp (Qi XE w) A (Q0Q (.Qk "set") []) Q E s:=by
 injections XE w A E s Q _
 obtain ⟨c,tl,hmro⟩:=PySem.F.called_set.mro
 have hmade:=PySem.F.called_set.made
 have hsub:=PySem.F.called_set.sub
 have h1:=PySem.F.called_set.notType
 have h2:=PySem.F.called_set.canCreate
 have hct:=PySem.F.typeCall_set_0
 refine Q26 (Q2E ?_)
 show Qp _ _ (callAny (.Qk "set") _) _ _ _
 refine QF ⟨Q27 _ (by decide +XD),ZY PySem.F.entry_type_call ?_⟩
 rw [Around.under_plain (weight_type_call_type "set" [] []) QA]
 repeat (any_goals (first | assumption | wp_step))
 refine QAD (Gz (E:=E) (Q₁:=fun obj Q1p=>obj=.QQ QD/\Q1p={s with YO:=XM {cls:=.Qk "set",Q04:=QG,YC:=.set #[] 0 (.QDt 0 0 (!(Aq w)))}}) ⟨QA,QA⟩) ?_;intros r Q1p hr
 rcases r with e | (obj | _ | _ | _) <;> first | exact hr | exact hr.elim | skip
 obtain ⟨QA,QA⟩:=hr
 have hS:(XM {cls:=.Qk "set",Q04:=QG,YC:=.set #[] 0 (.QDt 0 0 (!(Aq w)))}).QBh QD=QB {cls:=.Qk "set",Q04:=QG,YC:=.set #[] 0 (.QDt 0 0 (!(Aq w)))}:=X3 _ QA
 have hT:Shared.TypeIs {s with YO:=XM {cls:=.Qk "set",Q04:=QG,YC:=.set #[] 0 (.QDt 0 0 (!(Aq w)))}} (.QQ QD) "set":=⟨_,hS,QA⟩
 have hli:=PySem.F.called_set.init.lookup
 have hbi:=PySem.F.called_set.init.bind (.QQ QD)
 repeat (any_goals (first | assumption | wp_step))
 refine QAD (Q2Z (R:=wants (fun r QCZ=>r=.QG/\Q (.QQ QD) QCZ) E) PySem.F.called_set.init.plain PySem.F.entry_set_init (check_set_init hT ?_)) ?_
 ·unfold Builtin.«set.__init__» noKeywords
  wp_walk
  exact ⟨QA,h⟩
 intros r₂ QCZ hr₂
 ·rcases r₂ with e | (r | _ | _ | _) <;> first | exact hr₂ | exact hr₂.elim | skip
  obtain ⟨QA,hq⟩:=hr₂
  repeat (any_goals (first | assumption | wp_step))
end
end
end Mini
end
section
open PySem PySem.W PySem.Calls PyProof.Rows
namespace Mini
mutual
def BJ (Y5:QC (X8×QU)) (x:X8):QW QU:=(Q8a fun kv=>kv.1 == x).map (·.2)
def BC (x:X8) (v:QU):QC (X8×QU)->QC (X8×QU)
 | []=>[(x,v)]
 | (y,u)::r=>if y == x then (y,v)::r else (y,u)::BC x v r
theorem HZ (x:X8) (v:QU) (y:X8) (u:QU) (r:QC (X8×QU)):BC x v ((y,u)::r)=if y == x then (y,v)::r else (y,u)::BC x v r:=QA
theorem ERs.get {w:Q6T} {Λ:Lab} (x:X8):∀ {Y5:QC (X8×QU)} {es:QC ZW},ERs w Λ Y5 es->∃ov,getL x es=QB ov/\OV Λ (BJ Y5 x) ov
 | [],[],_=>⟨QG,QA,ZQ⟩
 | (y,v)::r,e::es,⟨⟨t,hk⟩,hh,hv,hr⟩=>by
  refine ew1 (ERs.get x hr) fun ov yq0y=>?_;refine an2 yq0y fun h1 h2=>?_;clear yq0y
  have hks:QFv x=(y == x):=by rw [hk];rfl
  have hrk:e.refKey=QJ:=by unfold DictEntry.refKey;rw [hk]
  cases hyx:(y == x) with
  | QM=>exact ⟨QB e.val,by simp [getL,Q18,hks,hyx],by simp [BJ,Q18,hyx];exact hv⟩
  | QJ =>
   refine ⟨ov,?_,?_⟩
   ·rw [<- h1];simp only [getL,Q18,hks,hyx,Q6J,hrk,Q2J]
   ·simp only [BJ,Q18,hyx];exact h2
 | [],_::_,h=>Qy
 | _::_,[],h=>Qy
theorem ERs.set {w:Q6T} {Λ:Lab} (x:X8) {v:QU} {c:QI} (tk:Tok) (hv:VR Λ v c):∀ {Y5:QC (X8×QU)} {es:QC ZW},ERs w Λ Y5 es ->
  ERs w Λ (BC x v Y5) (putL x (QL Q0O x) (.Xt x tk) c es)/\putN x es Yu=(BC x v Y5).ZT
 | [],[],_=>⟨⟨⟨_,QA⟩,QA,hv,ZQ⟩,QA⟩
 | (y,u)::r,e::es,⟨⟨t,hk⟩,hh,hu,hr⟩=>by
  obtain (⟨h1,h2⟩):=ERs.set x tk hv hr
  have hks:QFv x=(y == x):=by rw [hk];rfl
  cases hyx:(y == x) with
  | QM =>
   simp only [putL,HZ,putN,Q6J,hks,hyx,Q5u,QAE]
   exact ⟨⟨⟨t,hk⟩,hh,hv,hr⟩,QA⟩
  | QJ =>
   simp only [putL,HZ,putN,Q6J,hks,hyx,Q2J,XU,Zi]
   refine ⟨⟨⟨t,hk⟩,hh,hu,h1⟩,?_⟩
   unfold putN at h2
   rw [Xg,Xg,<- h2]
   split <;> rfl
 | [],_::_,h=>Qy
 | _::_,[],h=>Qy
theorem ERs.length {w:Q6T} {Λ:Lab}:∀ {Y5:QC (X8×QU)} {es:QC ZW},ERs w Λ Y5 es->Yu=QAt
 | [],[],_=>QA
 | (y,v)::r,e::es,h=>by rw [Xg,Xg,ERs.length h.2.2.2]
 | [],_::_,h=>Qy
 | _::_,[],h=>Qy
def KJ (K:Q1B) (C:Qq) (x:X8):Qu:=plainGet K C x&&hasDictIn K C&&(QGl K (.QQ C) x == QB QG)
def IA (K:Q1B) (C:Qq) (x:X8):Qu:=(QGl K (.QQ C) "__setattr__" == QB (QB (.Qd "object.__setattr__")))&&plainOver K C&&(takerIn K C x == QB QG)&&hasDictIn K C
def Ch (K:Q1B) (C:Qq) (x:X8) (f:Qq):Qu:=plainGet K C x&&(QGl K (.QQ C) x == QB (QB (.QQ f)))&&isFn K (.QQ f)
def Bf:QU->Qu
 | .imm u=>handedIn u
 | _=>QM
theorem Jn {Λ:Lab} {v:QU} {c:QI} (h:Bf v=QM) (hv:VR Λ v c):handedIn c=QM:=by
 cases v
 ·cases hv;rfl
 ·cases hv;rfl
 ·obtain (⟨t,QA⟩):=hv;rfl
 ·obtain (⟨t,QA⟩):=hv;rfl
 ·rw [hv.2];rfl
 ·cases hv;exact h
end
section
variable {c:Cx} {A:Around} {env:Env} {fm:Fm} {Λ:Lab} {σ:St}
mutual
theorem Rel.instV {fz:Qq->QW ZG} {L:Qq} {s:QZ} (R:Rel c fz L Λ σ s) {l d:QH} {C:Qq} {Y5:QC (X8×QU)} {a:QI} (hv:VR Λ (.QQ l) a) (h:QS l=.Q5L C d) (h':QS d=.Q1X Y5) :
  a=.QQ (Xs l)/\d < QO/\∃es,InstAt QV (Xs l) (instObj C (Xs d)) C (QB (dictOf es Yu))/\Qc (Xs d)=QB (dictOf es Yu)/\ERs c.w Λ Y5 es:=by
 injections c Λ σ fz L s _ l d C Y5 a _ _ _
 obtain ⟨o,ho,hor⟩:=(Q6E l hv.1)
 rw [h]at hor
 obtain ⟨hd,QA⟩:=hor
 obtain ⟨o',ho',Q5T⟩:=(Q6E d hd)
 rw [h']at Q5T
 obtain ⟨es,QA,he⟩:=Q5T
 exact ⟨hv.2,by rw [<- Q45];exact hd,es,⟨ho,QA,QA,ho'⟩,ho',he⟩
theorem Iw (hc:Q3S) {l d:QH} {C:Qq} {Y5:QC (X8×QU)} {a:QI} {x:X8} {v:QU} {ex:Qu} {P:QU->St->Prop} (hv:VR Λ (.QQ l) a) (h:QS l=.Q5L C d) (h':QS d=.Q1X Y5) (ho:KJ c.K C x=QM)
  (hg:BJ Y5 x=QB v) (hh:Bf v=QM) (hP:P v σ):Zt c A X1 fm Λ (QAF a x ex) VR σ P:=fun fz s Q E ok r q=>by
 refine an3 (QHI hv h h') fun yq0B _ yq0C=>?_;obtain QA:=yq0B;refine ew1 yq0C fun es yq0D=>?_;refine an3 yq0D fun I _ he=>?_;clear yq0C yq0D
 refine ew1 (he.get x) fun ov yq0E=>?_;refine an2 yq0E fun g1 g2=>?_;clear yq0E
 rw [hg]at g2
 cases ov with
 | QG=>exact g2.elim
 | QB cv =>
  refine ew1 r.fr fun m yq0F=>?_;refine an2 yq0F fun F _=>?_;clear yq0F
  simp only [KJ,X9]at ho
  exact get_own F QEY I ho.1.1 ho.1.2 (Z4 ho.2) QA g1 (Jn hh g2) (q Λ _ v cv σ (.Q1J _) hP g2 Q9N)
theorem Ir (hc:Q3S) {l d:QH} {C:Qq} {Y5:QC (X8×QU)} {a:QI} {x:X8} {v:QU} {cv:QI} {P:Yb->St->Prop} (hv:VR Λ (.QQ l) a) (h:QS l=.Q5L C d) (h':QS d=.Q1X Y5) (hcv:VR Λ v cv) (ho:IA c.K C x=QM)
  (hz:Yu<=900) (hP:P () (Yy d (.Q1X (BC x v Y5)))):Zt c A X1 fm Λ (setAttr a x cv) UR σ P:=fun fz s Q E ok r q=>by
 refine an3 (QHI hv h h') fun yq0G hd yq0H=>?_;obtain QA:=yq0G;refine ew1 yq0H fun es yq0I=>?_;refine an3 yq0I fun I hod he=>?_;clear yq0H yq0I
 refine ew1 r.fr fun m yq0J=>?_;refine an2 yq0J fun F _=>?_;clear yq0J
 simp only [IA,X9]at ho
 refine ew1 (he.get x) fun ov yq0K=>?_;refine an2 yq0K fun g1 _=>?_;clear yq0K
 obtain (⟨e1,e2⟩):=he.set x (Y6+1) hcv
 have hl:(BC x v Y5).ZT<=Yu+1:=by
  rw [<- e2];unfold putN;split <;> (first | exact EA | exact SQ)
 refine set_dict (es':=putL x (QL c.w.params x) (.Xt x (Y6+1)) cv es) (n':=(BC x v Y5).ZT) F QEY (r.ledAt hd hod) I QA (Z4 ho.1.1.1) ho.1.1.2 (Z4 ho.1.2) ho.2 (by rw [g1];rfl) (by rw [e2]) (.Zf Dp) (by rw [<- e1.length];exact aep hz hl) fun h' F' N'=>?_
 exact q Λ _ () () _ (.Q1J _) hP ZQ (r.turned (tk:=Y6+2) hd F F' N' ⟨_,QA,e1⟩)
theorem HG (hc:Q3S) {l d:QH} {C f:Qq} {Y5:QC (X8×QU)} {a:QI} {x:X8} {pl:Sem Qu} {P:QU×QC QU->St->Prop} (hv:VR Λ (.QQ l) a) (h:QS l=.Q5L C d) (h':QS d=.Q1X Y5) (ho:Ch c.K C x f=QM)
  (hg:BJ Y5 x=QG) (hP:P (.imm (.QQ f),[.QQ l]) σ):Zt c A X1 fm Λ (Q8e a x pl) (fun Λ (p:QU×QC QU) (b:QI×QC QI)=>VR Λ p.1 b.1/\VRs Λ p.2 b.2) σ P:=fun fz s Q E ok r q=>by
 refine an3 (QHI hv h h') fun yq0L hd yq0M=>?_;obtain QA:=yq0L;refine ew1 yq0M fun es yq0N=>?_;refine an3 yq0N fun I hod he=>?_;clear yq0M yq0N
 refine ew1 r.fr fun m yq0O=>?_;refine an2 yq0O fun F _=>?_;clear yq0O
 simp only [Ch,X9]at ho
 refine ew1 (he.get x) fun ov yq0P=>?_;refine an2 yq0P fun g1 g2=>?_;clear yq0P
 rw [hg]at g2
 cases ov with
 | QB _=>exact g2.elim
 | QG=>exact method_inst F QEY I ho.1.1 (Z4 ho.1.2) ho.2 g1 (q Λ s _ _ σ (.Q1J _) hP ⟨QA,.Xx hv .Zo⟩ r)
theorem Rel.dictsV {fz:Qq->QW ZG} {L:Qq} {s:QZ} (R:Rel c fz L Λ σ s) {l:QH} {Y5:QC (Yh×QU)} {a:QI} (hv:VR Λ (.QQ l) a) (h:QS l=.Q04 Y5) :
  a=.QQ (Xs l)/\l < QO/\∃cvs,Q4W (knd XK c.w) (Xs l) cvs/\KVR Λ Y5 cvs:=by
 injections c Λ σ fz L s _ l Y5 a _ _
 obtain ⟨o,ho,hor⟩:=(Q6E l hv.1)
 rw [h]at hor
 obtain ⟨cvs,h1,h2,h3⟩:=hor
 exact ⟨hv.2,by rw [<- Q45];exact hv.1,cvs,Heap.dictOf_iff.mpr ⟨o,ho,h1⟩,.of h2 h3⟩
theorem Rel.setsV {fz:Qq->QW ZG} {L:Qq} {s:QZ} (R:Rel c fz L Λ σ s) {l:QH} {xs:QC Yh} {a:QI} (hv:VR Λ (.QQ l) a) (h:QS l=.set xs) :
  a=.QQ (Xs l)/\l < QO/\Q9y/\QEe (knd XK c.w) (Xs l) (fun k=>XY (k∈xs)) Qn:=by
 injections c Λ σ fz L s _ l xs a _ _
 obtain ⟨o,ho,hor⟩:=(Q6E l hv.1)
 rw [h]at hor
 obtain ⟨h0,es,ep,t,h1,h2,h3,h4,h5,h6,h7,h8⟩:=hor
 exact ⟨hv.2,by rw [<- Q45];exact hv.1,h0,o,es,ep,t,ho,h1,h2,h3,fun k=>by rw [Q9V];exact h4 k,h5,h6,h7⟩
theorem Rel.setsG {fz:Qq->QW ZG} {L:Qq} {s:QZ} (R:Rel c fz L Λ σ s) {l:QH} {xs:QC Yh} {a:QI} (hv:VR Λ (.QQ l) a) (h:QS l=.set xs) :
  a=.QQ (Xs l)/\l < QO/\Q9y/\Ga (knd XK c.w) QV (Xs l) (fun k=>XY (k∈xs)) Qn:=by
 refine ew1 (Q6E l hv.1) fun o yq0S=>?_;refine an2 yq0S fun ho hor=>?_;clear yq0S
 rw [h]at hor
 obtain (⟨h0,es,ep,t,h1,h2,h3,h4,h5,h6,h7,h8⟩):=hor
 exact ⟨hv.2,by rw [<- Q45];exact hv.1,h0,o,es,ep,t,ho,h1,h2,h3,fun k=>by rw [Q9V];exact h4 k,h5,h6,h7,h8⟩
theorem OR.ofSet {h:ZS} {a:Qq} {xs:QC Yh} {S:Yh->Qu} {n:QH} (hn:Q9y) (hS:Ga (knd XK c.w) h a S n) (hx:∀k,S k=QM↔k∈xs) (hl:n=Qn):∃o,Q05 a=QB o/\OR XK c.w Λ (.set xs) o:=by
 injections c Λ h a xs S n _ _ _ _
 obtain ⟨o,es,ep,t,ho,h1,h2,h3,h4,h5,h6,h7,h8⟩:=hS
 exact ⟨o,ho,hn,es,ep,t,h1,h2,h3,fun k=>by rw [<- hx];exact h4 k,h5,h6,by rw [h7,hl],h8⟩
theorem QAu {h:ZS} {a:Qq} {Y5:QC (Yh×QU)} {cvs:QC (Yh×QI)} (hD:h.DictOf (knd XK c.w) a cvs) (hk:KVR Λ Y5 cvs):∃o,Q05 a=QB o/\OR XK c.w Λ (.Q04 Y5) o:=by
 refine ew1 (Q9W hD) fun o yq0T=>?_;refine an2 yq0T fun ho hd=>?_;clear yq0T
 exact ⟨o,ho,cvs,hd,hk.keys,hk.vals⟩
theorem IW {Λ:Lab} {v:QU} {k:Yh} {x:QI} (h:Bn v=QB k) (hv:VR Λ v x):QFs=QM:=by
 cases v <;> simp [Bn]at h <;> obtain (⟨t,QA⟩):=hv <;> rfl
end
end
end Mini
end
section
open PySem PySem.W PySem.Calls PyProof.Rows
set_option maxRecDepth 8000
set_option maxHeartbeats 1000000
namespace Mini
mutual
theorem Cb:QFo "method_descriptor" "__get__" "method_descriptor.__get__" :=
 .of (Q7q:="method_descriptor") (n:="__get__") (by rw [YH,Xf];kernel_rfl) (by decide +XD) (by decide +XD) (by decide +XD)
  (by first | exact .inl (by decide +XD) | exact .inr (by decide +XD)) (by rw [YY];kernel_rfl)
theorem D5:Q3q QA7 "method_descriptor.__get__"=QB Builtin.«method_descriptor.__get__»:=Q2r (by kernel_rfl)
theorem EP (a b c:QI):Q4I "method_descriptor.__get__" ⟨[a,b,c],[]⟩:=by unfold Q4I;kernel_rfl
theorem EB:Q3V (.Qk "method_descriptor") "__set__"=ZX QG:=by rw [YH,Xf];kernel_rfl
theorem EC:Q3V (.Qk "method_descriptor") "__delete__"=ZX QG:=by rw [YH,Xf];kernel_rfl
theorem Gi:Q6a (.Qk "dict") (.Qk "dict")=ZX QM:=by rw [YY];kernel_rfl
theorem Io:Q6a (.Qk "set") (.Qk "set")=ZX QM:=by rw [YY];kernel_rfl
theorem CH:QFo "dict" "__getattribute__" "dict.__getattribute__" :=
 .of (Q7q:="dict") (n:="__getattribute__") (by rw [YH,Xf];kernel_rfl) (by decide +XD) (by decide +XD) (by decide +XD)
  (by first | exact .inl (by decide +XD) | exact .inr (by decide +XD)) (by rw [YY];kernel_rfl)
theorem Gs:Q3q QA7 "dict.__getattribute__"=QB Builtin.«object.__getattribute__» :=
 Q3r (id':="object.__getattribute__") (by kernel_rfl) (by decide +XD) (by decide +XD) (by kernel_rfl)
theorem HQ (a b:QI):Q4I "dict.__getattribute__" ⟨[a,b],[]⟩:=by unfold Q4I;kernel_rfl
theorem C4:QFo "set" "__getattribute__" "set.__getattribute__" :=
 .of (Q7q:="set") (n:="__getattribute__") (by rw [YH,Xf];kernel_rfl) (by decide +XD) (by decide +XD) (by decide +XD)
  (by first | exact .inl (by decide +XD) | exact .inr (by decide +XD)) (by rw [YY];kernel_rfl)
theorem HP:Q3q QA7 "set.__getattribute__"=QB Builtin.«object.__getattribute__» :=
 Q3r (id':="object.__getattribute__") (by kernel_rfl) (by decide +XD) (by decide +XD) (by kernel_rfl)
theorem I5 (a b:QI):Q4I "set.__getattribute__" ⟨[a,b],[]⟩:=by unfold Q4I;kernel_rfl
end
section
variable {prog:Program} {w:World} {A:Around} {E:Value->Shared->Prop} {s:Shared}
mutual
theorem Gg:Q4K "dict.get"=QJ:=by decide +XD
theorem Ii:Q16 (.Qd "dict.get")=ZX (.Qk "method_descriptor"):=by show QFw _=_;rw [Q8o];kernel_rfl
theorem IT:Q3V (.Qk "dict") "get"=ZX (QB (.Qd "dict.get")):=by rw [YH,Xf];kernel_rfl
theorem EX {a:Qq} {P:Fin->QZ->Prop} (hT:Q5U (.QQ a) "dict") (h:P (.Q55 (.ret (.QQ QD))) {s with YO:=XM {cls:=.Qk "builtin_function_or_method",YC:=.Xp #[.Qd "dict.get",.QQ a]}}) :
  Qp (Qi XE w) A (Builtin.«method_descriptor.__get__» ⟨[.Qd "dict.get",.QQ a,.Qk "dict"],[]⟩) P E s:=by
 unfold Builtin.«method_descriptor.__get__»
 refine Q9 (Zl (a:=(.Qd "dict.get",QB (.QQ a),QB (.Qk "dict"))) (by first | rfl | kernel_rfl) ?_)
 dsimp only
 simp only [Gg,XU,Zi]
 have e:∀ {t:Sem Q2t},t=(do
   let u <- (do
    let (Q1z,cls) <- (ZX (Qb "get",Q2a "dict"):Sem (X8×QI))
    if !(<- Zz (.QQ a) cls) then
     rule "descr.get.wrong-instance"
     raiseError "TypeError" s!"descriptor '{QDQ}' for '{<- typeName cls}' objects doesn't apply to a '{<- typeNameOf (.QQ a)}' object":Sem Yb)
   PySem.ret (<- QDu "builtin_function_or_method" [.Qd "dict.get",.QQ a]))->Qp (Qi XE w) A t P E s:=by
  rintro _ QA
  refine Q9 (Q9 (QF ?_))
  dsimp only
  refine Q9 (Q2u hT Gi ?_)
  simp only [Q4X,XU,Zi]
  exact QF (Q9 (Xl (QF h)))
 exact e (by with_unfolding_all rfl)
theorem FL (a:Qq) (es:XP ZW) (k:QH) (sl:XP (QW QI)) (u:Tok) :
  Meets (Builtin.«object.__getattribute__» ⟨[.QQ a,.Xt "get" u],[]⟩) (fun A R s=>Qc a=QB {cls:=.Qk "dict",Q04:=QG,YC:=.Q04 es k,slots:=sl} /\
   R (.ok (.ret (.QQ QD))) {s with YO:=XM {cls:=.Qk "builtin_function_or_method",YC:=.Xp #[.Qd "dict.get",.QQ a]}}) :=
 QFx fun XE w A R s hs=>by
  obtain (⟨hp,g,d,tk,os⟩):=s
  obtain (⟨hx,hs⟩):=hs
  have hT:(⟨hp,g,d,tk,os⟩:QZ).QAv (.QQ a) "dict":=⟨_,hx,QA⟩
  have f1:=IT
  have f2:=Ii
  have f3:=Cb.lookup
  have f4:=EB
  have f5:=EC
  unfold Builtin.«object.__getattribute__»
  repeat (any_goals (first | assumption | ((with_reducible show Qp _ _ (Q0Q (Q4Y "method_descriptor.__get__") _ _) _ _ _);refine Y3 Cb f2 D5 (EX hT ⟨_,QA,QF ⟨_,QA,hs⟩⟩) (EP _ _ _)) | wp_step))
theorem Er {a:Qq} {o:ZG} {Q:QI->QZ->Prop} {es:XP ZW} {k:QH}
  (hx:Qc a=QB o) (hc:Q4w=.Qk "dict") (QCa:Q21=.Q04 es k) (hd:QEf=QG)
  (h:∀tk,Q (.QQ QD) {s with YO:=XM {cls:=.Qk "builtin_function_or_method",YC:=.Xp #[.Qd "dict.get",.QQ a]},Q0T:=tk}) :
  Qp (Qi XE w) A (QAF (.QQ a) "get" QM) Q E s:=by
 obtain (⟨c,dct,dat,sl⟩):=o
 simp only at hc QCa hd
 subst hc QCa hd
 obtain (⟨hp,g,d,tk,os⟩):=s
 have hT:∀tk',(⟨hp,g,d,tk',os⟩:QZ).QAv (.QQ a) "dict":=fun _=>⟨_,hx,QA⟩
 have f3:=CH.lookup
 have f4:=CH.bind (.QQ a)
 unfold QAF getAttrBy
 repeat (any_goals (first | assumption | exact hT _ | ((with_reducible show Qp _ _ (Q0Q (Q4Y "dict.__getattribute__") _ _) _ _ _);refine call_meets CH (hT _) Gs (HQ _ _) (FL a es k sl _) ⟨hx,?_⟩) | wp_step))
 show Qp _ _ (handedOut (.QQ _)) _ _ _
 exact Zl (QEg QA) (h _)
theorem DM:Q4K "set.__contains__"=QJ:=by decide +XD
theorem EV:Q16 (.Qd "set.__contains__")=ZX (.Qk "method_descriptor"):=by show QFw _=_;rw [Q8o];kernel_rfl
theorem EZ:Q3V (.Qk "set") "__contains__"=ZX (QB (.Qd "set.__contains__")):=by rw [YH,Xf];kernel_rfl
theorem Dq {a:Qq} {P:Fin->QZ->Prop} (hT:Q5U (.QQ a) "set") (h:P (.Q55 (.ret (.QQ QD))) {s with YO:=XM {cls:=.Qk "builtin_function_or_method",YC:=.Xp #[.Qd "set.__contains__",.QQ a]}}) :
  Qp (Qi XE w) A (Builtin.«method_descriptor.__get__» ⟨[.Qd "set.__contains__",.QQ a,.Qk "set"],[]⟩) P E s:=by
 unfold Builtin.«method_descriptor.__get__»
 refine Q9 (Zl (a:=(.Qd "set.__contains__",QB (.QQ a),QB (.Qk "set"))) (by first | rfl | kernel_rfl) ?_)
 dsimp only
 simp only [DM,XU,Zi]
 have e:∀ {t:Sem Q2t},t=(do
   let u <- (do
    let (Q1z,cls) <- (ZX (Qb "__contains__",Q2a "set"):Sem (X8×QI))
    if !(<- Zz (.QQ a) cls) then
     rule "descr.get.wrong-instance"
     raiseError "TypeError" s!"descriptor '{QDQ}' for '{<- typeName cls}' objects doesn't apply to a '{<- typeNameOf (.QQ a)}' object":Sem Yb)
   PySem.ret (<- QDu "builtin_function_or_method" [.Qd "set.__contains__",.QQ a]))->Qp (Qi XE w) A t P E s:=by
  rintro _ QA
  refine Q9 (Q9 (QF ?_))
  dsimp only
  refine Q9 (Q2u hT Io ?_)
  simp only [Q4X,XU,Zi]
  exact QF (Q9 (Xl (QF h)))
 exact e (by with_unfolding_all rfl)
theorem DG (a:Qq) (es:XP (X4×QI)) (k:QH) (tb:Y2) (sl:XP (QW QI)) (u:Tok) :
  Meets (Builtin.«object.__getattribute__» ⟨[.QQ a,.Xt "__contains__" u],[]⟩) (fun A R s=>Qc a=QB {cls:=.Qk "set",Q04:=QG,YC:=.set es k tb,slots:=sl} /\
   R (.ok (.ret (.QQ QD))) {s with YO:=XM {cls:=.Qk "builtin_function_or_method",YC:=.Xp #[.Qd "set.__contains__",.QQ a]}}) :=
 QFx fun XE w A R s hs=>by
  obtain (⟨hp,g,d,tk,os⟩):=s
  obtain (⟨hx,hs⟩):=hs
  have hT:(⟨hp,g,d,tk,os⟩:QZ).QAv (.QQ a) "set":=⟨_,hx,QA⟩
  have f1:=EZ
  have f2:=EV
  have f3:=Cb.lookup
  have f4:=EB
  have f5:=EC
  unfold Builtin.«object.__getattribute__»
  repeat (any_goals (first | assumption | ((with_reducible show Qp _ _ (Q0Q (Q4Y "method_descriptor.__get__") _ _) _ _ _);refine Y3 Cb f2 D5 (Dq hT ⟨_,QA,QF ⟨_,QA,hs⟩⟩) (EP _ _ _)) | wp_step))
theorem C3 {a:Qq} {o:ZG} {Q:QI->QZ->Prop} {es:XP (X4×QI)} {k:QH} {tb:Y2}
  (hx:Qc a=QB o) (hc:Q4w=.Qk "set") (QCa:Q21=.set es k tb) (hd:QEf=QG)
  (h:∀tk,Q (.QQ QD) {s with YO:=XM {cls:=.Qk "builtin_function_or_method",YC:=.Xp #[.Qd "set.__contains__",.QQ a]},Q0T:=tk}) :
  Qp (Qi XE w) A (QAF (.QQ a) "__contains__" QM) Q E s:=by
 obtain (⟨c,dct,dat,sl⟩):=o
 simp only at hc QCa hd
 subst hc QCa hd
 obtain (⟨hp,g,d,tk,os⟩):=s
 have hT:∀tk',(⟨hp,g,d,tk',os⟩:QZ).QAv (.QQ a) "set":=fun _=>⟨_,hx,QA⟩
 have f3:=C4.lookup
 have f4:=C4.bind (.QQ a)
 unfold QAF getAttrBy
 repeat (any_goals (first | assumption | exact hT _ | ((with_reducible show Qp _ _ (Q0Q (Q4Y "set.__getattribute__") _ _) _ _ _);refine call_meets C4 (hT _) HP (I5 _ _) (DG a es k tb sl _) ⟨hx,?_⟩) | wp_step))
 show Qp _ _ (handedOut (.QQ _)) _ _ _
 exact Zl (QEg QA) (h _)
end
end
end Mini
end
section
open PySem PySem.W PySem.Calls PyProof.Rows
set_option maxRecDepth 8000
set_option maxHeartbeats 1000000
namespace Mini
section
variable {prog:Program} {w:World} {A:Around} {E:Value->Shared->Prop} {s:Shared} {R:Result->Shared->Prop}
mutual
theorem HY {u:Qq} {id:XC} {Q1g:QI} {Xc:QC QI} {o:ZG} (hq:(Code.builtin id ⟨Q1g::Xc,[]⟩).quiet=QM) (ho:Qc u=QB o) (hob:o={cls:=.Qk "builtin_function_or_method",YC:=.Xp #[.Qd id,Q1g]}\/o={cls:=.Qk "method-wrapper",YC:=.Xp #[.Qd id,Q1g]})
  (hchk:∀(A:Q2z) (Q:Yb->QZ->Prop),Q () s->Qp (Qi XE w) A (Q1r id ⟨Q1g::Xc,[]⟩) Q (fun e s'=>R (.Q83 e) s') s)
  (h:Q1L (Qi XE w) A (.Qd id ⟨Q1g::Xc,[]⟩) R s):Q1L (Qi XE w) A (.Q0Q (.QQ u) ⟨Xc,[]⟩) R s:=by
 obtain (⟨hh,g,dr,t,os⟩):=s
 refine Q2E ?_
 refine nd_load ho ?_
 rcases hob with QA | QA
 ·show Qp _ _ (Q1r id ⟨Q1g::Xc,[]⟩ >>= fun _=>QBZ (.Qd id ⟨Q1g::Xc,[]⟩)) _ _ _
  exact Q9 (hchk _ _ (QF ⟨hq,h⟩))
 ·show Qp _ _ (Q1r id ⟨Q1g::Xc,[]⟩ >>= fun _=>QBZ (.Qd id ⟨Q1g::Xc,[]⟩)) _ _ _
  exact Q9 (hchk _ _ (QF ⟨hq,h⟩))
theorem EW:Q6a (.Qk "dict") (.Qk "module")=ZX QJ:=by rw [YY];kernel_rfl
theorem Fk:Q6a (.Qk "set") (.Qk "module")=ZX QJ:=by rw [YY];kernel_rfl
theorem HU {a:Qq} {k v:QI} {es:XP ZW} {ep:QH} {sl:XP (QW QI)} {Q:Yb->QZ->Prop} (hx:Qc a=QB ⟨.Qk "dict",QG,.Q04 es ep,sl⟩) (h:Q () s):Qp (Qi XE w) A (Q1r "dict.get" ⟨[.QQ a,k,v],[]⟩) Q E s:=by
 injections XE w A E s a k v es ep sl Q _ _
 obtain ⟨hp,g,d,tk,os⟩:=s
 have hT:(⟨hp,g,d,tk,os⟩:QZ).QAv (.QQ a) "dict":=⟨_,hx,QA⟩
 have f1:=EW
 repeat (any_goals (first | assumption | wp_step))
theorem Jd {a:Qq} {k:QI} {es:XP (X4×QI)} {ep:QH} {tb:Y2} {sl:XP (QW QI)} {Q:Yb->QZ->Prop} (hx:Qc a=QB ⟨.Qk "set",QG,.set es ep tb,sl⟩) (h:Q () s):Qp (Qi XE w) A (Q1r "set.__contains__" ⟨[.QQ a,k],[]⟩) Q E s:=by
 injections XE w A E s a k es ep tb sl Q _ _
 obtain ⟨hp,g,d,tk,os⟩:=s
 have hT:(⟨hp,g,d,tk,os⟩:QZ).QAv (.QQ a) "set":=⟨_,hx,QA⟩
 have f1:=Fk
 repeat (any_goals (first | assumption | wp_step))
theorem FB:QBx "dict.get"=QM:=by decide +XD
theorem GA {K:Type} [Q7k K] {knd:Q69 XE w K} {d:Qq} {Y5:QC (K×QI)} {k:K} {key dflt:QI} (hD:Q4W knd d Y5) (lo:(d == Q3R)=QJ) (Q53:Q3n k key=QM)
  (h:R (.ok (.ret ((Q4V Y5 k).Q4m dflt))) {s with Q0T:=Y6+1}):Q1L (Qi XE w) A (.Qd "dict.get" ⟨[.QQ d,key,dflt],[]⟩) R s:=by
 refine ZY Q6w ?_
 rw [Zm FB]
 exact Q6x knd d Q53 lo dflt A R s ⟨_,hD.mapOf,h⟩
theorem HT {K:Type} [Q7k K] {knd:Q69 XE w K} {a:Qq} {S:K->Qu} {n:QH} {k:K} {key:QI} (Q53:Q3n k key=QM) (hsc:QDP=QM) (hS:QEe knd a S n)
  (h:R (.ok (.ret (.Ys (S k)))) {s with Q0T:=Y6+1}):Q1L (Qi XE w) A (.Qd "set.__contains__" ⟨[.QQ a,key],[]⟩) R s:=by
 refine ZY entry_set_contains ?_
 unfold Builtin.«frozenset.__contains__» Q5S
 simp only [QAs,QCY]
 unfold Q3H Builtin.Frozenset.withSetAsKey setContains
 refine Q9 (QF ?_)
 try dsimp only
 refine Q9 (QF ?_)
 try dsimp only
 refine Q9 (Q84 ?_)
 refine Xa ?_
 refine Q9 (QCU Q53 ?_)
 refine Q9 (wpAny_setFind_of (s:={s with Q0T:=Y6+1}) Q53 hsc hS fun r hr=>?_)
 refine QF ?_
 rw [hr]
 exact QF h
end
end
end Mini
end
section
open PySem PySem.W PySem.Calls PyProof.Rows
set_option genInjectivity false
set_option genSizeOf false
set_option maxRecDepth 100000
namespace Mini
mutual
def BB (K:Q1B) (v:QU) (x:X8):PT QU:=fun σ P=>(Ai v fun l =>
  (Bt (QS l) fun C d=>AX (QS d) fun Y5=>KJ K C x=QM/\Ad (BJ Y5 x) fun u=>Bf u=QM/\P u σ) \/
  (As (QS l) fun _=>x="get"/\P (.QQ QO) (Qw (.bm "dict.get" v)))\/(Bh (QS l) fun _=>x="__contains__"/\P (.QQ QO) (Qw (.bm "set.__contains__" v)))) \/
 Cs v fun C=>∃mc p f QA3,readsIn K C mc=QM/\findCls K (.QQ C) mc x=QB (.get (.Qd "classmethod.__get__") (.QQ p) .QG (.QQ C))/\recIn K p "classmethod"=QB (.QQ f::QA3)/\P (.QQ QO) (Qw (.Q9r f C))
def Co (K:Q1B) (v:QU) (x:X8) (u:QU):PT Yb:=fun σ P=>Ai v fun l=>Bt (QS l) fun C d=>AX (QS d) fun Y5=>IA K C x=QM/\Yu<=900/\P () (Yy d (.Q1X (BC x u Y5)))
inductive BM where
 | Q7z | pop | get | Q6y | add | keys | sort
 deriving Q7k
def BM.ty:BM->XC
 | .Q7z | .pop | .sort=>"list"
 | .get | .Q6y | .keys=>"dict"
 | .add=>"set"
def BM.nm:BM->X8
 | .Q7z=>"append" | .pop=>"pop" | .get=>"get" | .Q6y=>"setdefault" | .add=>"add" | .keys=>"keys" | .sort=>"sort"
def BM.id:BM->XC
 | .Q7z=>"list.append" | .pop=>"list.pop" | .get=>"dict.get" | .Q6y=>"dict.setdefault" | .add=>"set.add" | .keys=>"dict.keys" | .sort=>"list.sort"
def agc:QC BM:=[.Q7z,.pop,.get,.Q6y,.add,.keys,.sort]
def F5 (t:XC) (x:X8):QW BM:=agc.find? fun b=>b.ty == t&&b.nm == x
def DW (K:Q1B) (v:QU) (x:X8):PT (QU×QC QU):=fun σ P=>(Ai v fun l =>
  (Bt (QS l) fun C d=>AX (QS d) fun Y5=>∃f,Ch K C x f=QM/\BJ Y5 x=QG/\P (.imm (.QQ f),[v]) σ) \/
  (Af (QS l) fun _=>Ad (F5 "list" x) fun b=>P (.imm (.Qd QEh),[v]) σ)\/(As (QS l) fun _=>Ad (F5 "dict" x) fun b=>P (.imm (.Qd QEh),[v]) σ) \/
  (Bh (QS l) fun _=>Ad (F5 "set" x) fun b=>P (.imm (.Qd QEh),[v]) σ)) \/
 JI v fun T=>T="tuple"/\x="__new__"/\P (.imm (.Qd "tuple.__new__"),[]) σ
theorem QEi:QFo "set" "add" "set.add":=Q82
theorem QEj:Q16 (.Qd "set.add")=ZX (.Qk "method_descriptor"):=PySem.F.type_set_add
theorem QDR:Q16 (.Qd "list.pop")=ZX (.Qk "method_descriptor"):=PySem.F.type_list_pop
end
section
variable {c:Cx} {A:Around} {env:Env} {fm:Fm} {Λ:Lab} {σ:St}
mutual
theorem Rel.newBm {fz:Qq->QW ZG} {s:QZ} {Q:QI->QZ->Prop} {P:QU->St->Prop} {l:QH} {id:XC} {tk:QH} (r:Rel c fz Qo Λ σ s) (hl:l < Xi) (hP:P (.QQ QO) (Qw (.bm id (.QQ l))))
  (q:∀Zd s' b a XH,Q0C Zd->P b XH->VR Zd b a->Rel c fz Qo Zd XH s'->Q a s') :
  Q (.QQ QD) {s with YO:=XM {cls:=.Qk "builtin_function_or_method",YC:=.Xp #[.Qd id,.QQ (Xs l)]},Q0T:=tk}:=by
 have e:=XN Λ QD
 exact q _ _ _ _ _ e hP (Q1l _ Q3i) (Q9P (tk:=tk) ⟨_,.inl QA,QP hl e.1,by rw [e.2 l hl]⟩ QA)
theorem Ix (hc:Q3S) {v:QU} {a:QI} {x:X8} {P:QU->St->Prop} (hv:VR Λ v a) (h:BB c.K v x σ P):Zt c A X1 fm Λ (QAF a x QM) VR σ P:=by
 injections c A X1 fm Λ σ _ v a x P _ _
 refine Qy ?_ ?_
 ·intros h;refine Q1Y h ?_;intros l ev h;subst ev
  refine Qy ?_ ?_
  ·intros h;refine Bt.el h ?_;intros C d e h;refine AX.el h ?_;intros Y5 e' h
   obtain ⟨h1,h2⟩:=h
   refine Q2x h2 ?_;intros u hu h2
   exact Iw hc hv e e' h1 hu h2.1 h2.2
  intros h;refine Qy ?_ ?_
  ·intros h;refine Q91 h ?_;intros Y5 e h
   obtain ⟨QA,p⟩:=h
   refine Zq ?_;intros fz s ok r Q E q
   obtain ⟨QA,_,cvs,hD,_⟩:=(Q6b hv e)
   obtain ⟨o,es,ep,ho,⟨h1,h2,h3⟩,hd,_⟩:=hD
   exact Er ho h1 hd h2 fun tk=>r.newBm hv.1 p q
  intros h;refine QFY h ?_;intros xs e h
  ·obtain ⟨QA,p⟩:=h
   refine Zq ?_;intros fz s ok r Q E q
   obtain ⟨QA,_,_,hS⟩:=(r.setsV hv e)
   obtain ⟨o,es,ep,t,ho,⟨h1,h2,h3⟩,hd,_⟩:=hS
   exact C3 ho h1 hd h2 fun tk=>r.newBm hv.1 p q
 intros h;refine Cs.el h ?_;intros C ev k
 ·subst ev
  cases hv
  obtain ⟨mc,p,f,QA3,h1,h2,h3,p1⟩:=k
  refine Zq ?_;intros fz s ok r Q E q
  have X:=ZR Q0K
  refine cls_bind X h1 h2 (Q26 (cm_get (s:={s with Q0T:=Y6+1}) X h3 ?_))
  refine QDv QA ?_
  exact q _ _ (.QQ QO) _ _ (XN _ _) p1 (Q1l _ Q3i) (Q9P (tk:=Y6+1) (o:=.Q9r f C) QA QA)
theorem Iu (hc:Q3S) {v u:QU} {a b:QI} {x:X8} {P:Yb->St->Prop} (hv:VR Λ v a) (hu:VR Λ u b) (h:Co c.K v x u σ P):Zt c A X1 fm Λ (setAttr a x b) UR σ P:=by
 refine Q1Y h fun l ev h=>?_;subst ev
 refine Bt.el h fun C d e h=>AX.el h fun Y5 e' h=>Ir hc hv e e' hu h.1 h.2.1 h.2.2
theorem Py {s:QZ} {a:Qq} {x:X8} {b:BM} {t:XC} {o:ZG} {pl:Sem Qu} {Q:QI×QC QI->QZ->Prop} {E:QI->QZ->Prop} (hb:F5 t x=QB b) (ho:Qc a=QB o) (hc:Q4w=.Qk t) (hd:QEf=QG)
  (h:Q (.Qd QEh,[.QQ a]) s):Qp (Qi XK c.w) A (Q8e (.QQ a) x pl) Q E s:=by
 have hp:=Q7O hb
 simp only [X9,ZM]at hp
 obtain (⟨QA,QA⟩):=hp
 have nd:∀a',Q1k a=.QQ a'->∃o,Qc a'=QB o/\QEf=QG:=fun a' e=>by cases e;exact ⟨o,ho,hd⟩
 have hT:Q5U (.QQ a) b.ty:=⟨o,ho,hc⟩
 cases b
 ·exact Q0X hT Q3f PySem.F.slot_list_append PySem.F.type_list_append nd h
 ·exact Q0X hT Q3f PySem.F.slot_list_pop QDR nd h
 ·exact Q0X hT Q3g Q7a PySem.F.type_dict_get nd h
 ·exact Q0X hT Q3g Q4n PySem.F.type_dict_setdefault nd h
 ·exact Q0X hT PySem.F.plainAttrs_set QEi QEj nd h
 ·exact Q0X hT Q3g Q6z PySem.F.type_dict_keys nd h
 ·exact Q0X hT Q3f PySem.F.slot_list_sort PySem.F.type_list_sort nd h
theorem Go {s:QZ} {K:Q1B} (X:QAw QV) {pl:Sem Qu} {Q:QI×QC QI->QZ->Prop} {E:QI->QZ->Prop} (h:Q (.Qd "tuple.__new__",[]) {s with Q0T:=Y6+1}):Qp (Qi XK c.w) A (Q8e (.Qk "tuple") "__new__" pl) Q E s:=by
 have ht:ZO (Qi XK c.w) QV (Q16 (.Qk "tuple")) (.Qk "type"):=Q3E (by kernel_rfl)
 have hg:ZO (Qi XK c.w) QV (Q1s (.Qk "tuple") "__getattribute__") (QB (.Qd "type.__getattribute__")):=ht.andThen (Q28 (K:=[]) (fun _ _ e=>by cases e) type_tga)
 refine Q9 (hg.here ?_)
 dsimp only
 rw [QY canon_tga]
 refine Q9 (cls_open (r:=.val (.Qd "tuple.__new__")) (hook:=QG) X (Q3E (by kernel_rfl)) ht (by kernel_rfl) (Q3E (by kernel_rfl)) (by kernel_rfl) (by kernel_rfl) (QF ?_))
 exact QDv QA (QF h)
theorem MU (hc:Q3S) {v:QU} {a:QI} {x:X8} {pl:Sem Qu} {P:QU×QC QU->St->Prop} (hv:VR Λ v a) (h:DW c.K v x σ P):Zt c A X1 fm Λ (Q8e a x pl) (fun Λ (p:QU×QC QU) (b:QI×QC QI)=>VR Λ p.1 b.1/\VRs Λ p.2 b.2) σ P:=by
 injections c A X1 fm Λ σ _ v a x pl P _ _
 refine Qy ?_ ?_
 ·intros h;refine Q1Y h ?_;intros l ev h;subst ev
  have fin:∀(b:BM) t,F5 t x=QB b->P (.imm (.Qd QEh),[.QQ l]) σ->(∀fz s,Rel c fz Qo Λ σ s->∃o,Qc (Xs l)=QB o/\Q4w=.Qk t/\QEf=QG)->Zt c A X1 fm Λ (Q8e a x pl) (fun Λ (p:QU×QC QU) (b:QI×QC QI)=>VR Λ p.1 b.1/\VRs Λ p.2 b.2) σ P:=by
   intros b t hb p ho
   refine Zq ?_;intros fz s ok r Q E q
   obtain ⟨o,h1,h2,h3⟩:=ho fz s r
   have fin:Q (.Qd QEh,[a]) s:=q Λ s _ (.Qd QEh,[a]) σ (.Q1J _) p ⟨QA,.Xx hv .Zo⟩ r
   rw [hv.2]at fin ⊢
   exact Py hb h1 h2 h3 fin
  refine Qy ?_ ?_
  ·intros h;refine Bt.el h ?_;intros C d e h;refine AX.el h ?_;intros Y5 e' h
   obtain ⟨f,h1,h2,p⟩:=h
   exact HG hc hv e e' h1 h2 p
  intros h;refine Qy ?_ ?_
  ·intros h;refine Q4u h ?_;intros xs e h;refine Q2x h ?_;intros b hb p
   refine fin b _ hb p ?_;intros fz s r
   obtain ⟨co,ho,hor⟩:=(Q3C l hv.1)
   rw [e]at hor;obtain ⟨vs,n,QA,_⟩:=hor;exact ⟨_,ho,QA,QA⟩
  intros h;refine Qy ?_ ?_
  ·intros h;refine Q91 h ?_;intros xs e h;refine Q2x h ?_;intros b hb p
   refine fin b _ hb p ?_;intros fz s r
   obtain ⟨co,ho,hor⟩:=(Q3C l hv.1)
   rw [e]at hor;obtain ⟨cvs,⟨es,ep,he,_⟩,_⟩:=hor;exact ⟨_,ho,he.1,he.2.1⟩
  intros h;refine QFY h ?_;intros xs e h;refine Q2x h ?_;intros b hb p
  ·refine fin b _ hb p ?_;intros fz s r
   obtain ⟨co,ho,hor⟩:=(Q3C l hv.1)
   rw [e]at hor;obtain ⟨_,es,ep,t,he,_⟩:=hor;exact ⟨_,ho,he.1,he.2.1⟩
 intros h;refine JI.el h ?_;intros T ev k
 ·subst ev
  obtain ⟨QA,QA,p⟩:=k
  cases hv
  exact Zq fun fz s ok r Q E q=>Go (ZR Q0K) (q Λ _ _ _ σ (.Q1J _) p ⟨QA,.Zo⟩ Q9N)
def AC (K:Q1B) (v:QU):PT Qu:=fun σ P=>(Cs v fun f=>typeIn K (.QQ f)=QB (.Qk "function")/\P QM σ)\/(Ai v fun l=>Cr (QS l) fun mk lc=>(∀a,(mk a).cls=.Qk "function")/\P QM σ)\/Nc v σ P
theorem GX {s:QZ} {a:Qq} {Q:Qu->QZ->Prop} {E:QI->QZ->Prop} (tt:ZO (Qi XK c.w) QV (Q16 (.QQ a)) (.Qk "function")) (h:Q QM s):Qp (Qi XK c.w) A (QEZ (.QQ a)) Q E s:=by
 injections c A s a Q E _ _
 have l1:ZO (Qi XK c.w) QV (Q1s (.QQ a) "__bool__") QG:=Q70 (Q28 (K:=[]) (fun _ _ e=>by cases e) (by kernel_rfl))
 have l2:ZO (Qi XK c.w) QV (Q1s (.QQ a) "__len__") QG:=Q70 (Q28 (K:=[]) (fun _ _ e=>by cases e) (by kernel_rfl))
 unfold QEZ Q56
 refine Q9 (Q9 (l1.here (QF ?_)))
 refine Q9 (l2.here ?_)
 exact QF h
theorem Ft (hc:Q3S) {v:QU} {x:QI} {P:Qu->St->Prop} (hv:VR Λ v x) (h:AC c.K v σ P):Zt c A X1 fm Λ (QEZ x) ER σ P:=by
 refine Q6s h (fun h=>Cs.el h fun f ev k=>?_) fun h=>Qy (fun h=>Q1Y h fun l ev h=>?_) fun h=>Ll hv h <;> subst ev
 ·cases hv
  exact Zq fun fz s ok r Q E q=>GX (looks_typeIn (ZR Q0K) k.1) (q Λ s _ _ σ (.Q1J _) k.2 QA r)
 ·refine Cr.el h fun mk lc e h=>?_
  ·refine Zq fun fz s ok r Q E q=>?_
   refine ew1 (Q3C l hv.1) fun o yq13=>?_;refine an2 yq13 fun ho hor=>?_;clear yq13
   rw [e]at hor
   have tt:ZO (Qi XK c.w) QV (Q16 (.QQ (Xs l))) Q4w:=(Q1m ho).Q2q .now
   rw [hor.2,h.1]at tt
   rw [hv.2]
   exact GX tt (q Λ s _ _ σ (.Q1J _) h.2 QA r)
end
end
end Mini
end
section
open PySem PySem.W PySem.Calls PyProof.Rows
namespace Mini
noncomputable def Bx (args:List Val):PT Val:=fun σ P=>on2 args fun a v=>Ai a fun l=>Af (σ.hp l) fun xs=>xs.length<=sizeLine/\P .none (σ.upd l (.list (xs++[v])))
noncomputable def ae5 (args:List Val):PT Val:=fun σ P=>on1 args fun a=>Ai a fun l=>Af (σ.hp l) fun xs=>xs.length<=sizeLine/\∃ys y,xs=ys++[y]/\P y (σ.upd l (.list ys))
noncomputable def TU (args:List Val):PT Val:=fun σ P=>on3 args fun a k v=>Ai a fun l=>As (σ.hp l) fun kvs=>Ad (Bn k) fun k=>P ((Ak kvs k).getD v) σ
noncomputable def EG (args:List Val):PT Val:=fun σ P=>on3 args fun a k v=>Ai a fun l=>As (σ.hp l) fun kvs=>Ad (Bn k) fun k =>
 kvs.length<=sizeLine/\(match Ak kvs k with | some u=>P u σ | none=>P v (σ.upd l (.dict (Ce kvs k v))))
noncomputable def ae7 (args:List Val):PT Val:=fun σ P=>on2 args fun a k=>Ai a fun l=>Bh (σ.hp l) fun xs=>Ad (Bn k) fun k=>xs.length+1 < scanBound/\P .none (σ.upd l (.set (if k∈xs then xs else xs++[k])))
noncomputable def ahP (args:List Val):PT Val:=fun σ P=>on2 args fun a k=>Ai a fun l=>Bh (σ.hp l) fun xs=>Ad (Bn k) fun k=>P (.bool (decide (k∈xs))) σ
noncomputable def ahQ (args:List Val):PT Val:=fun σ P=>on1 args fun a=>Bi a fun i=>0<=i/\i<=1114111/\P (.str ⟨#[i.toNat]⟩) σ
noncomputable def ae6 (args:List Val):PT Val:=fun σ P=>on1 args fun v=>TR v σ P
noncomputable def KH (args:List Val):PT Val:=fun σ P=>on1 args fun a=>Ai a fun l=>As (σ.hp l) fun _=>P (.ref σ.nx) (σ.alloc (.keysv l))
noncomputable def pB (id:String) (args:List Val):PT Val:=fun σ P =>
 if id="len" then ae6 args σ P
 else if id="list.append" then Bx args σ P
 else if id="list.pop" then ae5 args σ P
 else if id="dict.get" then TU args σ P
 else if id="dict.setdefault" then EG args σ P
 else if id="set.add" then ae7 args σ P
 else if id="chr" then ahQ args σ P
 else if id="dict.keys" then KH args σ P
 else False
noncomputable def pBm (id:String) (args:List Val):PT Val:=fun σ P =>
 if id="dict.get" then TU args σ P
 else if id="set.__contains__" then ahP args σ P
 else False
section
variable {c:Cx} {A:Around} {env:Env} {fm:Fm} {Λ:Lab} {σ:St}
mutual
theorem id' {p:Prop} (h:p):p:=h
theorem VRs.one {Λ:Lab} {v:QU} {as:QC QI} (h:VRs Λ [v] as):∃a,as=[a]/\VR Λ v a:=by
 injections Λ v as _
 cases h with | Xx h r=>cases r;exact ⟨_,QA,h⟩
theorem HL (p:QC QI) (y:QI):kl_last (p++[y])=QB (p,y):=by
 induction p with
 | Zo=>rfl
 | Xx a p ih =>
  cases p with
  | Zo=>rfl
  | Xx b p=>simp only [List.cons_append]at ih ⊢;unfold kl_last;rw [ih]
theorem Fw {Xc:QC QU} {as:QC QI} {P:QU->St->Prop} (ha:VRs Λ Xc as) (h:Bx Xc σ P):Zt c A X1 fm Λ (Q0Q (.Qd "list.append") as) VR σ P:=by
 injections c A X1 fm Λ σ Xc as P _ _
 refine QCb ha h ?_;intros u v a b h1 h2 h;refine Q1Y h ?_;intros l eu h;subst eu
 refine Q4u h ?_;intros xs e h
 ··refine Zq ?_;intros fz s ok r Q E q
   obtain ⟨QA,g1,vs,n,a1,a2⟩:=(Q0w h1 e)
   refine wpAny_list_append_plain ⟨n,a1⟩ ?_ (by rw [XW,<- Zk];exact h.1);intros h' hl hs
   obtain ⟨n',hn'⟩:=hl
   refine q Λ _ _ _ _ (.Q1J _) h.2 QA (QDl (tk:=Y6) g1 (fun b' o' hb e'=>(hs.2 b' hb).QR e') hn' ⟨vs++[b],n',by simp,a2.append (.Xx h2 .Zo)⟩)
theorem VRs.snoc {Λ:Lab} {ys:QC QU} {y:QU}:∀ {vs:QC QI},VRs Λ (ys++[y]) vs->∃ws z,vs=ws++[z]/\VRs Λ ys ws/\VR Λ y z:=by
 induction ys with
 | Zo=>intro vs a2;refine ew1 (VRs.one a2) fun z yq1d=>?_;refine an2 yq1d fun yq1e hz=>?_;obtain QA:=yq1e;clear yq1d;exact ⟨[],z,QA,.Zo,hz⟩
 | Xx u ys ih =>
  intro vs a2
  cases a2 with | Xx h r =>
   refine ew2 (ih r) fun ws z yq1f=>?_;refine an3 yq1f fun yq1g b1 b2=>?_;obtain QA:=yq1g;clear yq1f
   exact ⟨_::ws,z,QA,.Xx h b1,b2⟩
theorem OM {Xc:QC QU} {as:QC QI} {P:QU->St->Prop} (ha:VRs Λ Xc as) (h:ae5 Xc σ P):Zt c A X1 fm Λ (Q0Q (.Qd "list.pop") as) VR σ P:=by
 injections c A X1 fm Λ σ Xc as P _ _
 refine Q71 ha h ?_;intros u a h1 h;refine Q1Y h ?_;intros l eu h;subst eu
 refine Q4u h ?_;intros xs e h
 ··obtain ⟨hz,ys,y,QA,p⟩:=h
   refine Zq ?_;intros fz s ok r Q E q
   obtain ⟨QA,g1,vs,n,a1,a2⟩:=(Q0w h1 e)
   obtain ⟨ws,z,QA,b1,b2⟩:=(VRs.snoc a2)
   obtain ⟨m,F,_⟩:=r.fr
   refine kl_pop F (r.ledAt g1 a1) (HL ws z) (.Zf Dp) (by simpa [<- Zk] using hz) ?_;intros h' F' N'
   exact q Λ _ _ _ _ (.Q1J _) p b2 (r.turned (tk:=Y6) g1 F F' N' ⟨ws,n+1,QA,b1⟩)
theorem QHJ {Λ:Lab} {o:QW QU} {oc:QW QI} {v:QU} {d:QI} (h:OV Λ o oc) (hv:VR Λ v d):VR Λ (o.getD v) (oc.getD d):=by
 cases o <;> cases oc <;> first | exact hv | exact h | exact Qy
theorem OO {Xc:QC QU} {as:QC QI} {P:QU->St->Prop} (ha:VRs Λ Xc as) (h:TU Xc σ P):Zt c A X1 fm Λ (Q0Q (.Qd "dict.get") as) VR σ P:=by
 refine on3.el ha h fun u k v a b d h1 h2 h3 h=>Q1Y h fun l eu h=>?_;subst eu
 refine Q91 h fun Y5 e h=>Q2x h fun kk ek h=>?_
 ··refine Xk h fun fz s Q E r q=>?_
   refine an3 (Q6b h1 e) fun yq1u g1 yq1v=>?_;obtain QA:=yq1u;refine ew1 yq1v fun cvs yq1w=>?_;refine an2 yq1w fun hD hk=>?_;clear yq1v yq1w
   exact QA6 Q7a Q8b Q6w (PySem.F.args_dict_get_3 _ _ _) (Q6x (knd XK c.w) _ (B0 ek h2) (QDw _ h1.1) d) ⟨_,hD.mapOf,q _ _ (QHJ (QGm _) h3)⟩
theorem Fu {Xc:QC QU} {as:QC QI} {P:QU->St->Prop} (ha:VRs Λ Xc as) (h:EG Xc σ P):Zt c A X1 fm Λ (Q0Q (.Qd "dict.setdefault") as) VR σ P:=by
 injections c A X1 fm Λ σ Xc as P _ _
 refine on3.el ha h ?_;intros u k v a b d h1 h2 h3 h;refine Q1Y h ?_;intros l eu h;subst eu
 refine Q91 h ?_;intros Y5 e h;refine Q2x h ?_;intros kk ek h
 ··obtain ⟨hz,h⟩:=h
   refine Zq ?_;intros fz s ok r Q E q
   obtain ⟨QA,g1,cvs,hD,hk⟩:=(Q6b h1 e)
   have hg:=QGm (by assumption)
   refine E3 (knd:=knd XK c.w) (B0 ek h2) hD (QDw _ h1.1) ?_ ?_ (by rw [<- QDx];exact hz)
   ·intros u hu
    rw [hu]at hg
    split at h
    ·rename_i ek';rw [ek']at hg;exact q Λ _ _ _ σ (.Q1J _) h hg Q9N
    ·rename_i ek';rw [ek']at hg;exact QHK
   ·intros hn h' hD' hs
    rw [hn]at hg
    split at h
    ·rename_i ek';rw [ek']at hg;exact QHK
    ·obtain ⟨o,ho,hor⟩:=(QAu (c:=c) hD' (hk.set _ h3))
     exact q Λ _ _ _ _ (.Q1J _) h h3 (QDl (tk:=Y6+1) g1 (fun b' o' hb e'=>(hs.2 b' hb).QR e') ho hor)
theorem OS {Xc:QC QU} {as:QC QI} {P:QU->St->Prop} (ha:VRs Λ Xc as) (h:ae7 Xc σ P):Zt c A X1 fm Λ (Q0Q (.Qd "set.add") as) VR σ P:=by
 injections c A X1 fm Λ σ Xc as P _ _
 refine QCb ha h ?_;intros u v a b h1 h2 h;refine Q1Y h ?_;intros l eu h;subst eu
 refine QFY h ?_;intros xs e h;refine Q2x h ?_;intros k ek h
 ··refine Zq ?_;intros fz s ok r Q E q
   obtain ⟨QA,g1,hn,hS⟩:=(r.setsG h1 e)
   refine LL (knd:=knd XK c.w) (B0 ek h2) (IW ek h2) hS h.1 ?_;intros h' hs hS'
   obtain ⟨o,ho,hor⟩:=OR.ofSet (c:=c) (Λ:=Λ) (xs:=if k∈xs then xs else xs++[k]) (by
     split
     ·exact hn
     ·rename_i hk;rw [Q5v];exact ⟨hn,by simp,fun a ha b hb=>by simp at hb;subst hb;exact fun e=>hk (e▸ha)⟩) hS' (fun k'=>by
     by_cases hk:k∈xs
     ·simp only [hk,Q5u,Q2D,Xm]
      exact ⟨fun h=>Qy id (fun e=>e▸hk),.inl⟩
     ·simp [hk]) (by by_cases hk:k∈xs <;> simp [hk])
   exact q Λ _ _ _ _ (.Q1J _) h.2 QA (QDl (tk:=Y6+1) g1 (fun b' o' hb e'=>(hs.2 b' hb).QR e') ho hor)
theorem Jv {Xc:QC QU} {as:QC QI} {P:QU->St->Prop} (ha:VRs Λ Xc as) (h:KH Xc σ P):Zt c A X1 fm Λ (Q0Q (.Qd "dict.keys") as) VR σ P:=by
 refine Q71 ha h fun u a h1 h=>Q1Y h fun l eu h=>?_;subst eu
 refine Q91 h fun Y5 e h=>?_
 ··refine Zq fun fz s ok r Q E q=>?_
   refine an3 (Q6b h1 e) fun yq1I g1 yq1J=>?_;obtain QA:=yq1I;refine ew1 yq1J fun cvs yq1K=>?_;refine an2 yq1K fun hD hk=>?_;clear yq1J yq1K
   refine QA6 Q6z Q8b PySem.F.entry_dict_keys (PySem.F.args_dict_keys_1 _) (kdl_meets_keys (knd XK c.w) (Xs l) (QDw l h1.1)) ⟨⟨cvs,hD⟩,?_⟩
   exact q _ _ _ _ _ (XN _ _) h (Q1l _ Q3i) (Q9P (tk:=Y6) ⟨Q2T h1.1,by rw [(XN Λ QD).2 l h1.1]⟩ QA)
theorem aeN {id:XC} {Xc:QC QU} {as:QC QI} {P:QU->St->Prop} (ha:VRs Λ Xc as) (h:pB id Xc σ P):Zt c A X1 fm Λ (Q0Q (.Qd id) as) VR σ P:=by
 injections c A X1 fm Λ σ id Xc as P _ _
 refine Q0g h ?_ ?_
 ·intros e k
  subst e;exact Q71 ha k fun v a h1 h=>Kz h1 h
 intros h
 refine Q0g h ?_ ?_
 ·intros e k
  subst e;exact Fw ha k
 intros h
 refine Q0g h ?_ ?_
 ·intros e k
  subst e;exact OM ha k
 intros h
 refine Q0g h ?_ ?_
 ·intros e k
  subst e;exact OO ha k
 intros h
 refine Q0g h ?_ ?_
 ·intros e k
  subst e;exact Fu ha k
 intros h
 refine Q0g h ?_ ?_
 ·intros e k
  subst e;exact OS ha k
 intros h
 refine Q0g h ?_ ?_
 ·intros e k
  subst e;refine Q71 ha k ?_;intros v a h1 h;refine QBT h ?_;intros i ei h
  subst ei;obtain ⟨t,QA⟩:=h1
  exact Xk h.2.2 fun fz s Q E r q=>chr_of_range h.1 h.2.1 (q _ _ ⟨_,QA⟩)
 intros h
 refine Q0g h ?_ fun h=>Qy;intros e k
 subst e;exact Jv ha k
theorem TG {l:QH} {id:XC} {Q1g:QU} {x:QI} {Xc:QC QU} {as:QC QI} {P:QU->St->Prop} (hx:VR Λ (.QQ l) x) (e:QS l=.bm id Q1g) (ha:VRs Λ Xc as) (h:pBm id (Q1g::Xc) σ P):Zt c A X1 fm Λ (Q0Q x as) VR σ P:=fun fz s Q E ok r q=>by
 refine ew1 (Q3C l hx.1) fun o yq1Q=>?_;refine an2 yq1Q fun ho hor=>?_;clear yq1Q
 rw [e]at hor
 obtain (⟨cs,hob,QFy⟩):=hor
 rw [hx.2]
 refine Q26 ?_
 refine Q0g h (fun ei k=>?_) fun h=>Q0g h (fun ei k=>?_) fun h=>Qy
 ·subst ei
  refine QCb ha k fun k v b d' h2 h3 h=>Q1Y h fun d ed h=>?_;subst ed
  refine Q91 h fun Y5 ed h=>Q2x h fun kk ek h=>?_
  ··refine an3 (Q6b QFy ed) fun yq1T g1 yq1U=>?_;obtain QA:=yq1T;refine ew1 yq1U fun cvs yq1V=>?_;refine an2 yq1V fun hD hk=>?_;clear yq1U yq1V
    obtain (⟨od,es,ep,hod,⟨c1,c2,c3⟩,QCa,_⟩):=id' hD
    obtain (⟨cc,cd,cdat,csl⟩):=od
    simp only at c1 c2 c3 QCa
    subst c1 c2 c3 QCa
    refine HY (Q27 _ (by decide +XD)) ho hob (fun A' Q' hq=>HU hod hq) ?_
    exact GA (knd:=knd XK c.w) hD (QDw _ QFy.1) (B0 ek h2) (q Λ _ _ _ σ (.Q1J _) h (QHJ (QGm _) h3) Q9N)
 ·subst ei
  refine Q71 ha k fun k b h2 h=>Q1Y h fun d ed h=>?_;subst ed
  refine QFY h fun xs ed h=>Q2x h fun kk ek h=>?_
  ··refine an4 (r.setsV QFy ed) fun yq1Y g1 hn hS=>?_;obtain QA:=yq1Y
    obtain (⟨od,es,ep,tb,hod,⟨c1,c2,c3⟩,QCa,_⟩):=id' hS
    obtain (⟨cc,cd,cdat,csl⟩):=od
    simp only at c1 c2 c3 QCa
    subst c1 c2 c3 QCa
    refine HY (Q27 _ (by decide +XD)) ho hob (fun A' Q' hq=>Jd hod hq) ?_
    exact HT (knd:=knd XK c.w) (B0 ek h2) (IW ek h2) hS (q Λ _ _ _ σ (.Q1J _) h QA Q9N)
end
end
end Mini
end
section
open PySem PySem.W PySem.Calls PyProof.Rows
namespace Mini
noncomputable def Du (K:Frag) (C:Addr):Bool:=(findIn K (.ref C) "__iter__" == some (some (.builtin "tuple.__iter__")))&&(subIn K (.ref C) (.type "tuple") == some true)
section
variable {prog:Program} {w:World} {A:Around} {E:Value->Shared->Prop} {s:Shared} {K:Frag} {t C:Addr} {items:Array Value} {n:Nat}
mutual
theorem OE:QBa "tuple.__iter__"=QB .slot:=by decide +XD
theorem MA:QHL "tuple.__iter__"=QB ("tuple","__iter__"):=by decide +XD
theorem MB:QBx "tuple.__iter__"=QM:=by decide +XD
theorem Oa {Q1g:QI} {T Q1z:X8} {id:XC} {refuse:Sem QI} {TT:XC} {M:Model} {Q:QW QI->QZ->Prop} (L:ZO M QV (Q1s Q1g Q1z) (QB (.Qd id))) (hb:QFz (.Qd id) Q1g=ZX (.Qd id,[Q1g]))
  (hc:Qp M A (Q0Q (.Qd id) [Q1g]) (fun v=>Q (QB v)) E s):Qp M A (Q4g Q1g Q1z refuse) Q E s:=by
 simp only [Q4g,Q8p]
 refine Xa (Q9 (Q9 (L.here ?_)))
 simp only [hb]
 refine Q9 (Q1o (QDy ?_))
 have fin:Qp M A (if (Q4Y id == Zy)=QM then (refuse >>= fun v=>ZX (QB v)) else (Q0Q (.Qd id) [Q1g] >>= fun v=>ZX (QB v))) Q E s:=by
  simp only [builtin_beq_none,XU,Zi]
  exact Q9 (Yd hc (fun v s' h'=>QF h') fun _ _ h'=>h')
 split
 ·exact Q9 (QF (QF fin))
 ·exact Q84 (Q9 (QF (QF fin)))
theorem IX {Q:QI->QZ->Prop} {dct:QW Qq} (X:QAw QV) (hk:Du K C=QM) (ho:Qc t=QB {cls:=.QQ C,Q04:=dct,YC:=.seq Xr n})
  (hQ:Q (.QQ QD) {s with YO:=XM {cls:=.Qk "tuple_iterator",YC:=.Xp #[.QQ t,.Qm 0 0]}}) :
  Qp (Qi XE w) A (Q4o (.QQ t)) Q E s:=by
 injections XE w A E s K t C Xr n Q dct _ _ _ _
 simp only [Du,X9,ZM]at hk
 have LT:ZO (Qi XE w) QV (Q16 (.QQ t)) (.QQ C):=(Q1m ho).Q2q .now
 have LI:ZO (Qi XE w) QV (Q1s (.QQ t) "__iter__") (QB (.Qd "tuple.__iter__")):=Q4L (Q28 X hk.1)
 have LS:ZO (Qi XE w) QV (Zz (.QQ t) (.Qk "tuple")) QM:=Q4L (Q5y X hk.2)
 have hcall:∀(Q':QI->QZ->Prop),Q' (.QQ QD) {s with YO:=XM {cls:=.Qk "tuple_iterator",YC:=.Xp #[.QQ t,.Qm 0 0]}}->Qp (Qi XE w) A (Q0Q (.Qd "tuple.__iter__") [.QQ t]) Q' E s:=by
  intros Q' hq
  refine Q26 (Q2Z (b:=Builtin.«tuple.__iter__») MB entry_tuple_iter ?_)
  refine Q72 (i:="tuple.__iter__") (Q7q:="tuple") (n:="__iter__") (Q1g:=.QQ t) (QA3:=[]) (kw:=[]) OE MA LS (args_tuple_iter _) ?_
  show Qp _ _ (do ret (<- QDu "tuple_iterator" [.QQ t,Zp 0])) _ _ s
  exact Q9 (Xl (QF hq))
 refine Q9 (QEk ?_)
 refine Q9 (Oa (T:="tuple") (TT:="tuple") LI (slot_tuple_iter.bind _) (hcall _ ?_))
 exact Q9 (Q7P (T:="tuple_iterator") ⟨_,X3 _ QA,QA⟩ slot_tupleiter_next.lookup (QF hQ))
def Bk (h:ZS) (t:Qq) (Xr:XP QI):Prop:=∃o n,Q05 t=QB o/\Q21=.seq Xr n
theorem Bk.extBut {h h':ZS} {b:Qq} (x:Bk h t Xr) (hs:Q0o b h h') (hab:t≠b):Bk h' t Xr:=let ⟨o,n,ho,hd⟩:=x;⟨o,n,hs t o hab ho,hd⟩
theorem Bk.push {h:ZS} (x:Bk h t Xr) (o:ZG):Bk (h.push o) t Xr:=let ⟨o',n,ho,hd⟩:=x;⟨o',n,Qa _ ho,hd⟩
theorem DY {it:Qq} {i:QH} {x:QI} {Q:QW QI->QZ->Prop} (hit:Q4M QV it t i)
  (ht:Bk QV t Xr) (hx:Xr[i]?=QB x)
  (hQ:∀h',Q4M h' it t (i+1)->ZC it QV h'->Q (QB x) {s with YO:=h'}) :
  Qp (Qi XE w) A (Q3W (.QQ it)) Q E s:=by
 obtain (⟨o,ho,hc,hd⟩):=id hit
 obtain (⟨ol,nl,hol,hdl⟩):=ht
 refine Q9 (Q3I (YK (Q1z:=Qb "__next__") Q3X Q33
  (Y3 Q33 Q3X Q85 ?_ (Q8q _))))
 show Qp _ _ (QG0 (.QQ it) 0 >>= _) _ _ s
 refine Q9 (Q0p ho hd (x:=.QQ t) QA ?_)
 rw [QN (show ¬((Q1k t == Zy)=QM) from Qj)]
 refine Q9 (Q0p ho hd (x:=.Qm i 0) QA ?_)
 refine Q9 (Z0 hol hdl ?_)
 simp only [ZE,hx]
 refine Q9 (Z1 ho hd (by simp) (QF ⟨x,QA,QF (hQ _ ?_ (XX ..))⟩))
 exact ⟨_,XS _ ho (Yg (XL hd _)),(Q0Y ..).QR hc,by
  rw [XL hd];simp [Zp]⟩
theorem EJ {it:Qq} {i:QH} {Q:QW QI->QZ->Prop} (hh:Q4N=QG)
  (hit:Q4M QV it t i) (ht:Bk QV t Xr) (hx:Xr[i]?=QG)
  (hQ:∀h',Q0o it QV h'->Q QG {s with YO:=h'}):Qp (Qi XE w) A (Q3W (.QQ it)) Q E s:=by
 injections XE w A E s t Xr it i Q _ _ _ _ _
 obtain ⟨o,ho,hc,hd⟩:=id hit
 obtain ⟨ol,nl,hol,hdl⟩:=ht
 refine Q9 (Q3I (YK (Q1z:=Qb "__next__") Q3X Q33 (Y3 Q33 Q3X Q85 ?_ (Q8q _))))
 show Qp _ _ (QG0 (.QQ it) 0 >>= _) _ _ s
 refine Q9 (Q0p ho hd (x:=.QQ t) QA ?_)
 rw [QN (show ¬((Q1k t == Zy)=QM) from Qj)]
 refine Q9 (Q0p ho hd (x:=.Qm i 0) QA ?_)
 refine Q9 (Z0 hol hdl ?_)
 simp only [ZE,hx]
 refine Q9 (Q0b (Q9 (Z1 ho hd (by simp) ?_)))
 refine Q9 ?_
 simp only [QCc,QAG]
 refine Q9 (Xl ?_ (by size_fits))
 refine Q9 (m:=Q2b _ _) (Zl (a:=Zy) (by first | rfl | (simp only [Q2b];rfl)) ?_)
 refine Xl ?_ (by size_fits)
 simp only [QAH]
 refine Q9 (Q97 ?_)
 first | rw [show Q98=QG from hh] | rw [hh]
 refine Q9 (QF (QBb ?_))
 refine Q9 (Q2u (T:="StopIteration") (b:=QM) ⟨_,X3 _ QA,QA⟩ Q86 ?_)
 exact QF (hQ _ (((XX ..).QG1 _).Q6G _))
theorem K2 {it:Qq} (hne:t≠it):∀(n i:QH) (s:QZ) (Q:QC QI->QZ->Prop),Q4M QV it t i->Bk QV t Xr->i+n<=Z6 ->
  (∀h',Q4M h' it t (i+n)->ZC it QV h'->Q ((Q5z i).take n) {s with YO:=h'})->Qp (Qi XE w) A (draw (.QQ it) n) Q E s
 | 0,i,s,Q,hit,_,_,hQ=>by
  exact QF (by simpa using hQ QV hit (Q5x ..))
 | n+1,i,s,Q,hit,ht,hle,hQ=>by
  have hlt:i < Z6:=by exact Ck hle
  refine Q9 (DY hit ht (x:=Xr[i]) (by simp [hlt]) fun Q1S QGn hs₁=>?_)
  refine Q9 (Xa (K2 hne n (i+1) _ _ QGn (ht.extBut QAI hne) (by exact Mf hle) fun QCd hit₂ hs₂=>QF ?_))
  have hd:Q5z i=Xr[i]::Q5z (i+1):=by simp [YP,hlt]
  have:=hQ QCd (by rw [show i+(n+1)=i+1+n by exact Me];exact hit₂) (hs₁.trans hs₂)
  rw [hd,Q8r]at this
  exact this
theorem EU {Q:QC QI->QZ->Prop} {dct:QW Qq} (hh:Q4N=QG) (X:QAw QV) (hk:Du K C=QM) (ho:Qc t=QB {cls:=.QQ C,Q04:=dct,YC:=.seq Xr n})
  (hQ:∀h',Q0o QD QV h'->Q Q73 {s with YO:=h'}):Qp (Qi XE w) A (QG2 (.QQ t) Z6 QG) Q E s:=by
 injections XE w A E s K t C Xr n Q dct _ _ _ _ _
 have hlt:t≠QD:=Xv (X0 ho)
 have ht:Bk QV t Xr:=⟨_,n,ho,QA⟩
 have hk':=hk
 simp only [Du,X9,ZM]at hk'
 have LT:ZO (Qi XE w) QV (Q16 (.QQ t)) (.QQ C):=(Q1m ho).Q2q .now
 have LI:ZO (Qi XE w) QV (Q1s (.QQ t) "__iter__") (QB (.Qd "tuple.__iter__")):=Q4L (Q28 X hk'.1)
 refine Q9 ?_
 ·skip
  refine Q9 (QEk ?_)
  refine QF ?_
  rw [QN Qj]
  refine Q9 (Xa (IX X hk ho ?_))
  refine Q9 (Xa (K2 hlt Z6 0 _ _ ⟨_,X3 _ QA,QA,QA⟩ (ht.push _) (by exact aeo) fun Q1S QGn hs₁=>?_))
  have hall:QDz Z6 (List.drop 0 Q73)=Q73:=by
   rw [QCe];exact Q74 (by simp)
  rw [hall]
  rw [QN (by simp)]
  have ht₁:Bk Q1S t Xr:=(ht.push _).QCf QAI hlt
  refine Q9 (Xa (EJ hh QGn ht₁ (by simp) ?_));intros QCd he₂
  simp only [Option.isSome_none,XU,Zi]
  refine QF (hQ QCd ?_);intros b o hb e;refine he₂ b o hb (QAI b o hb (Qa _ e))
end
end
noncomputable def AR (K:Frag) (v:Val) (n:Nat):PT (List Val):=fun σ P=>Ai v fun l=>(Cp (σ.hp l) fun xs=>xs.length=n/\P xs σ)\/(Cq (σ.hp l) fun C xs=>Du K C=true/\xs.length=n/\P xs σ)
section
variable {c:Cx} {A:Around} {env:Env} {fm:Fm} {Λ:Lab} {σ:St}
mutual
theorem Rel.ext1 {fz:Qq->QW ZG} {L:Qq} {s:QZ} (r:Rel c fz L Λ σ s) {h':ZS} (he:Q0o QD QV h'):Rel c fz L Λ σ {s with YO:=h'} :=
 Q6H (tk:=Y6) (dr:=Q1I) fun b o e=>he b o (Xv (X0 e)) e
theorem Fs (hc:Q3S) (hA:AOk A) {v:QU} {a:QI} {n:QH} {P:QC QU->St->Prop} (hv:VR Λ v a) (h:AR c.K v n σ P):Zt c A X1 fm Λ (QG2 a n QG) VRs σ P:=by
 injections c A X1 fm Λ σ _ _ v a n P _ _
 refine Q1Y h ?_;intros l ev h;subst ev
 ·refine Qy ?_ ?_
  ·intros h;refine QH3 h ?_;intros xs e h
   obtain ⟨QA,p⟩:=h
   refine Zq ?_;intros fz s ok r Q E q
   obtain ⟨QA,g1,vs,k,a1,a2⟩:=(QAo hv e)
   have:=unpackItems_tuple (XE:=XK) (w:=c.w) (A:=A) (E:=E) (Q:=Q) (s:=s) Q0c (B1 a1) fun h' he=>q Λ _ xs _ σ (.Q1J _) p a2 (r.ext1 he)
   rw [XW,<- Zk]at this
   exact this
  intros h;refine Cq.el h ?_;intros C xs e h
  ·obtain ⟨hk,QA,p⟩:=h
   refine Zq ?_;intros fz s ok r Q E q
   obtain ⟨o,ho,hor⟩:=(Q3C l hv.1)
   rw [e]at hor
   obtain ⟨vs,k,dct,QA,a2⟩:=hor
   have:=EU (XE:=XK) (w:=c.w) (A:=A) (E:=E) (Q:=Q) (s:=s) Q0c (ZR Q0K) hk ho fun h' he=>q Λ _ xs _ σ (.Q1J _) p a2 (r.ext1 he)
   rw [XW,<- Zk]at this
   rw [hv.2];exact this
end
end
end Mini
end
section
open PySem PySem.W PySem.Calls PyProof.Rows
set_option genInjectivity false
set_option genSizeOf false
namespace Mini
inductive Fl where
 | next
 | brk
 | cont
 | ret (v:Val)
instance:Nonempty Fl:=⟨.next⟩
noncomputable def FR (Λ:Lab):Fl->Flow->Prop
 | .next,f=>f=.next
 | .brk,f=>f=.brk
 | .cont,f=>f=.cont
 | .ret v,f=>∃c,f=.ret c/\VR Λ v c
noncomputable def AS {α:Type} (stay:St->Prop) (turn:α->PT Fl):List α->PT Fl
 | [],σ,P=>stay σ/\P .next σ
 | x::r,σ,P=>stay σ/\turn x σ fun fl σ=>match fl with
   | .next=>AS stay turn r σ P
   | .cont=>AS stay turn r σ P
   | .brk=>P .next σ
   | .ret v=>P (.ret v) σ
open Classical in
noncomputable def fzO (fz:Addr->Option Obj) (own:List Addr) (h:Heap):Addr->Option Obj:=fun b=>if b∈own then h.get? b else fz b
section
variable {c:Cx} {fz:Addr->Option Obj} {L:Addr} {Λ:Lab} {σ:St} {s:Shared} {own:List Addr}
mutual
theorem Rel.hold (R:Rel c fz L Λ σ s) (h1:∀b∈own,fz b=QG) (h2:L∉own) (h3:∀l,l < Xi->Xs l∉own):Rel c (fzO fz own QV) L Λ σ s where
 nn:=Q45
 ns:=QCI
 Q4c:=fun b o e=>by
  unfold fzO at e
  split at e
  ·exact e
  ·exact Q4F b o e
 Q8m:=fun b o e=>by
  unfold fzO
  have:=Q5N b o e
  split
  ·rename_i hb;rw [h1 b hb]at this;cases this
  ·exact this
 fzL:=by unfold fzO;rw [QN h2];exact Q6V
 ob:=Q6E
 fzl:=fun l hl=>by unfold fzO;rw [QN (h3 l hl)];exact Q5s l hl
 lne:=Q5O
 inj:=Q7M
 Q4x:=Q3m
 low:=Q6W
 nsm:=Q92
 os:=QDH
 Q0P:=Q6F
theorem Rel.free {h:ZS} (R:Rel c (fzO fz own h) L Λ σ s) (hb:∀b o,Q39 b=QB o->fz b=QB o) (h1:∀b∈own,fz b=QG) (h2:∀b∈own,∃o,Q05 b=QB o) :
  Rel c fz L Λ σ s/\(∀b∈own,∀o,Q05 b=QB o->Qc b=QB o)/\∀l,l < Xi->Xs l∉own:=by
 have sub:∀b o,fz b=QB o->fzO fz own h b=QB o:=fun b o e=>by
  unfold fzO
  split
  ·rename_i hb;rw [h1 b hb]at e;cases e
  ·exact e
 refine ⟨{nn:=Q45,ns:=QCI,Q4c:=fun b o e=>Q4F b o (sub b o e),Q8m:=hb,fzL:=?_,ob:=Q6E,fzl:=fun l hl=>?_,lne:=Q5O,inj:=Q7M,Q4x:=Q3m,low:=Q6W,nsm:=Q92,os:=QDH,Q0P:=Q6F},fun b hb o e=>Q4F b o (by unfold fzO;rw [QY hb];exact e),fun l hl hm=>?_⟩
 ·cases q:fz L with
  | QG=>rfl
  | QB o=>have:=sub _ _ q;rw [Q6V]at this;cases this
 ·cases q:fz (Xs l) with
  | QG=>rfl
  | QB o=>have:=sub _ _ q;rw [Q5s l hl]at this;cases this
 ·obtain (⟨o,ho⟩):=h2 _ hm
  have:=Q5s l hl
  unfold fzO at this
  rw [QY hm,ho]at this;cases this
structure It (c:Cx) (A:Q2z) (X1:Env) (Λ₀:Lab) (fz:Qq->QW ZG) (I:Qq) (own:QC Qq) (Xr:QC QU) (Q3J:St->Prop) (J:QH->ZS->Prop):Prop where
 QCR:∀i h h',J i h->(∀b∈own,∀o,Q05 b=QB o->ZB b=QB o)->J i h'
 QCg:∀i h,J i h->∀b∈own,∃o,Q05 b=QB o
 fzo:∀b∈own,fz b=QG
 noL:Qo∉own
 YE:∀i x Λ σ s (Q:QW QI->QZ->Prop) (E:QI->QZ->Prop),Λ₀.Ext Λ->Rel c fz Qo Λ σ s->Q3J σ->J i QV->Xr[i]?=QB x ->
  (∀v h' tk dr,VR Λ x v->J (i+1) h'->(∀b o,b∉own->Qc b=QB o->ZB b=QB o)->Q (QB v) {s with YO:=h',Q0T:=tk,Q3A:=dr})->Qp (Qi XK c.w) A (Q3W (.QQ I)) Q E s
 Q55:∀Λ σ s (Q:QW QI->QZ->Prop) (E:QI->QZ->Prop),Λ₀.Ext Λ->Rel c fz Qo Λ σ s->Q3J σ->J Yi QV ->
  (∀h' tk dr,(∀b o,b∉own->Qc b=QB o->ZB b=QB o)->Q QG {s with YO:=h',Q0T:=tk,Q3A:=dr})->Qp (Qi XK c.w) A (Q3W (.QQ I)) Q E s
 go:∀i Q1t v s (Q:Yb->QZ->Prop) (E:QI->QZ->Prop),J i QV->Q () s->Qp (Qi XK c.w) A (Q7Q Q1t (.QQ I) v) Q E s
 Q1g:∀i s (Q:QI->QZ->Prop) (E:QI->QZ->Prop),J i QV->Q (.QQ I) s->Qp (Qi XK c.w) A (Q4o (.QQ I)) Q E s
theorem Rel.growOwn (R:Rel c fz L Λ σ s) {h':ZS} {tk:QH} {dr:Drawn} (h1:∀b∈own,fz b=QG) (h2:L∉own) (h3:∀l,l < Xi->Xs l∉own) (hk:∀b o,b∉own->Qc b=QB o->ZB b=QB o) :
  Rel c fz L Λ σ {s with YO:=h',Q0T:=tk,Q3A:=dr} where
 nn:=Q45
 ns:=let ⟨m,h,k⟩:=QCI;⟨m,h.at' fun o e=>hk _ o h2 e,k⟩
 Q4c:=fun b o e=>hk b o (fun hb=>by rw [h1 b hb]at e;cases e) (Q4F b o e)
 Q8m:=Q5N
 fzL:=Q6V
 ob:=fun l hl=>let ⟨o,h,k⟩:=Q6E l hl;⟨o,hk _ _ (h3 l hl) h,k⟩
 fzl:=Q5s
 lne:=Q5O
 inj:=Q7M
 Q4x:=Q3m
 low:=Q6W
 nsm:=Q92
 os:=QDH
 Q0P:=Q6F
end
end
section
variable {c:Cx} {A:Around} {env:Env} {fm:Fm} {Λ:Lab} {σ:St}
mutual
theorem CA {XE:Q3L} {w:Q6T} {s:QZ} {R:Q87->QZ->Prop} {Q1t it Yf QGo X1} (I:QH->QZ->Prop)
  (Q9X:∀n s,I n s->Qp (Qi XE w) A (Q3W it) (fun r Q1p=>match r with
   | QG=>Qp (Qi XE w) A (QG3 QGo X1) (fun f QAx=>R (.ok f) QAx) (QBy (Qi XE w) A X1 fun e s'=>R (.Q83 e) s') Q1p
   | QB v=>Qp (Qi XE w) A (Q7Q Q1t it v) (fun _ Q1p=>Qp (Qi XE w) A (Q2P Q1t X1 v) (fun _ QCZ=>Qp (Qi XE w) A (QG3 Yf X1) (fun f QAx=>match f with
     | .YE | .QAy=>∃m,m < n/\I m QAx
     | .brk=>R (.ok .YE) QAx
     | .ret v=>R (.ok (.ret v)) QAx) (QBy (Qi XE w) A X1 fun e s'=>R (.Q83 e) s') QCZ) (QBy (Qi XE w) A X1 fun e s'=>R (.Q83 e) s') Q1p) (QBy (Qi XE w) A X1 fun e s'=>R (.Q83 e) s') Q1p) (QBy (Qi XE w) A X1 fun e s'=>R (.Q83 e) s') s)
  (n:QH) (h:I n s):Q1L (Qi XE w) A (.QHM Q1t it Yf QGo X1) R s:=by
 refine QDS QA I (fun n s hI=>?_) n h
 show Qp _ _ ((forTurn Q1t it Yf QGo X1).QHN (fun x=>do QE0 x X1;QBi x)) _ _ s
 refine QG4 ?_
 simp only [forTurn]
 refine Q9 (Q0n (Q9 (wpAny_onRaise (Yd (Q9X n s hI) (fun r Q1p Q1S=>?_) fun _ _ h'=>Q0n h'))))
 cases r with
 | QG=>exact QF (.inr ⟨QA,codeAny_block Q1S⟩)
 | QB v =>
  refine Q9 (Yd Q1S (fun _ Q1p Q1S=>?_) fun _ _ h'=>h')
  refine Q9 (Yd Q1S (fun _ QCZ QCd=>Q9 (Yd QCd (fun f QAx QBj=>?_) fun _ _ h'=>h')) fun _ _ h'=>h')
  cases f with
  | YE=>exact QF (.inl ⟨QA,QBj⟩)
  | QAy=>exact QF (.inl ⟨QA,QBj⟩)
  | brk=>exact QF QBj
  | ret v=>exact QF QBj
theorem Ba {fz:Qq->QW ZG} {I:Qq} {own:QC Qq} {Xr:QC QU} {Q3J:St->Prop} {J:QH->ZS->Prop} (W:It c A X1 Λ fz I own Xr Q3J J) {Q1t:Qf} {Yf:QC Yc} {asg:QU->PT Yb} {bod:PT Fl} {P:Fl->St->Prop} {s:QZ} {R:Q87->QZ->Prop}
  (QDT:∀x Λ σ P v,VR Λ x v->asg x σ P->Zt c A X1 fm Λ (Q2P Q1t X1 v) UR σ P) (QDU:∀Λ σ P,bod σ P->Zt c A X1 fm Λ (QG3 Yf X1) FR σ P)
  (ok:Q4y X1 fm Λ) (r:Rel c fz Qo Λ σ s) (hd:∀l,l < Xi->Xs l∉own) (hJ:J 0 QV) (h:AS Q3J (fun x σ P=>asg x σ fun _ σ=>bod σ P) Xr σ P)
  (q:∀Zd s' b a XH,Q0C Zd->P b XH->FR Zd b a->Rel c fz Qo Zd XH s'->R (.ok a) s') :
  Q1L (Qi XK c.w) A (.QHM Q1t (.QQ I) Yf [] X1) R s:=by
 injections c A X1 fm Λ σ fz I own Xr Q3J J _ Q1t Yf asg bod P s R _ _ _ _ _ _ _ _
 refine CA (fun k s'=>∃i Zd XH,k=Yi+1 - i/\i<=Yi/\Q0C Zd/\Rel c fz Qo Zd XH s'/\(∀l,l < QDi->Q4d l∉own)/\J i Q4Z/\AS Q3J (fun x σ P=>asg x σ fun _ σ=>bod σ P) (Q2c i) XH P) ?_ _ ⟨0,Λ,σ,QA,XQ _,.Q1J _,r,hd,hJ,by simpa using h⟩
 intros k Q1p Q2X
 obtain ⟨i,Q60,Q7R,QA,hi,Q6c,r₁,Q88,QG5,Q1S⟩:=Q2X
 cases hx:Xr[i]? with
 | QG =>
  have Q2Y:i=Yi:=by have:=Q2F hx;exact Kw hi this
  subst Q2Y
  rw [Q4O]at Q1S
  refine QCh Q60 Q7R Q1p _ _ Q6c r₁ Q1S.1 QG5 ?_;intros h' tk dr hk;refine Q7S ?_
  exact q Q60 _ .YE .YE Q7R Q6c Q1S.2 QA (Q3u QBc QE1 Q88 hk)
 | QB x =>
  injections x zI
  obtain ⟨hlt,hxe⟩:=QX hx
  have Q6d:Q2c i=x::Q2c (i+1):=by rw [YP hlt,hxe]
  rw [Q6d]at Q1S
  refine W.next i x Q60 Q7R Q1p _ _ Q6c r₁ Q1S.1 QG5 hx ?_;intros v h' tk dr hv hJ' hk
  have r₂:=Q3u (tk:=tk) (dr:=dr) QBc QE1 Q88 hk
  have r₃:=r₂.hold QBc QE1 Q88
  refine W.go (i+1) Q1t v _ _ _ hJ' ?_
  refine QDT x Q60 Q7R _ v hv Q1S.2 _ _ _ _ (Yq Q6c) r₃ ?_;intros QHO QCZ u1 u2 QHP QCi QG6 u3 QG7
  refine QDU QHO QHP _ QG6 _ _ _ _ ((Yq Q6c).ext QCi) QG7 ?_
  ·intros Q4z QAz fl f Q50 Q8s hP hF r₄
   obtain ⟨Q9Y,QE2,QCj⟩:=(r₄.free Q9Z QBc (QHQ _ _ hJ'))
   have hJ₅:J (i+1) QE3:=QHR _ _ _ hJ' QE2
   cases fl with
   | YE=>cases hF;exact ⟨Yi+1 - (i+1),by exact Ig hlt,i+1,Q4z,Q50,QA,hlt,(Q5V QCi).QR Q8s,Q9Y,QCj,hJ₅,hP⟩
   | QAy=>cases hF;exact ⟨Yi+1 - (i+1),by exact Ig hlt,i+1,Q4z,Q50,QA,hlt,(Q5V QCi).QR Q8s,Q9Y,QCj,hJ₅,hP⟩
   | brk=>cases hF;exact q Q4z _ .YE .YE Q50 ((Q5V QCi).QR Q8s) hP QA Q9Y
   | ret v=>obtain ⟨cv,QA,hcv⟩:=hF;exact q Q4z _ (.ret v) (.ret cv) Q50 ((Q5V QCi).QR Q8s) hP ⟨cv,QA,hcv⟩ Q9Y
end
end
end Mini
end
section
open PySem PySem.W PySem.Calls PyProof.Rows
namespace Mini
noncomputable def Gb (c:Cx) (A:Around) (env:Env) (Λ:Lab) (fz:Addr->Option Obj) (σ:St) (items:List Val) (stay:St->Prop) (it:Value) (s':Shared):Prop :=
 ∃I own J,it=.ref I/\(∀(env':Env) (fz':Addr->Option Obj),(∀b∈own,fz' b=none)->env'.locals∉own->It c A env' Λ fz' I own items stay J)/\Rel c fz env.locals Λ σ s'/\(∀b∈own,fz b=none)/\env.locals∉own/\(∀l,l < Λ.n->Λ.f l∉own)/\J 0 s'.heap
section
variable {prog:Program} {w:World} {A:Around} {E:Value->Shared->Prop} {s:Shared}
theorem Cv {I:Addr} {o:Obj} {T:String} {vs:Array Value} {target:Expr} {v:Value} {Q:Unit->Shared->Prop} (ho:s.heap.get? I=some o) (hc:o.cls=.type T) (hd:o.data=.fields vs)
  (hT:(["enumerate","zip","dict_itemiterator","dict_reverseitemiterator","odict_iterator","itertools.zip_longest","itertools.pairwise"].contains T)=false) (hQ:Q () s):wpAny (model prog w) A (letOwnedTupleGo target (.ref I) v) Q E s:=by
 have core:wpAny (model prog w) A (do
  let (.ref r,.ref a):=(Value.ref I,v) | return
  let o <- load r
  match o.cls,o.data with
  | .type n,.fields vs =>
   if ["enumerate","zip","dict_itemiterator","dict_reverseitemiterator","odict_iterator","itertools.zip_longest","itertools.pairwise"].contains n&&vs[0]? == some (rawInt a) then
    rule "for.unpacks-the-owned-tuple"
    updateField r 0 .none
  | _,_=>pure ()) Q E s:=by
  cases v <;> try exact wpAny_pure hQ
  refine wpAny_bind (wpAny_load ho ?_)
  rw [hc,hd]
  simp only [hT,Bool.false_and,Bool.false_eq_true,if_false]
  exact wpAny_pure hQ
 cases target <;> first | exact wpAny_pure hQ | exact core
end
section
variable {c:Cx} {A:Around} {env:Env} {fm:Fm} {Λ:Lab} {σ:St} {fz:Addr->Option Obj} {s:Shared} {E:Value->Shared->Prop}
mutual
theorem Rel.size_fz (r:Rel c fz Qo Λ σ s):fz QD=QG:=by
 cases q:fz QD with
 | QG=>rfl
 | QB o=>exact XF (X0 (QEl _ _ q)) (XO _)
theorem Rel.size_lab (r:Rel c fz Qo Λ σ s):∀l,l < Xi->Xs l∉[QD]:=fun l hl h=>by
 refine ew1 (Q3C l hl) fun o yq26=>?_;refine an2 yq26 fun ho _=>?_;clear yq26
 exact XF (X0 ho) (by rw [Qe h];exact XO _)
theorem Rel.size_L (r:Rel c fz Qo Λ σ s):Qo∉[QD]:=fun h=>XF QE4 (by rw [Qe h];exact XO _)
theorem KU {Q:QI->QZ->Prop} (hA:AOk A) (r:Rel c fz Qo Λ σ s) {l:QH} {a:QI} {xs:QC QU} (hv:VR Λ (.QQ l) a) (e:QS l=.Qs xs)
  (q:∀it s',Gb c A X1 Λ fz σ xs (fun σ=>QS l=.Qs xs) it s'->Q it s'):Qp (Qi XK c.w) A (Q4o a) Q E s:=by
 refine an3 (Q0w hv e) fun yq27 g1 yq28=>?_;obtain QA:=yq27;refine ew2 yq28 fun vs n yq29=>?_;refine an2 yq29 fun a1 a2=>?_;clear yq28 yq29
 have hne:Xs l≠QD:=Xv (X0 a1)
 refine QAJ (Al a1) (q _ _ ⟨QD,[QD],fun i h=>QEm QD (Xs l) i,QA,?_,Q6H (tk:=Y6) (dr:=Q1I) fun b o e=>Qa _ e,(fun b hb=>by rw [Qe hb];exact Q5F),Q89,Q5W,⟨_,X3 _ QA,QA,QA⟩⟩)
 intro Q2V fz' QEn hL'
 refine {QCR:=fun i h h' ⟨o,ho,r⟩ hk=>⟨o,hk _ (.Zf _) _ ho,r⟩,QCg:=fun i h ⟨o,ho,_⟩ b hb=>by rw [Qe hb];exact ⟨o,ho⟩,fzo:=QEn,noL:=hL',YE:=?_,Q55:=?_,go:=?_,Q1g:=?_}
 ·intro i x Zd XH s' Q' E' ext r' st J hx k
  have hv':VR Zd (.QQ l) (.QQ (Q4d l)):=⟨QP hv.1 ext.1,QA⟩
  refine an3 (r'.listsV hv' st) fun _ _ yq2a=>?_;refine ew2 yq2a fun ws m yq2b=>?_;refine an2 yq2b fun b1 b2=>?_;clear yq2a yq2b
  refine ew1 (b2.get hx) fun z yq2c=>?_;refine an2 yq2c fun hz hvz=>?_;clear yq2c
  rw [ext.2 l hv.1]at b1
  exact wpAny_pyNext_list_item J (Al b1) (by simpa using hz) fun h' J' hs=>k z h' QAK Q3v hvz J' fun b o hb eb=>(hs.2 b fun q=>hb (by rw [q];exact .Zf _)).QR eb
 ·intro Zd XH s' Q' E' ext r' st J k
  have hv':VR Zd (.QQ l) (.QQ (Q4d l)):=⟨QP hv.1 ext.1,QA⟩
  refine an3 (r'.listsV hv' st) fun _ _ yq2d=>?_;refine ew2 yq2d fun ws m yq2e=>?_;refine an2 yq2e fun b1 b2=>?_;clear yq2d yq2e
  rw [ext.2 l hv.1]at b1
  exact wpAny_pyNext_list_end Q0c J (Al b1) (by simp [QE5]) fun h' he=>k h' QAK Q3v fun b o hb eb=>he b o (fun q=>hb (by rw [q];exact .Zf _)) eb
 ·intro i Q1t v s' Q' E' Q2X hq
  obtain (⟨o,ho,hc,hd⟩):=Q2X
  exact Cv ho hc hd (by decide) hq
 ·intro i s' Q' E' J hq
  exact wpAny_pyIter_listiter J hq
theorem IY {Q:QI->QZ->Prop} (hA:AOk A) (r:Rel c fz Qo Λ σ s) {l:QH} {a:QI} {xs:QC QU} (hv:VR Λ (.QQ l) a) (e:QS l=.YM xs)
  (q:∀it s',Gb c A X1 Λ fz σ xs (fun σ=>QS l=.YM xs) it s'->Q it s'):Qp (Qi XK c.w) A (Q4o a) Q E s:=by
 refine an3 (QAo hv e) fun yq2f g1 yq2g=>?_;obtain QA:=yq2f;refine ew2 yq2g fun vs n yq2h=>?_;refine an2 yq2h fun a1 a2=>?_;clear yq2g yq2h
 refine iter_tuple (B1 a1) (q _ _ ⟨QD,[QD],fun i h=>Q4M h QD (Xs l) i,QA,?_,Q6H (tk:=Y6) (dr:=Q1I) fun b o e=>Qa _ e,(fun b hb=>by rw [Qe hb];exact Q5F),Q89,Q5W,⟨_,X3 _ QA,QA,QA⟩⟩)
 intro Q2V fz' QEn hL'
 refine {QCR:=fun i h h' ⟨o,ho,r⟩ hk=>⟨o,hk _ (.Zf _) _ ho,r⟩,QCg:=fun i h ⟨o,ho,_⟩ b hb=>by rw [Qe hb];exact ⟨o,ho⟩,fzo:=QEn,noL:=hL',YE:=?_,Q55:=?_,go:=?_,Q1g:=?_}
 ·intro i x Zd XH s' Q' E' ext r' st J hx k
  have hv':VR Zd (.QQ l) (.QQ (Q4d l)):=⟨QP hv.1 ext.1,QA⟩
  refine an3 (r'.tuplesV hv' st) fun _ _ yq2i=>?_;refine ew2 yq2i fun ws m yq2j=>?_;refine an2 yq2j fun b1 b2=>?_;clear yq2i yq2j
  refine ew1 (b2.get hx) fun z yq2k=>?_;refine an2 yq2k fun hz hvz=>?_;clear yq2k
  rw [ext.2 l hv.1]at b1
  exact next_tuple_item J (B1 b1) (by simpa using hz) fun h' J' hs=>k z h' QAK Q3v hvz J' fun b o hb eb=>(hs.2 b fun q=>hb (by rw [q];exact .Zf _)).QR eb
 ·intro Zd XH s' Q' E' ext r' st J k
  have hv':VR Zd (.QQ l) (.QQ (Q4d l)):=⟨QP hv.1 ext.1,QA⟩
  refine an3 (r'.tuplesV hv' st) fun _ _ yq2l=>?_;refine ew2 yq2l fun ws m yq2m=>?_;refine an2 yq2m fun b1 b2=>?_;clear yq2l yq2m
  rw [ext.2 l hv.1]at b1
  exact next_tuple_end Q0c J (B1 b1) (by simp [QE5]) fun h' he=>k h' QAK Q3v fun b o hb eb=>he b o (fun q=>hb (by rw [q];exact .Zf _)) eb
 ·intro i Q1t v s' Q' E' Q6r hq
  obtain (⟨o,ho,hc,hd⟩):=Q6r
  exact Cv ho hc hd (by decide) hq
 ·intro i s' Q' E' J hq
  exact wpAny_pyIter_tupleiter J hq
def Ay (a b k:X4):QC X4:=(X6 (XI a b k).Q1Z).map fun (i:QH)=>a+(i:X4)*k
theorem IZ {Q:QI->QZ->Prop} (hA:AOk A) (r:Rel c fz Qo Λ σ s) {R:Qq} {a b k:X4} {t u v:Tok} (hr:IsRange QV R a b k t u v) (hs:Q0f a b k=QM) (hz:0<=XI a b k)
  (q:∀it s',Gb c A X1 Λ fz σ ((Ay a b k).map .Qm) (fun _=>Q44) it s'->Q it s'):Qp (Qi XK c.w) A (Q4o (.QQ R)) Q E s:=by
 have W:=Walks.range (XE:=XK) (w:=c.w) (A:=A) Q0c QD a k (XI a b k).Q1Z
 have hn:((XI a b k).Q1Z:X4)=XI a b k:=Q31 hz
 refine wpAny_pyIter_range hr hs (q _ _ ⟨QD,[QD],fun i h=>QG8 h QD (a+(i:X4)*k) (((XI a b k).Q1Z:X4) - i) k,QA,?_,Q6H (tk:=Y6) (dr:=Q1I) fun b o e=>Qa _ e,(fun b hb=>by rw [Qe hb];exact Q5F),Q89,Q5W,?_⟩)
 ·intro Q2V fz' QEn hL'
  refine {QCR:=fun i h h' ho hk=>hk _ (.Zf _) _ ho,QCg:=fun i h ho b hb=>by rw [Qe hb];exact ⟨_,ho⟩,fzo:=QEn,noL:=hL',YE:=?_,Q55:=?_,go:=?_,Q1g:=?_}
  ·intro i x Zd XH s' Q' E' ext r' st J hx kk
   unfold Ay at hx
   rw [YZ,QT]at hx
   refine ew1 (Yr hx) fun i' yq2n=>?_;refine an2 yq2n fun hi' yq2o=>?_;obtain QA:=yq2o;clear yq2n
   obtain (⟨hlt,e'⟩):=QX hi'
   rw [Y9]at hlt
   obtain QA:i=i':=by simpa using e'
   refine W.item i s' Q' E' hlt J fun v' h' tk hv' J' hk=>?_
   obtain (⟨t',QA⟩):=hv'
   exact kk _ h' tk Q3v ⟨t',QA⟩ J' hk
  ·intro Zd XH s' Q' E' ext r' st J kk
   rw [show ((Ay a b k).map Q13).ZT=(XI a b k).Q1Z by simp [Ay]]at J
   exact QCh s' Q' E' J fun h' tk hk=>kk h' tk Q3v hk
  ·intro i Q1t v s' Q' E' ho hq
   exact Cv ho QA QA (by decide) hq
  ·intro i s' Q' E' J hq
   exact wpAny_pyIter_rangeiter J hq
 ·show QG8 _ _ _ _ _
  simp only [Int.ofNat_zero,QEQ,Q6n,Int.sub_zero,hn]
  exact X3 _ QA
end
end
end Mini
end
section
open PySem PySem.W PySem.Calls PyProof.Rows
namespace Mini
mutual
def Cw (xs:QC QU):QC (QH×QU):=xs.zipIdx.map fun p=>(p.2,p.1)
theorem Hi {xs:QC QU} {i:QH} {x:QU} (h:xs[i]?=QB x):(Cw xs)[i]?=QB (i,x):=by
 unfold Cw
 rw [QT,List.getElem?_zipIdx,h];simp
theorem Dk (xs:QC QU):(Cw xs).ZT=Qn:=by simp [Cw]
end
section
variable {c:Cx} {A:Around} {env:Env} {fm:Fm} {Λ:Lab} {σ:St}
mutual
theorem Rel.label {fz:Qq->QW ZG} {L:Qq} {s:QZ} (R:Rel c fz L Λ σ s) {a:Qq} {o:Ob} {co:ZG} (hco:Qc a=QB co) (hL:a≠L) (hfz:fz a=QG) (hlt:L < a) (hn:∀l,l < Xi->Xs l≠a) (ho:OR XK c.w (Z9 a) o co) :
  Rel c fz L (Z9 a) (Qw o) s:=by
 injections c Λ σ fz L s _ a o co _ _ _ _ _ _
 have hx:=XN Λ a
 have fs:(Z9 a).f Xi=a:=QY QA
 refine {nn:=by show Xi+1=QO+1;rw [Q45],ns:=?_,Q4c:=Q4F,Q8m:=Q5N,fzL:=Q6V,ob:=fun l hl=>?_,fzl:=fun l hl=>?_,lne:=fun l hl=>?_,inj:=fun l l' hl hl' e=>?_,Q4x:=Q3m,low:=Q6W,nsm:=fun l hl=>?_,os:=QDH,Q0P:=Q6F}
 ·obtain ⟨m,h,k⟩:=QCI
  exact ⟨m,h,fun x=>(k x).ext hx⟩
 ·by_cases h:l=Xi
  ·subst h
   refine ⟨co,by rw [fs];exact hco,?_⟩
   have:(Qw o).hp Xi=o:=QY Q45
   rw [this];exact ho
  ·have hl':l < Xi:=by have:l < Xi+1:=hl;exact BH h this
   obtain ⟨o',h1,h2⟩:=(Q6E l hl')
   refine ⟨o',by rw [hx.2 l hl'];exact h1,?_⟩
   have:(Qw o).hp l=QS l:=QN (by rw [<- Q45];exact h)
   rw [this];exact QEX hx
 ·by_cases h:l=Xi
  ·subst h;rw [fs];exact hfz
  ·have hl':l < Xi:=by have:l < Xi+1:=hl;exact BH h this
   rw [hx.2 l hl'];exact Q5s l hl'
 ·by_cases h:l=Xi
  ·subst h;rw [fs];exact hL
  ·have hl':l < Xi:=by have:l < Xi+1:=hl;exact BH h this
   rw [hx.2 l hl'];exact Q5O l hl'
 ·have a1:l < Xi+1:=hl
  have a2:l' < Xi+1:=hl'
  by_cases h:l=Xi <;> by_cases h':l'=Xi
  ·rw [h,h']
  ·subst h
   have q:l' < Xi:=by exact Bl a2 h'
   rw [fs,hx.2 l' q]at e
   exact XF QGp (hn l' q)
  ·subst h'
   have q:l < Xi:=by exact Bl a1 h
   rw [fs,hx.2 l q]at e
   exact XF e (hn l q)
  ·have q:l < Xi:=by exact Bl a1 h
   have q':l' < Xi:=by exact Bl a2 h'
   rw [hx.2 l q,hx.2 l' q']at e
   exact Q7M l l' q q' e
 ·by_cases h:l=Xi
  ·subst h;rw [fs];exact Yo (Y8 (Q1G Q6W hlt))
  ·have hl':l < Xi:=by have:l < Xi+1:=hl;exact BH h this
   rw [hx.2 l hl'];exact Q92 l hl'
theorem Iy (hA:AOk A) {fz:Qq->QW ZG} {e it:Qq} {l:QH} {xs:QC QU} {elts:QC Qf} {kk:QH} {tpos:Pos} {Yf:QC Yc} {asg:QU->PT Yb} {bod:PT Fl} {P:Fl->St->Prop} {s:QZ} {R:Q87->QZ->Prop}
  (QDT:∀x Λ σ P v,VR Λ x v->asg x σ P->Zt c A X1 fm Λ (Q2P (.Zs elts kk tpos) X1 v) UR σ P) (QDU:∀Λ σ P,bod σ P->Zt c A X1 fm Λ (QG3 Yf X1) FR σ P)
  (ok:Q4y X1 fm Λ) (r:Rel c fz Qo Λ σ s) (hl:l < Xi) (hei:e≠it) (hfe:fz e=QG) (hfi:fz it=QG) (hLe:Qo≠e) (hLi:Qo≠it) (hd:∀l,l < Xi->Xs l∉[e,it])
  (he:IsEnum QV e it 0 .QG) (hi:Q61 it (Xs l) 0)
  (h:AS (fun σ=>QS l=.Qs xs) (fun (p:QH×QU) σ P=>asg (.QQ QO) (Qw (.YM [.Qm p.1,p.2])) fun _ σ=>bod σ P) (Cw xs) σ P)
  (q:∀Zd s' b a XH,Q0C Zd->P b XH->FR Zd b a->Rel c fz Qo Zd XH s'->R (.ok a) s') :
  Q1L (Qi XK c.w) A (.QHM (.Zs elts kk tpos) (.QQ e) Yf [] X1) R s:=by
 injections c A X1 fm Λ σ _ fz e it l xs elts kk tpos Yf asg bod P s R _ _ _ _ _ _ _ _ _ _ _ _ _ _ _
 have fzo:∀b∈[e,it],fz b=QG:=by
  intros b hb
  rcases XT hb with QA | hb
  ·exact hfe
  ·rw [Qe hb];exact hfi
 have noL:Qo∉[e,it]:=by
  intros hb
  rcases XT hb with hb | hb
  ·exact hLe hb
  ·exact hLi (Qe hb)
 refine CA (fun k s'=>∃i Zd XH old,k=Qn+1 - i/\i<=Qn/\Q0C Zd/\Rel c fz Qo Zd XH s'/\(∀l,l < QDi->Q4d l∉[e,it])/\IsEnum Q4Z e it i old/\s'.heap.IsListIter it (Xs l) i/\AS (fun σ=>QS l=.Qs xs) (fun (p:QH×QU) σ P=>asg (.QQ QO) (Qw (.YM [.Qm p.1,p.2])) fun _ σ=>bod σ P) ((Cw xs).Q9a i) XH P) ?_ _ ⟨0,Λ,σ,.QG,QA,XQ _,.Q1J _,r,hd,he,hi,by simpa using h⟩
 intros k Q1p Q2X
 obtain ⟨i,Q60,Q7R,old,QA,hi',Q6c,r₁,Q88,he₁,hi₁,Q1S⟩:=Q2X
 have hv':VR Q60 (.QQ l) (.QQ (Λ₁.f l)):=⟨QP hl Q6c.1,QA⟩
 have hstay:σ₁.hp l=.Qs xs:=by
  cases hq:(Cw xs).Q9a i with
  | Zo=>rw [hq]at Q1S;exact Q1S.1
  | Xx _ _=>rw [hq]at Q1S;exact Q1S.1
 obtain ⟨_,_,ws,m,b1,b2⟩:=(r₁.listsV hv' hstay)
 rw [Q6c.2 l hl]at b1
 cases hx:xs[i]? with
 | QG =>
  have Q2Y:i=Qn:=by have:=Q2F hx;exact Kw hi' this
  subst Q2Y
  rw [show (Cw xs).Q9a Qn=[] by rw [<- Dk xs,Q4O]]at Q1S
  refine wpAny_pyNext_enum_end Q0c he₁ hi₁ (Al b1) (by simp [QE5]) ?_;intros h' hk;refine Q7S ?_
  refine q Q60 _ .YE .YE Q7R Q6c Q1S.2 QA ?_
  exact Q3u (tk:=QB0) (dr:=QCk) fzo noL Q88 fun b o hb eb=>hk b o (fun q=>hb (by rw [q];exact .Q38 _ (.Zf _))) eb
 | QB x =>
  injections x zI
  obtain ⟨hlt,hxe⟩:=QX hx
  have hge:=Hi hx
  have hlt':i < (Cw xs).ZT:=by rw [Dk];exact hlt
  have Q6d:(Cw xs).Q9a i=(i,x)::(Cw xs).Q9a (i+1):=by
   rw [YP hlt']
   rw [Qg hlt']at hge
   rw [X2 hge]
  rw [Q6d]at Q1S
  obtain ⟨z,hz,hvz⟩:=(b2.get hx)
  refine wpAny_pyNext_enum_item he₁ hi₁ (Al b1) (by simpa using hz) hei ?_;intros h' ho' hit' hT hsz hk
  refine wpAny_letOwnedTupleGo_enum ho' ?_;intros h'' he'' hs''
  have hsE:e < ZU:=X0 he₁
  have hsI:it < ZU:=let ⟨_,h,_⟩:=hi₁;X0 h
  have hit'':h''.IsListIter it (Xs l) (i+1):=let ⟨o,h1,r⟩:=hit';⟨o,(hs''.2 it hei.symm).QR h1,r⟩
  have hT'':=(hs''.2 _ (Y8 hsE)).QR hT
  have r₂:Rel c fz Qo Q60 Q7R {Q1p with YO:=h'',Q0T:=QB0+1,Q3A:=QCk}:=by
   refine Q3u fzo noL Q88 ?_
   intros b o hb eb
   have hb1:b≠e:=fun q=>hb (by rw [q];exact .Zf _)
   have hb2:b≠it:=fun q=>hb (by rw [q];exact .Q38 _ (.Zf _))
   exact (hs''.2 b hb1).QR (hk b o hb1 hb2 eb)
  have QDM:=XN Q60 ZU
  have r₃:Rel c fz Qo (Q9b ZU) (σ₁.alloc (.YM [.Qm (i:X4),x])) {Q1p with YO:=h'',Q0T:=QB0+1,Q3A:=QCk}:=by
   refine r₂.label hT'' (Y8 r₁.Llt) r₁.size_fz r₁.Llt ?_ ⟨[.Qm i QB0,z],0,QA,.Xx ⟨_,QA⟩ (.Xx (hvz.ext QDM) .Zo)⟩;intros l' hl' q
   obtain ⟨o,ho,_⟩:=(r₁.ob l' hl')
   exact XF (X0 ho) (by rw [q];exact XO _)
  have hd₃:∀l',l' < (Q9b ZU).n->(Q9b ZU).f l'∉[e,it]:=by
   intros l' hl' hm
   by_cases hq:l'=QHS
   ·have fs:(Q9b ZU).f l'=ZU:=QY hq
    rw [fs]at hm
    rcases XT hm with hm | hm
    ·exact XF hsE (by rw [<- hm];exact XO _)
    ·exact XF hsI (by rw [<- Qe hm];exact XO _)
   ·have hl2:l' < QHS:=by have:l' < QHS+1:=hl';exact BH hq this
    rw [QDM.2 l' hl2]at hm;exact Q88 l' hl2 hm
  have r₄:=r₃.hold fzo noL hd₃
  refine QDT _ _ _ _ _ (Q1l _ r₁.nn) Q1S.2 _ _ _ _ ((Yq Q6c).ext QDM) r₄ ?_;intros QHO QCZ u1 u2 QHP QCi QG6 u3 QG7
  refine QDU QHO QHP _ QG6 _ _ _ _ (((Yq Q6c).ext QDM).ext QCi) QG7 ?_
  intros Q4z QAz fl f Q50 Q8s hP hF r₄'
  obtain ⟨oi,hoi,hri⟩:=hit''
  obtain ⟨Q9Y,QE2,QCj⟩:=r₄'.free Q9Z fzo (fun b hb=>by
   rcases XT hb with QA | hb
   ·exact ⟨_,he''⟩
   ·rw [Qe hb];exact ⟨_,hoi⟩)
  have he₅:IsEnum QE3 e it ((i+1:QH):X4) z:=by
   have:=QE2 e (.Zf _) _ he''
   simpa using this
  have hi₅:s₄.heap.IsListIter it (Xs l) (i+1):=⟨oi,QE2 it (.Q38 _ (.Zf _)) _ hoi,hri⟩
  have E4:=((Q5V QDM).QR QCi).QR Q8s
  cases fl with
  | YE=>cases hF;exact ⟨Qn+1 - (i+1),by exact Ig hlt,i+1,Q4z,Q50,z,QA,hlt,E4,Q9Y,QCj,he₅,hi₅,hP⟩
  | QAy=>cases hF;exact ⟨Qn+1 - (i+1),by exact Ig hlt,i+1,Q4z,Q50,z,QA,hlt,E4,Q9Y,QCj,he₅,hi₅,hP⟩
  | brk=>cases hF;exact q Q4z _ .YE .YE Q50 E4 hP QA Q9Y
  | ret v=>obtain ⟨cv,QA,hcv⟩:=hF;exact q Q4z _ (.ret v) (.ret cv) Q50 E4 hP ⟨cv,QA,hcv⟩ Q9Y
end
end
end Mini
end
section
open PySem PySem.W PySem.Calls PyProof.Rows
namespace Mini
theorem Rel.view {c:Cx} {fz:Addr->Option Obj} {L:Addr} {Λ:Lab} {σ:St} {s:Shared} (R:Rel c fz L Λ σ s) {l:Nat} {o:Ob} {co:Obj} (hl:l < σ.nx) (hco:s.heap.get? (Λ.f l)=some co) (ho:OR c.prog c.w Λ o co):Rel c fz L Λ (σ.upd l o) s :=
 R.upd (h':=s.heap) (tk:=s.toks) hl (fun _ _ _ e=>e) hco ho
section
variable {c:Cx} {A:Around} {env:Env} {fm:Fm} {Λ:Lab} {σ:St} {fz:Addr->Option Obj} {s:Shared} {E:Value->Shared->Prop}
mutual
theorem Hk {co:ZG} {cvs:QC (Yh×QI)} {a:Qq} {h:ZS} (hd:QEV (knd XK c.w) co cvs):∃ep,∀h:ZS,Q05 a=QB co->h.DictAt (knd XK c.w) a cvs ep:=by
 injections c co cvs a h _
 obtain ⟨es,ep,r⟩:=hd
 exact ⟨ep,fun h ho=>⟨co,es,ho,r⟩⟩
theorem Pe {Q:QI->QZ->Prop} (hA:AOk A) (r:Rel c fz Qo Λ σ s) {l:QH} {co:ZG} {Y5:QC (Yh×QU)} (hl:l < Xi) (e:QS l=.Q04 Y5) (hco:Qc (Xs l)=QB co)
  (q:∀it s',Gb c A X1 Λ fz (Yy l (.raw co)) (Q2o fun p=>p.1.val) (fun σ=>QS l=.raw co) it s'->Q it s'):Qp (Qi XK c.w) A (Q4o (.QQ (Xs l))) Q E s:=by
 injections c A X1 Λ σ fz s E Q _ _ l co Y5 _ _ _ _
 obtain ⟨o,ho,hor⟩:=(Q3C l hl)
 rw [hco]at ho;cases ho
 rw [e]at hor
 obtain ⟨cvs,hd,hk1,hk2⟩:=hor
 have hK:=QGk hk1 hk2
 obtain ⟨ep,hAt⟩:=Hk (c:=c) (a:=Xs l) (h:=QV) hd
 have hne:Xs l≠QD:=Xv (X0 hco)
 have W:=QCl (XE:=XK) (w:=c.w) (knd:=knd XK c.w) (A:=A) Q0c QD (Xs l) hne cvs ep
 have r1:Rel c fz Qo Λ (Yy l (.raw co)) s:=r.view (by rw [<- Q3i];exact hl) hco QA
 refine wpAny_pyIter_dict (QDw l hl) (hAt _ hco) (q _ _ ⟨QD,[QD],fun i h=>QG9 QD (Xs l) i Q6u ep,QA,?_,r1.grow (tk:=Y6) (dr:=Q1I) fun b o e=>Qa _ e,(fun b hb=>by rw [Qe hb];exact Q5F),Q89,Q5W,⟨_,X3 _ QA,QA,QA⟩⟩)
 intros Q2V fz' QEn hL'
 refine {QCR:=fun i h h' ⟨o,ho,r⟩ hk=>⟨o,hk _ (.Zf _) _ ho,r⟩,QCg:=fun i h ⟨o,ho,_⟩ b hb=>by rw [Qe hb];exact ⟨o,ho⟩,fzo:=QEn,noL:=hL',YE:=?_,Q55:=?_,go:=?_,Q1g:=?_}
 ·intros i x Zd XH s' Q' E' ext r' st J hx k
  obtain ⟨o',ho',Q5T⟩:=(QGA l (QP hl ext.1))
  rw [st]at Q5T
  cases Q5T
  rw [ext.2 l hl]at ho'
  rw [QT]at hx
  obtain ⟨p,hp,QA⟩:=(Yr hx)
  have hlt:i < Q6u:=by rw [<- QB1];exact (QX hp).1
  refine W.item i s' Q' E' hlt ⟨J,hAt _ ho'⟩ ?_;intros v h' tk hP J' hk
  obtain ⟨kk,xx,hkx,his⟩:=hP
  have Q53:kk=p.1:=by
   have a1:(Q5r (·.1))[i]?=QB kk:=by rw [QT,hkx];rfl
   rw [hk1,QT,hp]at a1
   exact (X2 a1).Q37
  subst Q53
  exact k v h' tk Q3v (En his) J'.1 hk
 ·intros Zd XH s' Q' E' ext r' st J k
  obtain ⟨o',ho',Q5T⟩:=(QGA l (QP hl ext.1))
  rw [st]at Q5T
  cases Q5T
  rw [ext.2 l hl]at ho'
  rw [QK,QB1]at J
  exact QCh s' Q' E' ⟨J,hAt _ ho'⟩ fun h' tk hk=>k h' tk Q3v hk
 ·intros i Q1t v s' Q' E' Q2X hq
  obtain ⟨o,ho,hc,hd⟩:=Q2X
  exact Cv ho hc hd (by decide) hq
 ·intros i s' Q' E' J hq
  exact Q8A J hq
theorem NE {Q:QI->QZ->Prop} (hA:AOk A) (r:Rel c fz Qo Λ σ s) {l:QH} {co:ZG} {Y5:QC (Yh×QU)} {k:QH} (hk0:k < Xi) (e0:QS k=.QCC l) (hl:l < Xi) (e:QS l=.Q04 Y5) (hco:Qc (Xs l)=QB co)
  (q:∀it s',Gb c A X1 Λ fz (Yy l (.raw co)) (Q2o fun p=>p.1.val) (fun σ=>QS l=.raw co) it s'->Q it s'):Qp (Qi XK c.w) A (Q4o (.QQ (Xs k))) Q E s:=by
 injections c A X1 Λ σ fz s E Q _ _ l co Y5 k _ _ _ _ _ _
 obtain ⟨o,ho,hor⟩:=(Q3C l hl)
 rw [hco]at ho;cases ho
 rw [e]at hor
 obtain ⟨cvs,hd,hk1,hk2⟩:=hor
 have hK:=QGk hk1 hk2
 obtain ⟨ep,hAt⟩:=Hk (c:=c) (a:=Xs l) (h:=QV) hd
 have hne:Xs l≠QD:=Xv (X0 hco)
 have W:=QCl (XE:=XK) (w:=c.w) (knd:=knd XK c.w) (A:=A) Q0c QD (Xs l) hne cvs ep
 have r1:Rel c fz Qo Λ (Yy l (.raw co)) s:=r.view (by rw [<- Q3i];exact hl) hco QA
 have hview:KdlKeysView QV (Xs k) (Xs l):=by
  obtain ⟨ok,hok,hork⟩:=(Q3C k hk0)
  rw [e0]at hork
  exact ⟨ok,hok,by rw [hork.2],by rw [hork.2]⟩
 refine kdl_pyIter_keys hview (hAt _ hco) (q _ _ ⟨QD,[QD],fun i h=>QG9 QD (Xs l) i Q6u ep,QA,?_,r1.grow (tk:=Y6) (dr:=Q1I) fun b o e=>Qa _ e,(fun b hb=>by rw [Qe hb];exact Q5F),Q89,Q5W,⟨_,X3 _ QA,QA,QA⟩⟩)
 intros Q2V fz' QEn hL'
 refine {QCR:=fun i h h' ⟨o,ho,r⟩ hk=>⟨o,hk _ (.Zf _) _ ho,r⟩,QCg:=fun i h ⟨o,ho,_⟩ b hb=>by rw [Qe hb];exact ⟨o,ho⟩,fzo:=QEn,noL:=hL',YE:=?_,Q55:=?_,go:=?_,Q1g:=?_}
 ·intros i x Zd XH s' Q' E' ext r' st J hx k
  obtain ⟨o',ho',Q5T⟩:=(QGA l (QP hl ext.1))
  rw [st]at Q5T
  cases Q5T
  rw [ext.2 l hl]at ho'
  rw [QT]at hx
  obtain ⟨p,hp,QA⟩:=(Yr hx)
  have hlt:i < Q6u:=by rw [<- QB1];exact (QX hp).1
  refine W.item i s' Q' E' hlt ⟨J,hAt _ ho'⟩ ?_;intros v h' tk hP J' hk
  obtain ⟨kk,xx,hkx,his⟩:=hP
  have Q53:kk=p.1:=by
   have a1:(Q5r (·.1))[i]?=QB kk:=by rw [QT,hkx];rfl
   rw [hk1,QT,hp]at a1
   exact (X2 a1).Q37
  subst Q53
  exact k v h' tk Q3v (En his) J'.1 hk
 ·intros Zd XH s' Q' E' ext r' st J k
  obtain ⟨o',ho',Q5T⟩:=(QGA l (QP hl ext.1))
  rw [st]at Q5T
  cases Q5T
  rw [ext.2 l hl]at ho'
  rw [QK,QB1]at J
  exact QCh s' Q' E' ⟨J,hAt _ ho'⟩ fun h' tk hk=>k h' tk Q3v hk
 ·intros i Q1t v s' Q' E' Q6r hq
  obtain ⟨o,ho,hc,hd⟩:=Q6r
  exact Cv ho hc hd (by decide) hq
 ·intros i s' Q' E' J hq
  exact Q8A J hq
end
end
noncomputable def C0 (o i v:Val):PT Unit:=fun σ P=>Ai o fun l=>As (σ.hp l) fun kvs=>Ad (Bn i) fun k=>kvs.length<=sizeLine/\P () (σ.upd l (.dict (Ce kvs k v)))
noncomputable def C1 (o i:Val):PT Unit:=fun σ P=>Ai o fun l=>As (σ.hp l) fun kvs=>Ad (Bn i) fun k=>kvs.length<=sizeLine/\(Ak kvs k).isSome=true/\P () (σ.upd l (.dict (EL kvs k)))
section
variable {c:Cx} {A:Around} {env:Env} {fm:Fm} {Λ:Lab} {σ:St}
mutual
theorem Iq {o i v:QU} {a b d:QI} {P:Yb->St->Prop} (ho:VR Λ o a) (hi:VR Λ i b) (hv:VR Λ v d) (h:C0 o i v σ P):Zt c A X1 fm Λ (setItem a b d) UR σ P:=by
 refine Q1Y h fun l ev h=>?_;subst ev
 refine Q91 h fun Y5 e h=>Q2x h fun k ek h=>?_
 ···refine Zq fun fz s ok r Q E q=>?_
    refine an3 (Q6b ho e) fun yq2K g1 yq2L=>?_;obtain QA:=yq2K;refine ew1 yq2L fun cvs yq2M=>?_;refine an2 yq2M fun hD hk=>?_;clear yq2L yq2M
    refine wpAny_setItem_pairs (knd:=knd XK c.w) (B0 ek hi) hD (fun h' hD' hs=>?_) (by rw [<- QDx];exact h.1)
    refine ew1 (QAu (c:=c) hD' (hk.set _ hv)) fun co yq2N=>?_;refine an2 yq2N fun hco hor=>?_;clear yq2N
    exact q Λ _ _ _ _ (.Q1J _) h.2 ZQ (QDl (tk:=Y6+1) g1 (fun b' o' hb e'=>(hs.2 b' hb).QR e') hco hor)
theorem Iz {o i:QU} {a b:QI} {P:Yb->St->Prop} (ho:VR Λ o a) (hi:VR Λ i b) (h:C1 o i σ P):Zt c A X1 fm Λ (QHH a b) UR σ P:=by
 refine Q1Y h fun l ev h=>?_;subst ev
 refine Q91 h fun Y5 e h=>Q2x h fun k ek h=>?_
 ···refine Zq fun fz s ok r Q E q=>?_
    refine an3 (Q6b ho e) fun yq2O g1 yq2P=>?_;obtain QA:=yq2O;refine ew1 yq2P fun cvs yq2Q=>?_;refine an2 yq2Q fun hD hk=>?_;clear yq2P yq2Q
    have hg:=QGm k
    refine Gy (knd:=knd XK c.w) (B0 ek hi) hD ?_ (by rw [<- QDx];exact h.1) (fun h' hD' hs=>?_)
    ·cases hq:Q4V cvs k with
     | QB _=>rfl
     | QG=>rw [hq]at hg;cases hq':Ak _ k with
      | QG=>rw [hq']at h;exact XF h.2.1 (by simp)
      | QB _=>rw [hq']at hg;exact QHK
    ·refine ew1 (QAu (c:=c) hD' (hk.del k)) fun co yq2R=>?_;refine an2 yq2R fun hco hor=>?_;clear yq2R
     exact q Λ _ _ _ _ (.Q1J _) h.2.2 ZQ (QDl (tk:=Y6+1) g1 (fun b' o' hb e'=>(hs.2 b' hb).QR e') hco hor)
end
end
end Mini
end
section
open PySem PySem.W PySem.Calls PyProof.Rows
set_option maxRecDepth 8000
set_option maxHeartbeats 1000000
namespace Mini
section
variable {prog:Program} {w:World} {A:Around} {E:Value->Shared->Prop} {s:Shared}
mutual
theorem SetAt.typeIs {a:Qq} {es:XP (X4×QI)} {ep:QH} {t:Y2} (S:Q5w w QV a es ep t):Q5U (.QQ a) "set":=let ⟨o,ho,hx,_⟩:=S.at';⟨o,ho,hx.1⟩
theorem SetAt.keep {a:Qq} {es:XP (X4×QI)} {ep:QH} {t:Y2} {h h':ZS} (S:Q5w w h a es ep t) (hk:∀o,Q05 a=QB o->ZB a=QB o):Q5w w h' a es ep t:=⟨let ⟨o,ho,r⟩:=S.at';⟨o,hk _ ho,r⟩,S.fits,S.good⟩
theorem A2 {a:Qq} {es:XP (X4×QI)} {ep:QH} {t:Y2} {Q:XP (X4×QI)->QZ->Prop} (S:Q5w w QV a es ep t) (h:Q es s):Qp (Qi XE w) A (setEntries a) Q E s:=by
 exact Q9 (Au S (QF h))
theorem Ca {a:Qq} {es:XP (X4×QI)} {ep:QH} {t:Y2} {Q:QH->QZ->Prop} (S:Q5w w QV a es ep t) (h:Q ep s):Qp (Qi XE w) A (setEpoch a) Q E s:=by
 exact Q9 (Au S (QF h))
theorem JB {a:Qq} {es:XP (X4×QI)} {ep:QH} {t:Y2} {Q:QI->QZ->Prop} (hsz:ZA<=Xb) (S:Q5w w QV a es ep t)
  (hQ:∀(y:Way) I h' dr,(∀b o,Qc b=QB o->ZB b=QB o)->Hp w a es ep t I y 0 h'->(∀b∈y.own I,QD<=b)->Q (.QQ I) {s with YO:=h',Q3A:=dr}) :
  Qp (Qi XE w) A (Q4o (.QQ a)) Q E s:=by
 injections XE w A E s a es ep t Q _ _ _
 refine Q62 S.typeIs Q7b (Y3 Q7b S.typeIs F0 ?_ (PySem.F.args_set_iter_1 _))
 unfold Builtin.«frozenset.__iter__» Builtin.Frozenset.slot0 Q3H
 refine Q9 (Q9 (QF (QF ?_)))
 refine Q9 (Q9 (A2 S (QF ?_)))
 refine Q9 (Q9 (Au S ?_))
 refine Q9 (AW (QF ?_))
 show Qp _ _ (if (!Aq w&&(!Q8d&&XY (ZA > 1)))=QM then _ else _) _ _ _
 cases hd:(!Aq w&&(!Q8d&&XY (ZA > 1))) with
 | QJ =>
  rw [QN Qj]
  refine Q9 (QF ?_)
  refine Q9 (Ca S ?_)
  refine Q9 (Xl (QF ⟨_,QA,"set_iterator",_,⟨_,X3 _ QA,QA⟩,QE6,?_⟩))
  have hk:∀(o:ZG) b o',Qc b=QB o'->(XM o).QBh b=QB o':=fun o b o' e=>Qa _ e
  have e:∀x:QZ,x={x with Q3A:=x.drawn}:=fun x=>QA
  cases hb:Aq w with
  | QM =>
   exact hQ (.QDN (Q5E (Q1K a ep) es)) _ _ Q1I (hk _) ⟨⟨_,X3 _ QA,QA,QA⟩,hb,QA⟩ (fun b hb=>by rw [Qe hb];exact Qh _)
  | QJ =>
   refine hQ .Q4b _ _ Q1I (hk _) ⟨⟨_,X3 _ QA,QA,QA⟩,hb,?_⟩ (fun b hb=>by rw [Qe hb];exact Qh _)
   rw [hb]at hd
   cases hp:Q8d with
   | QM=>exact .inl QA
   | QJ=>rw [hp]at hd;simp at hd;exact .inr hd
 | QM =>
  rw [QY QA]
  refine Q9 (ET _ _ s _ (by simp) ?_);intros ps dr hp
  simp only [QAG]
  have hl:Zj=ZA:=by rw [QEc,Y9]
  refine Q9 (Xl ?_ (show sizeOk (.seq (Q75 (Q5X (fun (i:QH)=>Zp (i:X4)) ps)) 0) from (show (Q75 (Q5X (fun (i:QH)=>Zp (i:X4)) ps)).size<=Xb by simp [hl,hsz])))
  have S1:Q5w w (XM {cls:=.Qk "tuple",YC:=.seq (Q5X (fun (i:QH)=>Zp (i:X4)) ps).Xe}) a es ep t:=S.keep fun o e=>Qa _ e
  refine Q9 (Ca S1 ?_)
  refine Q9 (Xl (QF ⟨_,QA,"set_iterator",_,⟨_,X3 _ QA,QA⟩,QE6,?_⟩))
  simp only [X9,ZD,Xm]at hd
  refine hQ (.Q3A QD ps) _ _ dr (fun b o e=>Qa _ (Qa _ e)) ⟨⟨_,X3 _ QA,QA,QA⟩,⟨hd.1,hp⟩,_,0,Qa _ (X3 _ QA),QA⟩ (fun b hb=>?_)
  rcases XT hb with QA | hb
  ·rw [Q0x];exact Q0N _
  ·rw [Qe hb];exact Qh _
theorem Lp {a:Qq} {es:XP (X4×QI)} {ep:QH} {t:Y2} {I:Qq} {y:Way} {i:QH} {Q:QI->QZ->Prop} (hit:Hp w a es ep t I y i QV) (h:Q (.QQ I) s):Qp (Qi XE w) A (Q4o (.QQ I)) Q E s:=by
 obtain (⟨⟨o,ho,hc,hd⟩,_⟩):=hit
 have hT:Q5U (.QQ I) "set_iterator":=⟨o,ho,hc⟩
 refine Q62 hT DO (Y3 DO hT Gv ?_ (H1 _))
 exact QF ⟨_,QA,"set_iterator",_,hT,QE6,h⟩
theorem OT {a:Qq} {es:XP (X4×QI)} {ep:QH} {t:Y2} {I:Qq} {y:Way} {i:QH} {x:QI} {Q:QW QI->QZ->Prop} (hI:I∉(y.own I).Q38) (S:Q5w w QV a es ep t) (hit:Hp w a es ep t I y i QV)
  (hx:(y.items es)[i]?=QB x) (hQ:∀h',Hp w a es ep t I y (i+1) h'->ZC I QV h'->Q (QB x) {s with YO:=h'}):Qp (Qi XE w) A (Q3W (.QQ I)) Q E s:=by
 injections XE w A E s a es ep t I y i x Q _ _ _ _ _
 obtain ⟨⟨o,ho,hc,hd⟩,hok⟩:=id hit
 have hT:Q5U (.QQ I) "set_iterator":=⟨o,ho,hc⟩
 refine Q9 (Q3I (YK (Q1z:=Qb "__next__") hT AM (Y3 AM hT DA ?_ (D8 _))))
 refine Q9 (QF ?_)
 refine Q9 (Q8B ho hd ?_)
 refine Q9 (A2 S ?_)
 rw [QN (by simp)]
 refine Q9 (QF ?_)
 cases y with
 | QDN ys =>
  injections ys zI
  obtain ⟨hb,QA⟩:=hok
  dsimp only [Q2s]
  refine Q9 (Hd S hb ?_)
  have e:(Q5E (Q1K a ep) es)[(i:X4).Q1Z]?.map (fun e=>(e.2,0))=QB (x,0):=by
   simp only [Q8c,QT,Q47]at hx
   obtain ⟨p,hp,QA⟩:=(Yr hx)
   rw [ZE,hp];rfl
  rw [ZE ep,e]
  refine Q9 (Z1 ho hd (by simp) ?_)
  have ho2:=XS (Q1T (·.Q1U 0 (Zp ((0:QH):X4)))) ho (Yg (XL hd _))
  refine Q9 (Z1 ho2 (XL hd _) (by simp) ?_)
  have sb:=(XX QV I (Q1T (·.Q1U 0 (Zp ((0:QH):X4))))).QR (XX _ I (Q1T (·.Q1U 1 (Zp ((i:X4)+1)))))
  refine QF ⟨_,QA,QF (hQ _ ⟨⟨_,XS _ ho2 (Yg (XL (XL hd _) _)),?_,?_⟩,hb,QA⟩ sb)⟩
  ·rw [Q0Y,Q0Y];exact hc
  ·rw [XL (XL hd _)];simp [Zp,Q2s]
 | Q4b =>
  obtain ⟨hb,hpl⟩:=hok
  dsimp only [Q2s]
  have hlt:i < ZA:=by
   have:=(QX hx).1
   simpa [Q8c] using this
  refine Q9 (FJ (i:=i) S hb hpl (X7 hlt) ?_)
  have e:es[i]?.map (fun e=>(e.2,Yv t (i+1)))=QB (x,Yv t (i+1)):=by
   simp only [Q8c,QT,Q47]at hx
   obtain ⟨p,hp,QA⟩:=(Yr hx)
   rw [hp];rfl
  rw [e]
  refine Q9 (Z1 ho hd (by simp) ?_)
  have ho2:=XS (Q1T (·.Q1U 0 (Zp ((Yv t (i+1):QH):X4)))) ho (Yg (XL hd _))
  refine Q9 (Z1 ho2 (XL hd _) (by simp) ?_)
  have sb:=(XX QV I (Q1T (·.Q1U 0 (Zp ((Yv t (i+1):QH):X4))))).QR (XX _ I (Q1T (·.Q1U 1 (Zp ((i:X4)+1)))))
  refine QF ⟨_,QA,QF (hQ _ ⟨⟨_,XS _ ho2 (Yg (XL (XL hd _) _)),?_,?_⟩,hb,hpl⟩ sb)⟩
  ·rw [Q0Y,Q0Y];exact hc
  ·rw [XL (XL hd _)];simp [Zp,Q2s]
 | Q3A tup ps =>
  injections tup ps zI
  obtain ⟨⟨hb,hpm⟩,ot,nt,hot,hdt⟩:=hok
  dsimp only [Q2s]
  refine Q9 (Z0 hot hdt ?_)
  dsimp only
  simp only [Q8c,QT]at hx
  obtain ⟨p,hp,QA⟩:=(Yr hx)
  have e:(Q15 fun (p:QH)=>Q5D (p:X4) 0).Xe[(i:X4).Q1Z]?=QB (.Qm (p:X4) 0):=by
   rw [ZE];simp [hp]
  rw [e]
  dsimp only
  have hpl:p < ZA:=by
   have:p∈X6 ZA:=hpm.mem_iff.mp (XG hp)
   simpa using this
  refine Q9 (JJ (p:=p) (x:=(Q3F (·.2)).Q4m p .QG) S (by simp [hpl]) ?_)
  refine Q9 (Z1 ho hd (by simp) ?_)
  have hne:tup≠I:=fun q=>hI (by rw [q];exact .Zf _)
  have sb:=XX QV I (Q1T (·.Q1U 1 (Zp ((i:X4)+1))))
  refine QF ⟨_,QA,QF (hQ _ ⟨⟨_,XS _ ho (Yg (XL hd _)),?_,?_⟩,⟨hb,hpm⟩,ot,nt,?_,hdt⟩ sb)⟩
  ·rw [Q0Y];exact hc
  ·rw [XL hd];simp [Zp,Q2s]
  ·exact (sb.2 _ hne).QR hot
theorem TH {a:Qq} {es:XP (X4×QI)} {ep:QH} {t:Y2} {I:Qq} {y:Way} {Q:QW QI->QZ->Prop} (hh:Q4N=QG) (S:Q5w w QV a es ep t) (hit:Hp w a es ep t I y ZA QV)
  (hQ:∀h',Q0o I QV h'->Q QG {s with YO:=h'}):Qp (Qi XE w) A (Q3W (.QQ I)) Q E s:=by
 injections XE w A E s a es ep t I y Q _ _ _ _
 have stop:∀ {s':QZ},Q0o I QV Q4Z->(∀h',Q0o I QV h'->Q QG {s' with YO:=h'})->Qp (Qi XE w) Q96 (do QAH (<- QCc (.Qk "StopIteration") []):Sem Q2t) (fun _ _=>Yn) (fun e s1=>Qp (Qi XE w) A (Zz e (.Qk "StopIteration")) (fun b s2=>b=QM/\Q QG s2) E s1) s':=by
  intros s' hx hq
  refine Q9 ?_
  simp only [QCc,QAG]
  refine Q9 (Xl ?_ (by size_fits))
  refine Q9 (m:=Q2b _ _) (Zl (a:=Zy) (by first | rfl | (simp only [Q2b];rfl)) ?_)
  refine Xl ?_ (by size_fits)
  simp only [QAH]
  refine Q9 (Q97 ?_)
  rw [show Q98=QG from hh]
  refine Q9 (QF (QBb ?_))
  refine Q2u (T:="StopIteration") (b:=QM) ⟨_,X3 _ QA,QA⟩ Q86 ?_
  exact ⟨QA,hq _ ((hx.push _).Q6G _)⟩
 have stop':∀ {s':QZ} {Z:Q2t->QZ->Prop} {Z':QI->QZ->Prop},Q0o I QV Q4Z->(∀h',Q0o I QV h'->Q QG {s' with YO:=h'})->(∀e s1,Qp (Qi XE w) A (Zz e (.Qk "StopIteration")) (fun b s2=>b=QM/\Q QG s2) E s1->Z' e s1)->Qp (Qi XE w) Q96 (do QAH (<- QCc (.Qk "StopIteration") []):Sem Q2t) Z Z' s' :=
  fun hx hq hz=>Yd (stop hx hq) (fun _ _ h=>Qy) fun e s1 h=>hz e s1 h
 obtain ⟨⟨o,ho,hc,hd⟩,hok⟩:=id hit
 have hT:Q5U (.QQ I) "set_iterator":=⟨o,ho,hc⟩
 refine Q9 (Q3I (YK (Q1z:=Qb "__next__") hT AM (Y3 AM hT DA ?_ (D8 _))))
 have Q38:∀e s1,Qp (Qi XE w) A (Zz e (.Qk "StopIteration")) (fun b s2=>b=QM/\Q QG s2) E s1->Qp (Qi XE w) A (do if <- Zz e (.Qk "StopIteration") then ZX QG else throw e:Sem (QW QI)) Q E s1:=fun e s1 h =>
  Q9 (Yd h (fun b s2 ⟨hb,hq⟩=>by subst hb;exact QF hq) fun _ _ h=>h)
 refine Q9 (QF ?_)
 refine Q9 (Q8B ho hd ?_)
 refine Q9 (A2 S ?_)
 rw [QN (by simp)]
 refine Q9 (QF ?_)
 cases y with
 | QDN ys =>
  injections ys zI
  obtain ⟨hb,QA⟩:=hok
  dsimp only [Q2s]
  refine Q9 (Hd S hb ?_)
  have e:(Q5E (Q1K a ep) es)[(ZA:X4).Q1Z]?.map (fun e=>(e.2,0))=QG:=by
   rw [ZE,Q25 (by have:=(CY (Q1K a ep) es).length_eq;simp at this;exact Mb this)];rfl
  rw [ZE ep,e]
  refine Q9 (Z1 ho hd (by simp) ?_)
  exact stop' (XX ..).QCf hQ Q38
 | Q4b =>
  obtain ⟨hb,hpl⟩:=hok
  dsimp only [Q2s]
  refine Q9 (FJ (i:=ZA) S hb hpl (Qh _) ?_)
  rw [Q25 (Qh _)]
  dsimp only [Q9L]
  refine Q9 (Z1 ho hd (by simp) ?_)
  exact stop' (XX ..).QCf hQ Q38
 | Q3A tup ps =>
  injections tup ps zI
  obtain ⟨⟨hb,hpm⟩,ot,nt,hot,hdt⟩:=hok
  dsimp only [Q2s]
  refine Q9 (Z0 hot hdt ?_)
  dsimp only
  have e:(Q15 fun (p:QH)=>Q5D (p:X4) 0).Xe[(ZA:X4).Q1Z]?=QG:=by
   rw [ZE];exact Q25 (by have:=hpm.length_eq;simp at this ⊢;exact Mb this)
  rw [e]
  dsimp only
  refine Q9 (Z1 ho hd (by simp) ?_)
  have ho2:=XS (Q1T (·.Q1U 0 (Zp 0))) ho (Yg (XL hd _))
  refine Q9 (Z1 ho2 (XL hd _) (by simp) ?_)
  exact stop' ((XX ..).QR (XX ..)).QCf hQ Q38
end
end
end Mini
end
section
open PySem PySem.W PySem.Calls PyProof.Rows
namespace Mini
mutual
theorem EE:∀ {xs l:QC Yh},Q9y->(∀x∈xs,x∈l)->ZJ<=Qn->l.Perm xs
 | [],l,_,_,h=>by rw [Zx (Q81 h)]
 | x::r,l,hn,hs,h=>by
  have hx:=hs x (.Zf _)
  rw [QBk]at hn
  refine (List.perm_cons_erase hx).QR (Q5Q x (EE hn.2 (fun y hy=>?_) ?_))
  ·exact (List.mem_erase_of_ne fun q=>hn.1 (by rw [<- q];exact hy)).mpr (hs y (.Q38 _ hy))
  ·rw [List.length_erase_of_mem hx];simp only [Xg]at h;exact adq h
def kf:QI->Yh
 | .Qm n _=>.i n
 | .Xt x _=>.s x
 | _=>.i 0
theorem Tc {k:Yh} {v:QI} (h:EM k v=QM):kf v=k:=by
 cases k
 ·obtain (⟨t,QA⟩):=Q1C h;rfl
 ·obtain (⟨t,QA⟩):=Q30 h;rfl
end
section
variable {c:Cx} {A:Around} {env:Env} {fm:Fm} {Λ:Lab} {σ:St} {fz:Addr->Option Obj} {s:Shared} {E:Value->Shared->Prop}
theorem T6 {Q:Value->Shared->Prop} (hA:AOk A) (r:Rel c fz env.locals Λ σ s) {l:Nat} {co:Obj} {xs:List Key} (hl:l < Λ.n) (e:σ.hp l=.set xs) (hco:s.heap.get? (Λ.f l)=some co)
  (q:∀it s' (ys:List Key),ys.Perm xs->Gb c A env Λ fz (σ.upd l (.raw co)) (ys.map Key.val) (fun σ=>σ.hp l=.raw co) it s'->Q it s'):wpAny (model c.prog c.w) A (pyIter (.ref (Λ.f l))) Q E s:=by
 injections c A env Λ σ fz s E Q _ _ l co xs _ _ _ _
 obtain ⟨o,ho,hor⟩:=(r.ob l hl)
 rw [hco]at ho;cases ho
 rw [e]at hor
 obtain ⟨hn,es,ep,t,hx1,hx2,hel,hmem,hb,hf,hsz,hg⟩:=hor
 have S:SetAt c.w s.heap (Λ.f l) es ep t:=⟨⟨co,hco,hx1,hx2⟩,hf,hg⟩
 have r1:Rel c fz env.locals Λ (σ.upd l (.raw co)) s:=r.view (by rw [<- r.nn];exact hl) hco rfl
 refine JB (fits_of_scanBound hb) S ?_;intros y I h' dr hk hit hown
 have hperm:=y.items_perm hit.2
 have hkeys:(((y.items es).map kf).Perm xs):=by
  refine (hperm.map kf).trans (EE hn ?_ (by simp [hsz]));intros k hk
  obtain ⟨e,he,hke⟩:=((hmem k).mp hk)
  rw [<- Tc hke]
  exact List.mem_map.mpr ⟨e.2,List.mem_map.mpr ⟨e,he,rfl⟩,rfl⟩
 have hfz:∀b∈y.own I,fz b=none:=by
  intros b hb
  cases q:fz b with
  | none=>rfl
  | some o=>exact absurd (Heap.lt_size (r.keep _ _ q)) (Nat.not_lt.mpr (hown b hb))
 have hL:env.locals∉y.own I:=fun hb=>absurd r.Llt (Nat.not_lt.mpr (hown _ hb))
 have hlab:∀l,l < Λ.n->Λ.f l∉y.own I:=by
  intros l hl hb
  obtain ⟨o,ho,_⟩:=(r.ob l hl)
  exact absurd (Heap.lt_size ho) (Nat.not_lt.mpr (hown _ hb))
 have hIm:I∈y.own I:=by cases y <;> exact .head _
 have hIt:I∉(y.own I).tail:=by
  cases y with
  | text ys=>simp [Way.own]
  | plain=>simp [Way.own]
  | drawn tup ps =>
   intros q
   have q:I=tup:=by simpa [Way.own] using q
   obtain ⟨⟨o1,h1,_,h3⟩,_,o2,n2,h4,h5⟩:=hit
   rw [q,h4]at h1;cases h1;rw [h5]at h3;cases h3
 refine q _ _ ((y.items es).map kf) hkeys ⟨I,y.own I,Hp c.w (Λ.f l) es ep t I y,rfl,?_,r1.grow (tk:=s.toks) (dr:=dr) hk,hfz,hL,hlab,hit⟩
 intros env' fz' hfz' hL'
 have hke:∀x∈y.items es,EM (kf x) x=true:=by
  intros x hx
  have:x∈es.toList.map (·.2):=hperm.mem_iff.mp hx
  obtain ⟨e,he,rfl⟩:=(List.mem_map.mp this)
  obtain ⟨⟨k,hk,_⟩,_⟩:=(hel e he)
  have hk':EM k e.2=true:=hk
  rw [Tc hk'];exact hk'
 refine {frame:=fun i h h' J hk=>?_,there:=fun i h J b hb=>?_,fzo:=hfz',noL:=hL',next:=?_,done:=?_,go:=?_,self:=?_}
 ·obtain ⟨⟨o,ho,r1⟩,hok⟩:=J
  refine ⟨⟨o,hk _ hIm _ ho,r1⟩,?_⟩
  cases y with
  | text ys=>exact hok
  | plain=>exact hok
  | drawn tup ps=>obtain ⟨h1,o,n,h2,h3⟩:=hok;exact ⟨h1,o,n,hk _ (.tail _ (.head _)) _ h2,h3⟩
 ·obtain ⟨⟨o,ho,r1⟩,hok⟩:=J
  cases y with
  | text ys=>rw [List.mem_singleton.mp hb];exact ⟨o,ho⟩
  | plain=>rw [List.mem_singleton.mp hb];exact ⟨o,ho⟩
  | drawn tup ps =>
   rcases List.mem_cons.mp hb with rfl | hb
   ·exact ⟨o,ho⟩
   ·obtain ⟨h1,o,n,h2,h3⟩:=hok;rw [List.mem_singleton.mp hb];exact ⟨o,h2⟩
 ·intros i x Λ' σ' s' Q' E' ext r' st J hx k
  obtain ⟨o',ho',hor'⟩:=(r'.ob l (Nat.lt_of_lt_of_le hl ext.1))
  rw [st]at hor'
  cases hor'
  rw [ext.2 l hl]at ho'
  rw [List.getElem?_map]at hx
  obtain ⟨kx,hkx,rfl⟩:=(Option.map_eq_some_iff.mp hx)
  rw [List.getElem?_map]at hkx
  obtain ⟨v,hv,rfl⟩:=(Option.map_eq_some_iff.mp hkx)
  refine OT hIt ⟨⟨_,ho',hx1,hx2⟩,hf,hg⟩ J hv ?_;intros h' J' hs
  exact k v h' s'.toks s'.drawn (En (hke v (List.mem_of_getElem? hv))) J' fun b o hb e=>(hs.2 b fun q=>hb (by rw [q];exact hIm)).trans e
 ·intros Λ' σ' s' Q' E' ext r' st J k
  obtain ⟨o',ho',hor'⟩:=(r'.ob l (Nat.lt_of_lt_of_le hl ext.1))
  rw [st]at hor'
  cases hor'
  rw [ext.2 l hl]at ho'
  rw [List.length_map,List.length_map,hperm.length_eq,List.length_map,Array.length_toList]at J
  exact TH hA.handled ⟨⟨_,ho',hx1,hx2⟩,hf,hg⟩ J fun h' he=>k h' s'.toks s'.drawn fun b o hb e=>he b o (fun q=>hb (by rw [q];exact hIm)) e
 ·intros i target v s' Q' E' xq01 hq
  obtain ⟨⟨o,ho,hc,hd⟩,_⟩:=xq01
  exact Cv ho hc hd (by decide) hq
 ·intros i s' Q' E' J hq
  exact Lp J hq
end
end Mini
end
section
open PySem PySem.W PySem.Calls PyProof.Rows
set_option genInjectivity false
set_option genSizeOf false
namespace Mini
mutual
structure Pg where
 K:Q1B
 gl:X8->QW QI
instance:Q2B Pg:=⟨⟨Zv,fun _=>QG⟩⟩
abbrev Av:=QU->QC QU->PT QU
def JH (k:Const):PT QU:=fun σ P=>match k with
 | .QG=>P .QG σ
 | .Ys b=>P (.Ys b) σ
 | .Qm i=>P (.Qm i) σ
 | .Xt x=>P (.Xt x) σ
 | _=>Yn
def Ng {α β:Type} {γ:Type} (a:QC α) (b:QC β) (x y:γ):γ:=match a,b with | [],[]=>x | _,_=>y
def afn {α β:Type} {γ:Type} (a:QC α) (b:QC β) (f:α->β->γ) (d:γ):γ:=match a,b with | [x],[y]=>f x y | _,_=>d
def Hc {α γ:Type} (a:QC α) (x y:γ):γ:=match a with | []=>x | _=>y
def QB2 {α γ:Type} (a:QC α) (f:α->QC α->γ) (d:γ):γ:=match a with | []=>d | x::r=>f x r
def BY (e:Qf):Qu:=QHT e (fun g as ks _=>B9 g (fun _ _=>Ng as ks QJ QM) QM) QM
def Dl (e:Qf):QW Qf:=QHT e (fun g as ks _=>B9 g (fun f _=>QB2 as (fun x r=>Ng r ks (if f="enumerate" then QB x else QG) QG) QG) QG) QG
theorem Mo {α:Type} {e:Qf} {f:Qf->QC Qf->QC QEo->Pos->α} {d:α}:ZH≠16->QHT e f d=d:=by
 apply @Q1M (fun e=>ZH≠16->QHT e f d=d) e
 case QB3=>exact fun _ _ _ _ n=>XF QA n
 all_goals ((repeat intro a);exact QA)
theorem Mn {α:Type} (e:Qf) (f:Qf->QC Qf->QC QEo->Pos->α) (d:α):(∃g as ks p,e=.QB3 g as ks p)\/QHT e f d=d :=
 if q:ZH=16 then .inl (Expr.Call.elim (Q4f:=fun e=>∃g as ks p,e=.QB3 g as ks p) e q fun a b c p=>⟨a,b,c,p,QA⟩) else .inr (Mo q)
theorem Ml {α:Type} {e:Qf} {f:X8->Pos->α} {d:α}:ZH≠23->B9 e f d=d:=by
 apply @Q1M (fun e=>ZH≠23->B9 e f d=d) e
 case Q0y=>exact fun _ _ n=>XF QA n
 all_goals ((repeat intro a);exact QA)
theorem Mj {α:Type} (e:Qf) (f:X8->Pos->α) (d:α):(∃x p,e=.Q0y x p)\/B9 e f d=d :=
 if q:ZH=23 then .inl (QCm (Q4f:=fun e=>∃x p,e=.Q0y x p) e q fun a b=>⟨a,b,QA⟩) else .inr (Ml q)
theorem JV {e x:Qf} (h:Dl e=QB x):∃p q,e=.QB3 (.Q0y "enumerate" p) [x] [] q:=by
 rcases Mn e (fun g as ks _=>B9 g (fun f _=>QB2 as (fun x r=>Ng r ks (if f="enumerate" then QB x else QG) QG) QG) QG) QG with ⟨g,as,ks,q,QA⟩ | k
 ·rcases Mj g (fun f _=>QB2 as (fun x r=>Ng r ks (if f="enumerate" then QB x else QG) QG) QG) QG with ⟨f,p,QA⟩ | k
  ·rcases as with _ | ⟨a,_ | ⟨b,as⟩⟩
   ·exact (nomatch (show QG=QB x from h))
   ·rcases ks with _ | ⟨k,kw⟩
    ·by_cases hf:f="enumerate"
     ·have:QB a=QB x:=(QY hf).QCn h
      cases this;subst hf;exact ⟨p,q,QA⟩
     ·exact (nomatch (QN hf).QCn h)
    ·exact (nomatch (show QG=QB x from h))
   ·exact (nomatch (show QG=QB x from h))
  ·exact (nomatch QEp (show B9 g _ QG=QB x from h))
 ·exact (nomatch QEp h)
def BL (t:Qf->PT Qu) (op:QEq):QC Qf->PT Qu
 | [],σ,P=>P (op == .And) σ
 | x::r,σ,P=>t x σ fun b σ=>match op,b with
   | .And,QJ=>P QJ σ
   | .Or,QM=>P QM σ
   | _,_=>BL t op r σ P
def EY (t:Qf->PT QU):QW Qf->PT QU
 | QG,σ,P=>P .QG σ
 | QB e,σ,P=>t e σ P
def EH (a:Qf->QU->PT Yb):QC Qf->QC QU->PT Yb
 | [],_,σ,P=>P () σ
 | t::ts,v::vs,σ,P=>a t v σ fun _ σ=>EH a ts vs σ P
 | _::_,[],σ,P=>P () σ
def A7 (a:Qf->QU->PT Yb) (v:QU):QC Qf->PT Yb
 | [],σ,P=>P () σ
 | t::ts,σ,P=>a t v σ fun _ σ=>A7 a v ts σ P
def AH (fm:Fm):QC X8->QC QU->PT Yb
 | x::xs,v::vs,σ,P=>Br fm x v σ fun _ σ=>AH fm xs vs σ P
 | _,_,σ,P=>P () σ
def xTL {α:Type} (e:Qf) (f:QC Qf->α) (d:α):α:=by apply @Q1M (fun _=>α) e;(case Zs=>exact fun ts _ _=>f ts);(case QC=>exact fun ts _=>f ts);all_goals ((repeat intro a);exact d)
def S4 (QBz:QC Qf) (Q95:Qf):QW (QC Qf×QC Qf) :=
 QB2 QBz (fun t r=>Hc r (xTL t (fun ts=>To Q95 (fun vs=>QB (ts,vs)) QG) QG) QG) QG
def BV (sc:Q0M) (QBz:QC Qf) (Q95:Qf):QW (QC X8) :=
 match S4 QBz Q95 with
 | QG=>QG
 | QB (ts,vs) =>
  if !(Q2v == 2 || Q2v == 3) || Q0U != Q2v || sc.kind != .Q3B then QG
  else if vs.any B2 then QG
  else
   let line:=(ts.head?.map (·.Q0z)).Q4m 0
   let Q48:=Q57 fun e=>B9 e (fun id XJ=>if Q19 id == QB .Q63&&Q0z == line then QB id else QG) QG
   if Q2w != Q2v || names.eraseDups.length != Q2w then QG
   else if QEr (Q6K 8) then QG else QB Q48
def Bg (QBz:QC Qf) (Q95:Qf):Qu:=To Q95 (fun vs=>QEr (Q8C 8)&&!QEr (Q6K 8)) QJ
inductive Src where
 | seq (l:QH)
 | enum (l:QH)
instance:Q2B Src:=⟨.seq 0⟩
def Tu (P:Src->St->Prop):QU->St->Prop:=fun v σ=>Ai v fun l=>P (.seq l) σ
def Tv (P:Src->St->Prop):QU->St->Prop:=fun v σ=>Ai v fun l=>P (.enum l) σ
def IJ (gl:X8->QW QI) (fm:Fm) (t:Qf->PT QU) (e:Qf):PT Src:=fun σ P=>match Dl e with
 | QB x=>B2 x=QJ/\BI gl fm "enumerate" σ fun fv σ=>fv=.imm (.Qk "enumerate")/\t x σ (Tv P)
 | QG=>Bv e=QJ/\t e σ (Tu P)
def Nf (asg:QU->PT Yb) (bod:PT Fl) (l:QH) (Y5:QC (Yh×QU)):PT Fl:=fun σ P =>
 ∀co,AS (fun σ=>QS l=.raw co) (fun x σ P=>asg x σ fun _ σ=>bod σ P) (Q2o fun p=>p.1.val) (Yy l (.raw co)) fun fl XH=>X5 l=.raw co/\P fl (QEs l (.Q04 Y5))
def S9 (asg:QU->PT Yb) (bod:PT Fl) (l:QH) (xs:QC Yh):PT Fl:=fun σ P =>
 ∀co (ys:QC Yh),ys.Perm xs->AS (fun σ=>QS l=.raw co) (fun x σ P=>asg x σ fun _ σ=>bod σ P) (ys.map Q12) (Yy l (.raw co)) fun fl XH=>X5 l=.raw co/\P fl (QEs l (.set xs))
def Gl (asg:QU->PT Yb) (bod:PT Fl) (Q1t:Qf) (src:Src):PT Fl:=fun σ P=>match src with
 | .seq l=>(Af (QS l) fun xs=>AS (fun σ=>QS l=.Qs xs) (fun x σ P=>asg x σ fun _ σ=>bod σ P) xs σ P) \/
   (Cp (QS l) fun xs=>AS (fun σ=>QS l=.YM xs) (fun x σ P=>asg x σ fun _ σ=>bod σ P) xs σ P) \/
   (By (QS l) fun a b k=>Q0f a b k=QM/\0<=XI a b k/\AS (fun _=>Q44) (fun x σ P=>asg x σ fun _ σ=>bod σ P) ((Ay a b k).map .Qm) σ P) \/
   (As (QS l) fun Y5=>Nf asg bod l Y5 σ P)\/(Bh (QS l) fun xs=>S9 asg bod l xs σ P) \/
   (CD (QS l) fun d=>d < QO/\As (QS d) fun Y5=>Nf asg bod d Y5 σ P)
 | .enum l=>Af (QS l) fun xs=>Td Q1t=QM/\AS (fun σ=>QS l=.Qs xs) (fun (p:QH×QU) σ P=>asg (.QQ QO) (Qw (.YM [.Qm p.1,p.2])) fun _ σ=>bod σ P) (Cw xs) σ P
def CZ (t:PT Qu) (b:PT Fl):QH->PT Fl
 | 0,_,_=>Yn
 | k+1,σ,P=>t σ fun c σ=>(c=QM->b σ fun fl σ=>match fl with
   | .YE=>CZ t b k σ P
   | .QAy=>CZ t b k σ P
   | .brk=>P .YE σ
   | .ret v=>P (.ret v) σ)/\(c=QJ->P .YE σ)
def Oj (fm:Fm) (x:X8) (op:Q6Y) (P:Fl->St->Prop) (a b:QU) (σ:St):Prop:=Bi a fun i=>Bi b fun j=>op=.Add/\Br fm x (.Qm (i+j)) σ fun _ σ=>P .YE σ
def Cn (v:QU) (σ:St) (p:QC QU×(St->Prop)):Prop:=∃l,v=.QQ l/\((∃xs,QS l=.Qs xs/\(xs,fun σ:St=>QS l=.Qs xs)=p)\/(∃xs,QS l=.YM xs/\(xs,fun σ:St=>QS l=.YM xs)=p) \/
  ∃a b k,QS l=.Q7K a b k/\(Q0f a b k=QM/\0<=XI a b k)/\((Ay a b k).map .Qm,fun _:St=>Q44)=p)
theorem QEt {l:QH} {σ:St} {xs:QC QU} (h:QS l=.Qs xs):Cn (.QQ l) σ (xs,fun σ=>QS l=.Qs xs):=⟨l,QA,.inl ⟨xs,h,QA⟩⟩
def CO (f:Qf->PT QU) (t:Qf->PT Qu) (a:Qf->QU->PT Yb) (acc:QH) (elt:Qf):QC Qx->QC QU->(St->Prop)->PT Yb
 | [],_,_=>fun _ _=>Yn
 | g::gs,Xr,Q3J=>fun σ P=>AS Q3J (fun x σ P=>a Q3K x σ fun _ σ=>BL t .And QBd σ fun ok σ =>
   (ok=QJ->P .YE σ)/\(ok=QM->match gs with
    | []=>f elt σ fun v σ=>Bx [.QQ acc,v] σ fun _ σ=>P .YE σ
    | g'::_=>Bv Q58=QJ/\f Q58 σ fun v σ=>∃its st,Cn v σ (its,st)/\CO f t a acc elt gs its st σ fun _ σ=>P .YE σ)) Xr σ fun _ σ=>P () σ
def Ev (cl:QC (X8×QH)):QC (X8×Q2d)->QC (X8×QH)->QW (QC (X8×QH))
 | [],acc=>QB acc
 | (n,k)::r,acc=>if k == .QGB then (match QB4 n with | QB l=>Ev cl r ((n,l)::acc) | QG=>QG) else Ev cl r acc
def Aj (Qv sc:Q0M):Q0M :=
 {Qv with Q48:=scope.names.map fun (n,k)=>if (k == .QGB&&sc.kind == .Q3B&&Q19 n == QB .YV) then (n,.YV) else (n,k)}
def Eu (Qv:Q0M) (Q0P:QC Qx):Qu :=
 (match Q9c with | .Q3B=>QM | _=>QJ)&&Q4p (fun x=>x.2 != .YV)&&Q4p (fun x=>x.2 != .Q63 || Q9d x.1 == QB .Q63)&&gens.all fun g=>Q76 == 0&&!Bv Q6L
def Hb (fm:Fm) (Qv:Q0M) (cl:QC (X8×QH)) (f0 f:Qf->PT QU) (t:Qf->PT Qu) (a:Qf->QU->PT Yb) (elt:Qf) (g:Qx) (gs:QC Qx):PT QU:=fun σ P =>
 Ev Q99 Q1N []=QB cl/\Eu Qv (g::gs)=QM/\f0 Q6L σ fun v σ=>∃its st,Cn v σ (its,st) /\
  CO f t a QO elt (g::gs) its st {Qw (.Qs []) with loc:=fun _=>QG} fun _ XH=>P (.QQ QO) {XH with loc:=Xy}
def QGC (K:Q1B) (c P:Qq):Prop:=∃o,QA4 c=QB o/\∀h:ZS,Q05 c=QB o->CodeHd h c P
theorem codeHdIn.hd {K:Q1B} {c P:Qq} {h:ZS} (x:QGC K c P) (X:QAw h):CodeHd h c P:=x.elim fun o r=>r.2 h (X _ _ r.1)
def AG (XJ:Pos):QC (QH×QH×QH)->QW QH
 | []=>QG
 | e::r=>if (e.1:X4) == Q0z&&(e.2.1:X4) == Q59 then QB e.2.2 else AG XJ r
def C9 (q:X8) (o:ZG):Prop:=∃vs t,Q21=.Xp vs/\vs[1]?=QB (.Xt q t)
def Dz (Xc:Q5C) (Yf:Qf) (Qv:Q0M) (Q9e:X8) (pm ctv:QI):Qq->ZG:=fun c'=>kla_obj "<lambda>" Q9e Xc Yf Qv [] pm c' ctv
def TS (K:Q1B) (fm:Fm) (Xc:Q5C) (Yf:Qf) (Qv:Q0M) (XJ:Pos):PT QU:=fun σ P =>
 (QDV=[]/\QB5=[]/\(Q4p fun x=>x.2 != .QGB)=QM)/\∃c0 Pt l es,Q2R=.QQ c0/\Q2S=QB (Pt,l)/\QGC K c0 Pt/\QS l=.tab es /\
  (match AG XJ es with
  | QB lc=>∀Q9e pm ctv,P (.QQ QO) (Qw (.lam (Dz Xc Yf Qv Q9e pm ctv) lc))
  | QG=>∀oc q Q9e pm ctv,C9 q oc->P (.QQ (QO+1)) (((Yy l (.tab (es++[(Q0z,Q59,QO)]))).Q9A (.raw oc)).Q9A (.lam (Dz Xc Yf Qv Q9e pm ctv) QO)))
def Fx (k:PT Fl) (P:Fl->St->Prop):Fl->St->Prop:=fun fl σ=>match fl with
 | .YE=>k σ P
 | fl=>P fl σ
def afm (op:QEu) (p:Prop):Prop:=match op with | .Not=>p | _=>Yn
def xLC {α:Type} (e:Qf) (f:Qf->QC Qx->Q0M->α) (d:α):α:=by apply @Q1M (fun _=>α) e;(case ZF=>exact fun a b c _=>f a b c);all_goals ((repeat intro a);exact d)
def TV {α:Type} (ts:QC Qf) (e:Qf) (f:Qf->Qf->Qx->QC Qx->Q0M->α) (d:α):α :=
 QB2 ts (fun tg r=>Hc r (xLC e (fun elt Q0P Qv=>QB2 Q0P (fun g gs=>f tg elt g gs Qv) d) d) d) d
end
mutual
noncomputable def ev (G:Pg) (cal:Av) (n:Nat) (fm:Fm) (e:Expr):PT Val:=match n with
 | 0=>fun _ _=>False
 | n+1=>fun σ P=>by
  apply @Expr.casesOn (fun _=>Prop) e
  case Constant=>exact fun k _ _=>JH k σ P
  case Name=>exact fun x _=>(x == ("__debug__":Str))=false/\(x == ("__classdict__":Str))=false/\BI G.gl fm x σ P
  case BinOp=>exact fun l op r _=>ev G cal n fm l σ fun a σ=>ev G cal n fm r σ fun b σ=>CP op a b σ P
  case IfExp=>exact fun t b o _=>tst G cal n fm t σ fun c σ=>(c=true->ev G cal n fm b σ P)/\(c=false->ev G cal n fm o σ P)
  case Compare=>exact fun l ops rs _=>afn ops rs (fun op r=>behindInMarks op r=false/\ev G cal n fm l σ fun a σ=>ev G cal n fm r σ fun b σ=>BK op a b σ P) False
  case Tuple=>exact fun es _ _=>Am es=true/\A6 (ev G cal n fm) es σ fun vs σ=>vs.length<=sizeLine/\P (.ref σ.nx) (σ.alloc (.tuple vs))
  case List=>exact fun es _=>Am es=true/\A6 (ev G cal n fm) es σ fun vs σ=>vs.length<=sizeLine/\P (.ref σ.nx) (σ.alloc (.list vs))
  case Dict=>exact fun ks vs _=>Ng ks vs (P (.ref σ.nx) (σ.alloc (.dict []))) False
  case Lambda=>exact fun args body scope pos=>TS G.K fm args body scope pos σ P
  case ListComp=>exact fun elt gens scope _=>onCons gens (fun g gs=>∃cl,Hb fm scope cl (ev G cal n fm) (ev G cal n ⟨Aj scope fm.sc,cl,fm.cd,fm.tb⟩) (tst G cal n ⟨Aj scope fm.sc,cl,fm.cd,fm.tb⟩) (asg G cal n ⟨Aj scope fm.sc,cl,fm.cd,fm.tb⟩) elt g gs σ P) False
  case Subscript=>exact fun v i _=>Ed i (fun lo hi st=>ev G cal n fm v σ fun a σ=>EY (ev G cal n fm) lo σ fun x σ=>EY (ev G cal n fm) hi σ fun y σ=>EY (ev G cal n fm) st σ fun z σ=>Bs a x y z σ P) (Cf i=false/\ev G cal n fm v σ fun a σ=>ev G cal n fm i σ fun b σ=>FF a b σ P)
  case Attribute=>exact fun o a _=>BY o=true/\ev G cal n fm o σ fun v σ=>BB G.K v a σ P
  case Call=>exact fun f args ks pos=>Hc ks (Fg f (fun o name apos=>(BY o=true/\Am args=true/\args.length < 30/\(apos.endLine == pos.line)=true)/\ev G cal n fm o σ fun v σ=>DW G.K v name σ fun p σ=>A6 (ev G cal n fm) args σ fun vs σ=>Bw G.K σ p.1/\cal p.1 (p.2++vs) σ P) (Am args=true/\ev G cal n fm f σ fun v σ=>A6 (ev G cal n fm) args σ fun vs σ=>Bw G.K σ v/\cal v vs σ P)) False
  all_goals ((repeat intro a);exact False)
noncomputable def tst (G:Pg) (cal:Av) (n:Nat) (fm:Fm) (e:Expr):PT Bool:=match n with
 | 0=>fun _ _=>False
 | n+1=>fun σ P=>by
  apply @Expr.casesOn (fun _=>Prop) e
  case UnaryOp=>exact fun op x _=>afm op (tst G cal n fm x σ fun b σ=>P (!b) σ)
  case BoolOp=>exact fun op vs _=>BL (tst G cal n fm) op vs σ P
  case Compare=>exact fun l ops rs _=>afn ops rs (fun op r=>behindInMarks op r=false/\ev G cal n fm l σ fun a σ=>ev G cal n fm r σ fun b σ=>BK op a b σ fun v σ=>AC G.K v σ P) False
  case Name=>exact fun x p=>ev G cal n fm (.Name x p) σ fun v σ=>AC G.K v σ P
  case Call=>exact fun f args kw p=>ev G cal n fm (.Call f args kw p) σ fun v σ=>AC G.K v σ P
  case Attribute=>exact fun o a p=>ev G cal n fm (.Attribute o a p) σ fun v σ=>AC G.K v σ P
  case Constant=>exact fun k u p=>ev G cal n fm (.Constant k u p) σ fun v σ=>AC G.K v σ P
  all_goals ((repeat intro a);exact False)
noncomputable def asg (G:Pg) (cal:Av) (n:Nat) (fm:Fm) (t:Expr) (v:Val):PT Unit:=match n with
 | 0=>fun _ _=>False
 | n+1=>fun σ P=>by
  apply @Expr.casesOn (fun _=>Prop) t
  case Name=>exact fun x _=>Br fm x v σ P
  case Tuple=>exact fun es _ _=>Am es=true/\AR G.K v es.length σ fun vs σ=>EH (asg G cal n fm) es vs σ P
  case Attribute=>exact fun o a _=>ev G cal n fm o σ fun ov σ=>Co G.K ov a v σ P
  case Subscript=>exact fun o i _=>ev G cal n fm o σ fun ov σ=>ev G cal n fm i σ fun iv σ=>C0 ov iv v σ P
  all_goals ((repeat intro a);exact False)
noncomputable def exs (G:Pg) (cal:Av) (n:Nat) (fm:Fm) (ss:List Stmt):PT Fl:=match n with
 | 0=>fun _ _=>False
 | n+1=>fun σ P=>match ss with
  | []=>P .next σ
  | s::rest=>ex1 G cal n fm s σ (Fx (exs G cal n fm rest) P)
noncomputable def ex1 (G:Pg) (cal:Av) (n:Nat) (fm:Fm) (s:Stmt):PT Fl:=match n with
 | 0=>fun _ _=>False
 | n+1=>fun σ P=>by
  apply @Stmt.casesOn (fun _=>Prop) s
  case Expr=>exact fun v _=>A3 v=false/\ev G cal n fm v σ fun _ σ=>P .next σ
  case Pass=>exact fun _=>P .next σ
  case Break=>exact fun _=>P .brk σ
  case Continue=>exact fun _=>P .cont σ
  case Return=>exact fun e _=>match e with | none=>P (.ret .none) σ | some e=>ev G cal n fm e σ fun v σ=>P (.ret v) σ
  case Assign=>exact fun ts e _=>TV ts e (fun tg elt g gs scope=>B2 tg=false/\∃cl,Hb fm scope cl (ev G cal n fm) (ev G cal n ⟨Aj scope fm.sc,cl,fm.cd,fm.tb⟩) (tst G cal n ⟨Aj scope fm.sc,cl,fm.cd,fm.tb⟩) (asg G cal n ⟨Aj scope fm.sc,cl,fm.cd,fm.tb⟩) elt g gs σ fun v σ=>asg G cal n fm tg v σ fun _ σ=>P .next σ) ((A3 e=false/\Am ts=true/\Bg ts e=false)/\ev G cal n fm e σ fun v σ=>(match BV fm.sc ts e with | some names=>AR G.K v names.length σ fun vs σ=>AH fm names.reverse vs.reverse σ fun _ σ=>P .next σ | none=>A7 (asg G cal n fm) v ts σ fun _ σ=>P .next σ))
  case AugAssign=>exact fun t op e _=>B9 t (fun x _=>(x == ("__classdict__":Str))=false/\BI G.gl fm x σ fun a σ=>ev G cal n fm e σ fun b σ=>Oj fm x op P a b σ) False
  case If=>exact fun t b o _=>tst G cal n fm t σ fun c σ=>(c=true->exs G cal n fm b σ P)/\(c=false->exs G cal n fm o σ P)
  case While=>exact fun t b o _=>Hc o (∃k,CZ (tst G cal n fm t) (exs G cal n fm b) k σ P) False
  case For=>exact fun t it b o _=>Hc o (IJ G.gl fm (ev G cal n fm) it σ fun src σ=>Gl (asg G cal n fm t) (exs G cal n fm b) t src σ P) False
  case Delete=>exact fun ts _=>onCons ts (fun t r=>Hc r (Mi t (fun o i=>ev G cal n fm o σ fun ov σ=>ev G cal n fm i σ fun iv σ=>C1 ov iv σ fun _ σ=>P .next σ) False) False) False
  all_goals ((repeat intro a);exact False)
end
end Mini
end
section
open PySem PySem.W PySem.Calls PyProof.Rows
namespace Mini
noncomputable abbrev Bd (c:Cx) (A:Around) (env:Env) (fm:Fm) (f:Expr->PT Val):Prop:=∀e Λ σ P,f e σ P->Sim c A env fm Λ (eval e env) VR σ P
noncomputable abbrev GD (c:Cx) (A:Around) (env:Env) (fm:Fm) (t:Expr->PT Bool):Prop:=∀e Λ σ P,t e σ P->Sim c A env fm Λ (isTrue e env (eval e env)) ER σ P
noncomputable abbrev E5 (c:Cx) (A:Around) (env:Env) (fm:Fm) (a:Expr->Val->PT Unit):Prop:=∀e v x Λ σ P,VR Λ v x->a e v σ P->Sim c A env fm Λ (assign e env x) UR σ P
noncomputable abbrev LO (c:Cx) (A:Around) (env:Env) (fm:Fm) (b:List Stmt->PT Fl):Prop:=∀ss Λ σ P,b ss σ P->Sim c A env fm Λ (execs ss env) FR σ P
noncomputable abbrev age (c:Cx) (A:Around) (env:Env) (fm:Fm) (b:Stmt->PT Fl):Prop:=∀s Λ σ P,b s σ P->Sim c A env fm Λ (exec s env) FR σ P
section
variable {c:Cx} {A:Around} {env:Env} {fm:Fm} {Λ:Lab} {σ:St} {f:Expr->PT Val} {t:Expr->PT Bool} {gl:Str->Option Value}
mutual
theorem Oi {k:Const} {u:QH} {XJ:Pos} {P:QU->St->Prop} (h:JH k σ P):Zt c A X1 fm Λ (Q2p (.Q4h k u XJ) X1) VR σ P:=by
 cases k
 case QG=>exact Xk h fun fz s Q E r q=>wpAny_Constant_none (q _ Y6 QA)
 case Ys=>exact Xk h fun fz s Q E r q=>wpAny_Constant_bool (q _ Y6 QA)
 case Qm=>exact Xk h fun fz s Q E r q=>wpAny_Constant_int (q _ (Y6+1) ⟨_,QA⟩)
 case Xt=>exact Xk h fun fz s Q E r q=>wpAny_Constant_str (q _ (Y6+1) ⟨_,QA⟩)
 all_goals exact Q1R h
theorem PC {x:X8} {XJ:Pos} {P:QU->St->Prop} (hc:Q3S) (hg:GlOk c gl) (h1:(x == ("__debug__":X8))=QJ) (h2:(x == ("__classdict__":X8))=QJ) (h:BI gl fm x σ P):Zt c A X1 fm Λ (Q2p (.Q0y x XJ) X1) VR σ P :=
 fun fz s Q E ok r q=>wpAny_Name (Fv hc hg h2 h fz s Q E ok r q) h1
theorem UB {l r:Qf} {op:Q6Y} {XJ:Pos} {P:QU->St->Prop} (hf:Bd c A X1 fm f) (h:f l σ fun a σ=>f r σ fun b σ=>CP op a b σ P):Zt c A X1 fm Λ (Q2p (.BinOp l op r XJ) X1) VR σ P:=by
 rw [arm_eval_BinOp]
 exact YN (hf l Λ σ _ h) fun Λ1 a x σ1 e1 p1 hx=>YN (ZK (hf r Λ1 σ1 _ p1)) fun Λ2 b y σ2 e2 p2 hy=>Q0F (QBW (OQ (Q7y e2) hy p2))
theorem Og {x b o:Qf} {XJ:Pos} {P:QU->St->Prop} (hf:Bd c A X1 fm f) (ht:GD c A X1 fm t) (h:t x σ fun d σ=>(d=QM->f b σ P)/\(d=QJ->f o σ P)):Zt c A X1 fm Λ (Q2p (.IfExp x b o XJ) X1) VR σ P:=by
 rw [arm_eval_IfExp]
 refine YN (ht x Λ σ _ h) fun Λ1 a x σ1 e1 p1 hx=>?_
 cases hx
 cases a with
 | QM=>exact hf b Λ1 σ1 _ (p1.1 QA)
 | QJ=>exact hf o Λ1 σ1 _ (p1.2 QA)
theorem UA {l r:Qf} {op:QHE} {XJ:Pos} {P:QU->St->Prop} (hA:AOk A) (hf:Bd c A X1 fm f) (hm:Q6M op r=QJ) (h:f l σ fun a σ=>f r σ fun b σ=>BK op a b σ P):Zt c A X1 fm Λ (Q2p (.Q8f l [op] [r] XJ) X1) VR σ P :=
 fun fz s Q E ok rr q=>wpAny_Compare1 (hf l Λ σ _ h fz s _ E ok rr fun Λ1 s1 a x σ1 e1 p1 hx r1=>hf r Λ1 σ1 _ p1 fz s1 _ E (Yq e1) r1 fun Λ2 s2 b y σ2 e2 p2 hy r2=>KB hA (Q7y e2) hy p2 fz s2 Q E ((Yq e1).ext e2) r2 fun Λ3 s3 d z σ3 e3 p3 hz r3=>q Λ3 s3 d z σ3 ((Ye e2).QR e3) p3 hz r3) hm
theorem spl (hf:Bd c A X1 fm f) {es:QC Qf} {XJ:Pos} {P:QC QU->St->Prop} (hs:Am es=QM) (h:A6 f es σ P):Zt c A X1 fm Λ (spliced (Q7w XJ (Q3D es X1))) VRs σ P:=by
 rw [AN hs];exact CV hf es Λ σ P h
theorem Oe {es:QC Qf} {u:QH} {XJ:Pos} {P:QU->St->Prop} (hf:Bd c A X1 fm f) (hs:Am es=QM) (h:A6 f es σ fun vs σ=>Q0U<=Xb/\P (.QQ QO) (Qw (.YM vs))):Zt c A X1 fm Λ (Q2p (.Zs es u XJ) X1) VR σ P:=by
 rw [arm_eval_Tuple]
 refine Q0F (YN (spl hf hs h) fun Λ1 vs as σ1 e1 p1 hv=>?_)
 exact Q9O (o:=.YM vs) (show QBl<=Xb by rw [XW,<- QB6];exact p1.1) (fun Zd e=>⟨as,0,QA,QAq e⟩) QA p1.2
theorem PE {es:QC Qf} {XJ:Pos} {P:QU->St->Prop} (hf:Bd c A X1 fm f) (hs:Am es=QM) (h:A6 f es σ fun vs σ=>Q0U<=Xb/\P (.QQ QO) (Qw (.Qs vs))):Zt c A X1 fm Λ (Q2p (.QC es XJ) X1) VR σ P:=by
 rw [arm_eval_List]
 refine Q0F (YN (spl hf hs h) fun Λ1 vs as σ1 e1 p1 hv=>?_)
 exact Q9O (o:=.Qs vs) (show QBl<=Xb by rw [XW,<- QB6];exact p1.1) (fun Zd e=>⟨as,0,QA,QAq e⟩) QA p1.2
theorem Oh {XJ:Pos} {P:QU->St->Prop} (h:P (.QQ QO) (Qw (.Q04 []))):Zt c A X1 fm Λ (Q2p (.Dict [] [] XJ) X1) VR σ P:=by
 rw [eval_Dict_empty]
 refine Q0F ?_
 refine Q9O (o:=.Q04 []) (show (0:QH)<=_ from XQ _) (fun Zd e=>⟨[],?_,QA,.Zo⟩) QA h
 refine ew1 (Q9W (Heap.DictOf.new (knd:=knd XK c.w) c.g)) fun o yq2Y=>?_;refine an2 yq2Y fun ho hd=>?_;clear yq2Y
 rw [X3 _ QA]at ho
 exact (X2 ho)▸hd
theorem FD (hf:Bd c A X1 fm f) {x:QW Qf} {P:QU->St->Prop} (h:EY f x σ P):Zt c A X1 fm Λ (evalPart x X1) VR σ P:=by
 cases x with
 | QG=>exact Zh (b:=Val.none) (show P Val.none σ from h) QA
 | QB e=>exact hf e Λ σ P h
theorem Of {v:Qf} {lo hi st:QW Qf} {p XJ:Pos} {P:QU->St->Prop} (hf:Bd c A X1 fm f)
  (h:f v σ fun a σ=>EY f lo σ fun x σ=>EY f hi σ fun y σ=>EY f st σ fun z σ=>Bs a x y z σ P):Zt c A X1 fm Λ (Q2p (.Q2K v (.QBY lo hi st p) XJ) X1) VR σ P :=
 fun fz s Q E ok r q=>Subscript_ (hf v Λ σ _ h fz s _ E ok r fun Λ1 s1 a x σ1 e1 p1 hx r1=>wpAny_Slice (FD hf p1 fz s1 _ E (Yq e1) r1 fun Λ2 s2 b y σ2 e2 p2 hy r2=>FD hf p2 fz s2 _ E ((Yq e1).ext e2) r2 fun Λ3 s3 d z σ3 e3 p3 hz r3 =>
  FD hf p3 fz s3 _ E (((Yq e1).ext e2).ext e3) r3 fun Λ4 s4 g u σ4 e4 p4 hu r4=>OP r4 (((Q7y e2).ext e3).ext e4) ((hy.ext e3).ext e4) (hz.ext e4) hu p4 fun Λ5 s5 k w σ5 e5 p5 hw r5=>q Λ5 s5 k w σ5 ((((Ye e2).QR e3).QR e4).QR e5) p5 hw r5))
theorem PF {v i:Qf} {XJ:Pos} {P:QU->St->Prop} (hf:Bd c A X1 fm f) (hs:Cf i=QJ) (h:f v σ fun a σ=>f i σ fun b σ=>FF a b σ P):Zt c A X1 fm Λ (Q2p (.Q2K v i XJ) X1) VR σ P :=
 fun fz s Q E ok r q=>Subscript_ (hf v Λ σ _ h fz s _ E ok r fun Λ1 s1 a x σ1 e1 p1 hx r1=>hf i Λ1 σ1 _ p1 fz s1 _ E (Yq e1) r1 fun Λ2 s2 b y σ2 e2 p2 hy r2 =>
  MW hs (Q7y e2) hy p2 fz s2 Q E ((Yq e1).ext e2) r2 fun Λ3 s3 d z σ3 e3 p3 hz r3=>q Λ3 s3 d z σ3 ((Ye e2).QR e3) p3 hz r3)
theorem F6 {o:Qf} {attr:X8} {whole:Sem QI} (h:BY o=QM):attributeBase o attr X1 whole=whole:=by
 cases o
 case QB3 f as kw p =>
  cases f
  case Q0y x q =>
   rcases as with _ | ⟨a,as⟩
   ·rcases kw with _ | ⟨k,kw⟩
    ·exact XF h Qj
    ·rfl
   ·rfl
  all_goals rfl
 all_goals rfl
theorem PH {o:Qf} {attr:X8} {XJ:Pos} {P:QU->St->Prop} (hc:Q3S) (hf:Bd c A X1 fm f) (hn:BY o=QM) (h:f o σ fun v σ=>BB c.K v attr σ P):Zt c A X1 fm Λ (Q2p (.Q1u o attr XJ) X1) VR σ P :=
 fun fz s Q E ok r q=>Attribute_any_ (hf o Λ σ _ h fz s _ E ok r fun Λ1 s1 a x σ1 e1 p1 hx r1=>Ix hc hx p1 fz s1 Q E (Yq e1) r1 fun Λ2 s2 b y σ2 e2 p2 hy r2=>q Λ2 s2 b y σ2 (Ye e2) p2 hy r2) (by rw [arm_eval_Attribute,F6 hn])
theorem Nu {XJ:Pos} {es:QC Qf} (hs:Am es=QM):((Q7w XJ (Q3D es X1)).all fun p=>!p.1)=QM:=by
 rw [AN hs];simp
theorem PD {o:Qf} {Q1z:X8} {apos XJ:Pos} {Xc:QC Qf} {YX:QU->QC QU->PT QU} {P:QU->St->Prop} (hc:Q3S) (hf:Bd c A X1 fm f)
  (hcal:∀fv Λ σ P vs as x,VR Λ fv x->VRs Λ vs as->YX fv vs σ P->Zt c A X1 fm Λ (Q0Q x as) VR σ P)
  (h1:BY o=QM/\Am Xc=QM/\Q4i < 30/\(QEv == Q0z)=QM)
  (h:f o σ fun v σ=>DW c.K v Q1z σ fun p σ=>A6 f Xc σ fun vs σ=>Bw c.K σ p.1/\YX p.1 (p.2++vs) σ P):Zt c A X1 fm Λ (Q2p (.QB3 (.Q1u o Q1z apos) Xc [] XJ) X1) VR σ P :=
 fun fz s Q E ok r q=>MethodCall_ (pl:=do return (<- importBound o X1).Q4m QM) (hf o Λ σ _ h fz s _ E ok r fun Λ1 s1 a x σ1 e1 p1 hx r1=>MU hc hx p1 fz s1 _ E (Yq e1) r1 fun Λ2 s2 b y σ2 e2 p2 hy r2 =>
   DP hc hf (hcal b.1) hy.1 hy.2 h1.2.1 p2 fz s2 Q E ((Yq e1).ext e2) r2 fun Λ3 s3 d z σ3 e3 p3 hz r3=>q Λ3 s3 d z σ3 ((Ye e2).QR e3) p3 hz r3)
  (by
   have hform:QCo (Q4i+([]:QC QEo).ZT) (Q7w XJ (Q3D Xc X1)) (backToKw XJ (keywordEach [] X1))=QM:=by
    unfold QCo
    rw [Nu h1.2.1]
    have:=h1.2.2.1
    exact Yz this
   rw [arm_eval_Call,F6 h1.1]
   unfold methodCall methodCallPos
   rw [hform,h1.2.2.2]
   rfl)
def E9 (e:Qf):Qu:=Fg e (fun _ _ _=>QJ) QM
theorem PG {g:Qf} {XJ:Pos} {Xc:QC Qf} {YX:QU->QC QU->PT QU} {P:QU->St->Prop} (hc:Q3S) (hf:Bd c A X1 fm f) (hn:E9 g=QM)
  (hcal:∀fv Λ σ P vs as x,VR Λ fv x->VRs Λ vs as->YX fv vs σ P->Zt c A X1 fm Λ (Q0Q x as) VR σ P) (hs:Am Xc=QM)
  (h:f g σ fun v σ=>A6 f Xc σ fun vs σ=>Bw c.K σ v/\YX v vs σ P):Zt c A X1 fm Λ (Q2p (.QB3 g Xc [] XJ) X1) VR σ P :=
 fun fz s Q E ok r q=>Call_ (hf g Λ σ _ h fz s _ E ok r fun Λ1 s1 a x σ1 e1 p1 hx r1=>DP hc hf (hcal a) hx .Zo hs p1 fz s1 Q E (Yq e1) r1 fun Λ2 s2 b y σ2 e2 p2 hy r2=>q Λ2 s2 b y σ2 (Ye e2) p2 hy r2)
  (by cases g <;> first | rfl | exact XF hn Qj)
end
end
end Mini
end
section
open PySem PySem.W PySem.Calls PyProof.Rows
namespace Mini
section
variable {c:Cx} {A:Around} {env:Env} {fm:Fm} {Λ:Lab} {σ:St} {f:Expr->PT Val} {t:Expr->PT Bool} {a:Expr->Val->PT Unit} {b:List Stmt->PT Fl} {gl:Str->Option Value}
mutual
theorem UD {x:Qf} {XJ:Pos} {P:Qu->St->Prop} (ht:GD c A X1 fm t) (h:t x σ fun b σ=>P (!b) σ):Zt c A X1 fm Λ (Q7g (.QEu .Not x XJ) X1 (Q2p (.QEu .Not x XJ) X1)) ER σ P:=by
 rw [arm_isTrue_UnaryOp]
 refine YN (ht x Λ σ _ h) fun Λ1 d y σ1 e1 p1 hx=>?_
 cases hx
 exact Zh (b:=!d) p1 QA
theorem Kb (ht:GD c A X1 fm t) {op:QEq}:∀ {es:QC Qf} {Λ:Lab} {σ:St} {P:Qu->St->Prop},BL t op es σ P->Zt c A X1 fm Λ (allTrue op es X1) ER σ P
 | [],Λ,σ,P,h=>Zh (b:=op == .And) h QA
 | x::r,Λ,σ,P,h=>by
  rw [arm_allTrue_cons]
  refine YN (ht x Λ σ _ h) fun Λ1 d y σ1 e1 p1 hx=>?_
  cases hx
  cases op <;> cases d
  ·exact Zh (b:=QJ) p1 QA
  ·exact Kb ht p1
  ·exact Kb ht p1
  ·exact Zh (b:=QM) p1 QA
theorem UE {l r:Qf} {op:QHE} {XJ:Pos} {P:Qu->St->Prop} (hc:Q3S) (hA:AOk A) (hf:Bd c A X1 fm f) (hm:Q6M op r=QJ) (h:f l σ fun a σ=>f r σ fun b σ=>BK op a b σ fun v σ=>AC c.K v σ P):Zt c A X1 fm Λ (Q7g (.Q8f l [op] [r] XJ) X1 (Q2p (.Q8f l [op] [r] XJ) X1)) ER σ P :=
 fun fz s Q E ok rr q=>wpAny_isTrue_Compare1 (hf l Λ σ _ h fz s _ E ok rr fun Λ1 s1 a x σ1 e1 p1 hx r1=>hf r Λ1 σ1 _ p1 fz s1 _ E (Yq e1) r1 fun Λ2 s2 b y σ2 e2 p2 hy r2=>KB hA (Q7y e2) hy p2 fz s2 _ E ((Yq e1).ext e2) r2 fun Λ3 s3 d z σ3 e3 p3 hz r3 =>
  Ft hc hz p3 fz s3 Q E (((Yq e1).ext e2).ext e3) r3 fun Λ4 s4 g u σ4 e4 p4 hu r4=>q Λ4 s4 g u σ4 (((Ye e2).QR e3).QR e4) p4 hu r4) hm
theorem D7 {e:Qf} {P:Qu->St->Prop} (hc:Q3S) (hf:Bd c A X1 fm f) (he:Q7g e X1 (Q2p e X1)=(do let v <- Q2p e X1;QHB e.pos;holding [v] (QEZ v))) (h:f e σ fun v σ=>AC c.K v σ P):Zt c A X1 fm Λ (Q7g e X1 (Q2p e X1)) ER σ P:=by
 rw [he]
 exact YN (hf e Λ σ _ h) fun Λ1 d y σ1 e1 p1 hx=>Q0F (ZK (Ft hc hx p1))
theorem QCp {m:Sem Yb} {vs ks:QC QI} {P:Yb->St->Prop} (h:Zt c A X1 fm Λ m UR σ P):Zt c A X1 fm Λ (m >>= fun _=>release vs ks) UR σ P :=
 YN h fun Λ1 d y σ1 e1 p1 hx fz s Q E ok r q=>wpAny_release' (q Λ1 s () () σ1 (.Q1J _) p1 ZQ r)
theorem PI {x:X8} {XJ:Pos} {v:QU} {y:QI} {P:Yb->St->Prop} (hv:VR Λ v y) (h:Br fm x v σ P):Zt c A X1 fm Λ (Q2P (.Q0y x XJ) X1 y) UR σ P:=by
 rw [arm_assign_Name];exact Q0F (Ef hv h)
theorem A1:∀ {es:QC Qf},Am es=QM->QCq es X1=QEb fun e=>(QJ,Q2P e X1)
 | [],_=>QA
 | e::es,h=>by
  simp only [Am,QDL,X9,ZD]at h
  have:QCq (e::es) X1=(QJ,Q2P e X1)::QCq es X1:=by
   have h1:=h.1
   cases e <;> first | rfl | (cases h1)
  rw [this,A1 (show Am es=QM from h.2)];rfl
theorem I1 (ha:E5 c A X1 fm a):∀ {es:QC Qf} {vs:QC QU} {as:QC QI} {Λ:Lab} {σ:St} {P:Yb->St->Prop},VRs Λ vs as->EH a es vs σ P->Zt c A X1 fm Λ (QDW (QEb fun e=>Q2P e X1) as) UR σ P
 | [],vs,as,Λ,σ,P,hv,h=>by
  cases hv <;> exact Zh (b:=()) h ZQ
 | e::es,[],as,Λ,σ,P,hv,h=>by
  cases hv;exact Zh (b:=()) h ZQ
 | e::es,v::vs,as,Λ,σ,P,hv,h=>by
  cases hv with | Xx h1 h2 =>
  exact YN (ZK (ha e v _ Λ σ _ h1 h)) fun Λ1 d y σ1 e1 p1 hx=>I1 ha (QEX e1) p1
theorem Ol {es:QC Qf} {k:QH} {XJ:Pos} {v:QU} {y:QI} {P:Yb->St->Prop} (hc:Q3S) (hA:AOk A) (ha:E5 c A X1 fm a) (hs:Am es=QM) (hv:VR Λ v y) (h:AR c.K v QAt σ fun vs σ=>EH a es vs σ P):Zt c A X1 fm Λ (Q2P (.Zs es k XJ) X1 y) UR σ P:=by
 rw [arm_assign_Tuple]
 refine Q0F ?_
 unfold unpack
 rw [A1 hs]
 have e1:(Q5X (fun e=>(QJ,Q2P e X1)) es).ZT=QAt:=by simp
 have e2:(Q5X (fun e=>(QJ,Q2P e X1)) es).findIdx? (·.1)=QG:=by
  rw [List.findIdx?_eq_none_iff];simp
 have e3:(Q5X (fun e=>(QJ,Q2P e X1)) es).map (·.2)=QEb fun e=>Q2P e X1:=by simp
 rw [e1,e2,e3]
 exact YN (ZK (Fs hc hA hv h)) fun Λ1 vs as σ1 e1 p1 hx=>I1 ha hx p1
theorem PJ {o:Qf} {attr:X8} {XJ:Pos} {v:QU} {y:QI} {P:Yb->St->Prop} (hc:Q3S) (hf:Bd c A X1 fm f) (hv:VR Λ v y) (h:f o σ fun ov σ=>Co c.K ov attr v σ P):Zt c A X1 fm Λ (Q2P (.Q1u o attr XJ) X1 y) UR σ P:=by
 rw [arm_assign_Attribute]
 exact YN (ZK (hf o Λ σ _ h)) fun Λ1 d z σ1 e1 p1 hx=>Q0F (QCp (ZK (Iu hc hx (QAq e1) p1)))
theorem UF {o i:Qf} {XJ:Pos} {v:QU} {y:QI} {P:Yb->St->Prop} (hf:Bd c A X1 fm f) (hv:VR Λ v y) (h:f o σ fun ov σ=>f i σ fun iv σ=>C0 ov iv v σ P):Zt c A X1 fm Λ (Q2P (.Q2K o i XJ) X1 y) UR σ P:=by
 rw [arm_assign_Subscript]
 exact YN (ZK (hf o Λ σ _ h)) fun Λ1 d z σ1 e1 p1 hx=>YN (ZK (hf i Λ1 σ1 _ p1)) fun Λ2 g u σ2 e2 p2 hu=>Q0F (QCp (ZK (Iq (Q7y e2) hu ((QAq e1).ext e2) p2)))
theorem Uw {s:Yc} {ss:QC Yc} {b1:Yc->PT Fl} {P:Fl->St->Prop} (h1:age c A X1 fm b1) (h2:LO c A X1 fm b) (h:b1 s σ (Fx (b ss) P)):Zt c A X1 fm Λ (QG3 (s::ss) X1) FR σ P:=by
 rw [arm_execs_cons]
 refine YN (h1 s Λ σ _ h) fun Λ1 d y σ1 e1 p1 hx=>?_
 cases d with
 | YE=>cases hx;exact h2 ss Λ1 σ1 P p1
 | brk=>cases hx;exact Zh (b:=Fl.brk) p1 QA
 | QAy=>cases hx;exact Zh (b:=Fl.cont) p1 QA
 | ret v=>obtain (⟨cv,QA,hv⟩):=hx;exact Zh (b:=Fl.ret v) p1 ⟨cv,QA,hv⟩
theorem NG (ok:Q4y X1 fm Λ):QGD X1=QJ:=by
 unfold QGD;rw [QCK,ok.kd];rfl
theorem Il {e:Qf} {t:QW Qf} {n:QH} (h:A3 e=QJ):swapsWith e t n X1=ZX QJ:=by
 cases e <;> first | rfl | (cases h)
theorem HE {e:Qf} {ts:QC Qf} {n:QH} (h:A3 e=QJ):Q9B ts e n X1=ZX QJ:=by
 rcases ts with _ | ⟨t,_ | ⟨u,r⟩⟩
 ·rfl
 ·exact Il h
 ·rfl
theorem PA {e:Qf} {XJ:Pos} {P:Fl->St->Prop} (hf:Bd c A X1 fm f) (hn:A3 e=QJ) (h:f e σ fun _ σ=>P .YE σ):Zt c A X1 fm Λ (QGE (.Qf e XJ) X1) FR σ P:=by
 refine Zq fun fz s ok r Q E q=>?_
 rw [arm_exec_Expr,NG ok,Il hn]
 simp only [XU,Zi,Q4P]
 exact Q9 (Q0n (Q9 (hf e Λ σ _ h fz s _ E ok r fun Λ1 s1 d y σ1 e1 p1 hx r1=>wpAny_dropValue (q Λ1 s1 .YE .YE σ1 e1 p1 QA r1))))
theorem D2 {b:Qu} {x y:Sem (QW (QC X8))} {x' y':QW (QC X8)} (hx:x=ZX x') (hy:b=QJ->y=ZX y'):(if b=QM then x else y)=ZX (if b=QM then x' else y'):=by
 cases b with
 | QM=>exact hx
 | QJ=>exact hy QA
def Im (X1:Env) (st:Qf->Qu) (nm:Qf->QW X8) (ts vs:QC Qf):Sem (QW (QC X8)) :=
 if (!(Q2v == 2 || Q2v == 3) || Q0U != Q2v || QDX != .Q3B)=QM then ZX QG
 else if vs.any st=QM then ZX QG
 else if ((Q57 nm).ZT != Q2v || (Q57 nm).eraseDups.length != (Q57 nm).ZT)=QM then ZX QG
 else if QEr (Q6K 8)=QM then ZX QG
 else if QEr (Q8C 8)=QM then unsupported "assign.tuple-of-constant-expressions:order-of-the-stores" else ZX (QB (Q57 nm))
theorem MC {X1:Env} {s s':Qf->Qu} {n n':Qf->QW X8} {ts vs:QC Qf} (h1:∀x,s x=s' x) (h2:∀x,n x=n' x):Im X1 s n ts vs=Im X1 s' n' ts vs:=by
 rw [funext h1,funext h2]
theorem Fo (ok:Q4y X1 fm Λ) {ts' vs':QC Qf} {k1 k2:QH} {p1 p2:Pos} (hb:(vs'.all (Q8C 8)&&!vs'.all (Q6K 8))=QJ):Q9C [.Zs ts' k1 p1] (.Zs vs' k2 p2) X1=ZX (BV Zr [.Zs ts' k1 p1] (.Zs vs' k2 p2)):=by
 have hk:QDX=fm.sc.kind:=by unfold QDI;rw [QCK,ok.kd];rfl
 have hko:Q6q=fun x=>ZL x:=funext fun x=>by unfold Q9Q;rw [QCK]
 have e1:Q9C [.Zs ts' k1 p1] (.Zs vs' k2 p2) X1=Im X1 B2 (fun e=>B9 e (fun id XJ=>if Q6q id == QB .Q63&&Q0z == (ts'.head?.map (·.Q0z)).Q4m 0 then QB id else QG) QG) ts' vs' :=
  (show _=Im X1 _ _ ts' vs' from QA).QR (MC (fun x=>by cases x <;> rfl) fun x=>by cases x <;> rfl)
 rw [e1]
 delta Im
 rw [hk,hko]
 refine D2 QA fun _=>D2 QA fun _=>D2 QA fun _=>D2 QA fun h=>?_
 rw [h,Q8D,Bool.and_true]at hb
 rw [hb]
 rfl
theorem G8 (ok:Q4y X1 fm Λ) {ts:QC Qf} {e:Qf} (h:Bg ts e=QJ):Q9C ts e X1=ZX (BV Zr ts e):=by
 rcases ts with _ | ⟨t,_ | ⟨u,r⟩⟩
 ·rfl
 ·cases t
  case Zs ts' k p =>
   cases e
   case Zs=>exact Fo ok h
   all_goals rfl
  case QC ts' p =>
   cases e
   case Zs=>exact Fo (ts':=ts') (k1:=0) (k2:=0) (p1:=p) (p2:=p) ok h
   all_goals rfl
  all_goals rfl
 ·cases t <;> rfl
end
end
end Mini
end
section
open PySem PySem.W PySem.Calls PyProof.Rows
namespace Mini
section
variable {c:Cx} {A:Around} {env:Env} {fm:Fm} {Λ:Lab} {σ:St} {f:Expr->PT Val} {t:Expr->PT Bool} {a:Expr->Val->PT Unit} {b:List Stmt->PT Fl} {gl:Str->Option Value}
mutual
theorem Lc (ha:E5 c A X1 fm a) {v:QU}:∀ {ts:QC Qf} {x:QI} {Λ:Lab} {σ:St} {P:Yb->St->Prop},VR Λ v x->A7 a v ts σ P->Zt c A X1 fm Λ (assignAll x (QCr fun e=>Q2P e X1)) UR σ P
 | [],x,Λ,σ,P,hv,h=>Zh (b:=()) h ZQ
 | [t],x,Λ,σ,P,hv,h=>ha t v x Λ σ _ hv h
 | t::u::r,x,Λ,σ,P,hv,h =>
  YN (ZK (ha t v x Λ σ _ hv h)) fun Λ1 d y σ1 e1 p1 hx=>Lc ha (QAq e1) p1
theorem Fp:∀ {xs:QC X8} {vs:QC QU} {as:QC QI} {Λ:Lab} {σ:St} {P:Yb->St->Prop},VRs Λ vs as->AH fm xs vs σ P->Zt c A X1 fm Λ (QDW (QB7 fun n=>bindName X1 n) as) UR σ P
 | [],vs,as,Λ,σ,P,hv,h=>by
  cases hv <;> exact Zh (b:=()) h ZQ
 | x::xs,[],as,Λ,σ,P,hv,h=>by
  cases hv;exact Zh (b:=()) h ZQ
 | x::xs,v::vs,as,Λ,σ,P,hv,h=>by
  cases hv with | Xx h1 h2 =>
  exact YN (ZK (Ef h1 h)) fun Λ1 d y σ1 e1 p1 hx=>Fp (QEX e1) p1
theorem VRs.rev {Λ:Lab} {xs:QC QU} {vs:QC QI} (h:VRs Λ xs vs):VRs Λ xs.reverse Q3Y:=by
 induction h with
 | Zo=>exact .Zo
 | Xx h _ ih=>rw [Q0Z,Q0Z];exact ih.append (.Xx h .Zo)
theorem Do {ts:QC Qf} {e:Qf} {XJ:Pos} {P:Fl->St->Prop} (hc:Q3S) (hA:AOk A) (hf:Bd c A X1 fm f) (ha:E5 c A X1 fm a) (hn:A3 e=QJ/\Am ts=QM/\Bg ts e=QJ)
  (h:f e σ fun v σ=>(match BV Zr ts e with
    | QB Q48=>AR c.K v Q2w σ fun vs σ=>AH fm Q4a Q3Y σ fun _ σ=>P .YE σ
    | QG=>A7 a v ts σ fun _ σ=>P .YE σ)):Zt c A X1 fm Λ (QGE (.Q77 ts e XJ) X1) FR σ P:=by
 injections c A X1 fm Λ σ f a ts e XJ P _ _ _ _ _ _
 refine Zq ?_;intros fz s ok r Q E q
 rw [QBm,HE hn.1,G8 ok hn.2.2,A1 hn.2.1]
 have e3:(Q5X (fun e=>(QJ,Q2P e X1)) ts).map (·.2)=QCr fun e=>Q2P e X1:=by simp
 simp only [XU,Zi,Q4P,e3]
 refine Q9 (Q0n (Q9 (hf e Λ σ _ h fz s _ E ok r ?_)));intros Λ1 s1 d y σ1 e1 p1 hx r1
 cases hq:BV Zr ts e with
 | QB Q48 =>
  injections Q48 zI
  rw [hq]at p1
  refine Q9 (Q0b (Q9 (Fs hc hA hx p1 fz s1 _ E (Yq e1) r1 fun Λ2 s2 vs as σ2 e2 p2 hvs r2=>Q9 (Fp hvs.rev p2 fz s2 _ E ((Yq e1).ext e2) r2 fun Λ3 s3 _ _ σ3 e3 p3 _ r3=>QF (q Λ3 s3 .YE .YE σ3 ((Ye e2).QR e3) p3 QA r3)))))
 | QG =>
  rw [hq]at p1
  exact Q9 (Lc ha hx p1 fz s1 _ E (Yq e1) r1 fun Λ2 s2 _ _ σ2 e2 p2 _ r2=>QF (q Λ2 s2 .YE .YE σ2 (Ye e2) p2 QA r2))
theorem Uy {x:X8} {p XJ:Pos} {op:Q6Y} {e:Qf} {P:Fl->St->Prop} (hc:Q3S) (hg:GlOk c gl) (hf:Bd c A X1 fm f) (hx:(x == ("__classdict__":X8))=QJ)
  (h:BI gl fm x σ fun a σ=>f e σ fun b σ=>Oj fm x op P a b σ):Zt c A X1 fm Λ (QGE (.QE7 (.Q0y x p) op e XJ) X1) FR σ P:=by
 rw [arm_exec_AugAssign]
 refine Q0F (YN (Fv hc hg hx h) fun Λ1 d y σ1 e1 p1 hy=>YN (ZK (hf e Λ1 σ1 _ p1)) fun Λ2 g z σ2 e2 p2 hz=>Q0F ?_)
 ·refine QBT p2 fun i ed q2=>QBT q2 fun j eg k2=>?_
  obtain (⟨eo,k2⟩):=k2
  clear q2 p2
  subst ed eg eo
  ·obtain (⟨t1,QA⟩):=hy;obtain (⟨t2,QA⟩):=hz
   refine YN (R:=VR) (P:=fun v s=>v=.Qm (i+j)/\s=σ2) (QBW (Xk (b:=.Qm (i+j)) ⟨QA,QA⟩ fun fz s Q E r q=>AutoIntOps.iadd_0 (q _ (Y6+1) ⟨_,QA⟩))) fun Λ3 g z σ3 e3 p3 hz=>Q0F ?_
   obtain (⟨QA,QA⟩):=p3
   exact YN (Ef hz k2) fun Λ4 g z σ4 e4 p4 hz=>Zh (b:=Fl.next) p4 QA
theorem aga {x:Qf} {b1 b2:QC Yc} {XJ:Pos} {P:Fl->St->Prop} (ht:GD c A X1 fm t) (hb:LO c A X1 fm b) (h:t x σ fun d σ=>(d=QM->b b1 σ P)/\(d=QJ->b b2 σ P)):Zt c A X1 fm Λ (QGE (.If x b1 b2 XJ) X1) FR σ P:=by
 rw [arm_exec_If]
 refine Q0F (YN (ht x Λ σ _ h) fun Λ1 d y σ1 e1 p1 hx=>?_)
 cases hx
 cases d with
 | QM=>exact hb b1 Λ1 σ1 _ (p1.1 QA)
 | QJ=>exact hb b2 Λ1 σ1 _ (p1.2 QA)
theorem Od {x:Qf} {bo:QC Yc} {XJ:Pos} {P:Fl->St->Prop} (ht:GD c A X1 fm t) (hb:LO c A X1 fm b) {k:QH} (h:CZ (t x) (b bo) k σ P):Zt c A X1 fm Λ (QGE (.While x bo [] XJ) X1) FR σ P:=by
 injections c A X1 fm Λ σ t b x bo XJ P _ _ k _
 refine Zq ?_;intros fz s ok r Q E q;refine wpAny_While (codeAny_whileLoop (fun n s'=>∃Zd XH,Q0C Zd/\Rel c fz Qo Zd XH s'/\CZ (t x) (b bo) n XH P) ?_ k ⟨Λ,σ,.Q1J _,r,h⟩)
 intros n s1 Q2X
 obtain ⟨Λ1,σ1,e1,r1,h1⟩:=Q2X
 cases n with
 | Q1x=>exact h1.elim
 | Q1y n =>
  injections n zI
  refine ht x Λ1 σ1 _ h1 fz s1 _ _ (Yq e1) r1 ?_;intros Λ2 s2 d y σ2 e2 p2 hx r2
  cases hx
  cases d with
  | QM =>
   refine hb bo Λ2 σ2 _ (p2.1 QA) fz s2 _ _ ((Yq e1).ext e2) r2 ?_;intros Λ3 s3 g z σ3 e3 p3 hz r3
   cases g with
   | YE=>cases hz;exact ⟨n,Xu _,Λ3,σ3,(Ye e2).QR e3,r3,p3⟩
   | QAy=>cases hz;exact ⟨n,Xu _,Λ3,σ3,(Ye e2).QR e3,r3,p3⟩
   | brk=>cases hz;exact q Λ3 s3 .YE .YE σ3 ((Ye e2).QR e3) p3 QA r3
   | ret v=>obtain ⟨cv,QA,hv⟩:=hz;exact q Λ3 s3 (.ret v) (.ret cv) σ3 ((Ye e2).QR e3) p3 ⟨cv,QA,hv⟩ r3
  | QJ=>exact Q7S (q Λ2 s2 .YE .YE σ2 (Ye e2) (p2.2 QA) QA r2)
theorem Ux {o i:Qf} {p XJ:Pos} {P:Fl->St->Prop} (hf:Bd c A X1 fm f) (h:f o σ fun ov σ=>f i σ fun iv σ=>C1 ov iv σ fun _ σ=>P .YE σ):Zt c A X1 fm Λ (QGE (.Delete [.Q2K o i p] XJ) X1) FR σ P:=by
 rw [arm_exec_Delete,arm_deleteEach_cons,arm_deleteEach_nil,arm_delete_Subscript]
 refine Q0F (YN (P:=fun _ σ=>P .YE σ) (R:=UR) (YN (P:=fun _ σ=>P .YE σ) (R:=UR) (YN (hf o Λ σ _ h) fun Λ1 d z σ1 e1 p1 hx=>YN (ZK (hf i Λ1 σ1 _ p1)) fun Λ2 g u σ2 e2 p2 hu=>Q0F (QCp (ZK (Iz (Q7y e2) hu p2)))) fun Λ1 d z σ1 e1 p1 hx=>Zh (b:=()) p1 ZQ) fun Λ1 d z σ1 e1 p1 hx=>Zh (b:=Fl.next) p1 QA)
end
end
end Mini
end
section
open PySem PySem.W PySem.Calls PyProof.Rows
namespace Mini
section
variable {c:Cx} {A:Around} {env:Env} {fm:Fm} {Λ:Lab} {σ:St} {f:Expr->PT Val} {t:Expr->PT Bool} {a:Expr->Val->PT Unit} {b:List Stmt->PT Fl} {gl:Str->Option Value}
mutual
theorem LB {e:Qf} (h:Bv e=QJ) (x:QI):QAL e X1 x=ZX x:=by
 cases e <;> first | rfl | exact XF QGi Qj
theorem Ka {tg it:Qf} {bo:QC Yc} {XJ:Pos} {P:Fl->St->Prop} (hA:AOk A) (hf:Bd c A X1 fm f) (ha:E5 c A X1 fm a) (hb:LO c A X1 fm b) (hs:Bv it=QJ)
  (h:f it σ fun v σ=>Ai v fun l=>Gl (a tg) (b bo) tg (.seq l) σ P):Zt c A X1 fm Λ (QGE (.For tg it bo [] XJ) X1) FR σ P:=by
 injections c A X1 fm Λ σ f a b tg it bo XJ P _ _ _ _ _ _
 refine Zq ?_;intros fz s ok r Q E q;refine wpAny_For (hf it Λ σ _ h fz s _ E ok r ?_) (LB hs);intros Λ1 s1 v x σ1 e1 p1 hx r1
 have QDT:∀x Λ σ P v,VR Λ x v->(a tg) x σ P->Zt c A X1 fm Λ (Q2P tg X1 v) UR σ P:=fun x Λ σ P v hv h=>ha tg x v Λ σ P hv h
 have QDU:∀Λ σ P,b bo σ P->Zt c A X1 fm Λ (QG3 bo X1) FR σ P:=fun Λ σ P h=>hb bo Λ σ P h
 ·refine Q1Y p1 ?_;intros l ev p1
  subst ev
  refine Q6s p1 ?_ ?_
  ·intros p1;refine Q4u p1 ?_;intros xs hl p1
   skip
   refine KU hA r1 hx hl ?_;intros it' s' Q2X
   obtain ⟨I,own,J,hI,W0,r',hfz,hL,hd,hJ⟩:=Q2X
   subst hI
   have W:=W0 X1 fz hfz hL
   exact Ba W QDT QDU (Yq e1) r' hd hJ p1 fun Λ2 s2 d z σ2 e2 p2 hz r2=>q Λ2 s2 d z σ2 (Ye e2) p2 hz r2
  intros p1;refine QEw ?_ ?_
  ·intros p1;refine QH3 p1 ?_;intros xs hl p1
   skip
   refine IY hA r1 hx hl ?_;intros it' s' Q6r
   obtain ⟨I,own,J,hI,W0,r',hfz,hL,hd,hJ⟩:=Q6r
   subst hI
   have W:=W0 X1 fz hfz hL
   exact Ba W QDT QDU (Yq e1) r' hd hJ p1 fun Λ2 s2 d z σ2 e2 p2 hz r2=>q Λ2 s2 d z σ2 (Ye e2) p2 hz r2
  intros p1;refine QEw ?_ ?_
  ·intros p1;refine By.el p1 ?_;intros x1 x2 x3 hl p1
   skip
   obtain ⟨o,ho,hor⟩:=(r1.ob l hx.1)
   rw [hl]at hor
   obtain ⟨t1,t2,t3,QA⟩:=hor
   rw [hx.2]
   refine IZ hA r1 ho p1.1 p1.2.1 ?_;intros it' s' xq03
   obtain ⟨I,own,J,hI,W0,r',hfz,hL,hd,hJ⟩:=xq03
   subst hI
   have W:=W0 X1 fz hfz hL
   exact Ba W QDT QDU (Yq e1) r' hd hJ p1.2.2 fun Λ2 s2 d z σ2 e2 p2 hz r2=>q Λ2 s2 d z σ2 (Ye e2) p2 hz r2
  intros p1;refine QEw ?_ ?_
  ·intros p1;refine Q91 p1 ?_;intros Y5 hl p1
   skip
   obtain ⟨o,ho,hor⟩:=(r1.ob l hx.1)
   rw [hl]at hor
   rw [hx.2]
   refine Pe hA r1 hx.1 hl ho ?_;intros it' s' xq04
   obtain ⟨I,own,J,hI,W0,r',hfz,hL,hd,hJ⟩:=xq04
   subst hI
   have W:=W0 X1 fz hfz hL
   refine Ba W QDT QDU (Yq e1) r' hd hJ (p1 o) ?_;intros Λ2 s2 d z σ2 e2 p2 hz r2;refine q Λ2 s2 d z _ (Ye e2) p2.2 hz ?_
   obtain ⟨o',ho',Q5T⟩:=(r2.ob l (QP hx.1 e2.1))
   rw [p2.1]at Q5T
   cases Q5T
   exact QHU (by rw [<- QHV];exact QP hx.1 e2.1) ho' (QHW e2)
  intros p1;refine QEw ?_ ?_
  ·intros p1;refine QFY p1 ?_;intros xs hl p1
   skip
   obtain ⟨o,ho,hor⟩:=(r1.ob l hx.1)
   rw [hl]at hor
   rw [hx.2]
   refine T6 hA r1 hx.1 hl ho ?_;intros it' s' ys QFu xq05
   obtain ⟨I,own,J,hI,W0,r',hfz,hL,hd,hJ⟩:=xq05
   subst hI
   have W:=W0 X1 fz hfz hL
   refine Ba W QDT QDU (Yq e1) r' hd hJ (p1 o ys QFu) ?_;intros Λ2 s2 d z σ2 e2 p2 hz r2;refine q Λ2 s2 d z _ (Ye e2) p2.2 hz ?_
   obtain ⟨o',ho',Q5T⟩:=(r2.ob l (QP hx.1 e2.1))
   rw [p2.1]at Q5T
   cases Q5T
   exact QHU (by rw [<- QHV];exact QP hx.1 e2.1) ho' (QHW e2)
  intros p1;refine CD.el p1 ?_;intros d0 hl0 p1
  ·obtain ⟨hd0,p1⟩:=p1
   have hd0':d0 < QE8:=by rw [QHX];exact hd0
   refine Q91 p1 ?_;intros Y5 hl p1
   ·skip
    obtain ⟨o,ho,hor⟩:=(r1.ob d0 hd0')
    rw [hl]at hor
    rw [hx.2]
    refine NE hA r1 hx.1 hl0 hd0' hl ho ?_;intros it' s' xq06
    obtain ⟨I,own,J,hI,W0,r',hfz,hL,hd,hJ⟩:=xq06
    subst hI
    have W:=W0 X1 fz hfz hL
    refine Ba W QDT QDU (Yq e1) r' hd hJ (p1 o) ?_;intros Λ2 s2 d z σ2 e2 p2 hz r2;refine q Λ2 s2 d z _ (Ye e2) p2.2 hz ?_
    obtain ⟨o',ho',Q5T⟩:=(r2.ob d0 (QP hd0' e2.1))
    rw [p2.1]at Q5T
    cases Q5T
    exact QHU (by rw [<- QHV];exact QP hd0' e2.1) ho' (QHW e2)
theorem Jk {tg x:Qf} {fn:X8} {p p':Pos} {bo:QC Yc} {XJ:Pos} {P:Fl->St->Prop} (hc:Q3S) (hg:GlOk c gl) (hA:AOk A) (hf:Bd c A X1 fm f) (ha:E5 c A X1 fm a) (hb:LO c A X1 fm b) (hn:fn="enumerate") (hs:B2 x=QJ)
  (h:BI gl fm fn σ fun fv σ=>fv=.imm (.Qk "enumerate")/\f x σ fun v σ=>Ai v fun l=>Gl (a tg) (b bo) tg (.enum l) σ P):Zt c A X1 fm Λ (QGE (.For tg (.QB3 (.Q0y fn p) [x] [] p') bo [] XJ) X1) FR σ P:=by
 injections c A X1 fm Λ σ f a b gl tg x fn p p' bo XJ P _ _ _ _ _ _ _ _ _
 subst hn
 refine Zq ?_;intros fz s ok r Q E q;refine wpAny_For (Call_ (wpAny_Name (Fv hc hg (by decide) h fz s _ E ok r ?_) (by decide))) fun _=>QA;intros Λ1 s1 v y σ1 e1 p1 hx r1
 obtain ⟨QA,p1⟩:=p1
 cases hx
 have QGj:((Q7w p' (Q3D [x] X1)).any (·.1) || ([]:QC (QW X8×Sem QI)).any (·.1.QCO))=QJ:=by
  rw [AN (by simp [Am,hs])];simp
 refine QFm (P:=fun h=>∃k,(k=QA5\/k=Q7x\/k=Q5t)/\ZO (Qi XK c.w) h (QFl (.Qk "enumerate")) k) QGj (fun _ h=>h) ?_
 rw [AN (by simp [Am,hs])]
 refine QCQ (spliced_cons (hf x Λ1 σ1 _ p1 fz s1 _ E (Yq e1) r1 ?_));intros Λ2 s2 v y σ2 e2 p2 hy r2;refine spliced_nil ?_
 refine ⟨⟨.QBw,.inr (.inl QA),QDp⟩,?_⟩
 ·refine Q1Y p2 ?_;intros l ev p2
  subst ev
  refine Q4u p2 ?_;intros xs hl p2
  ·obtain ⟨ht,p2⟩:=p2
   obtain ⟨QA,g1,vs,n,a1,a2⟩:=(r2.listsV hy hl)
   refine call_enumerate_list (Al a1) ?_;intros h' he hi hsz hk;refine wpAny_pyIter_enum he ?_
   cases tg with
   | Zs elts kk tpos =>
    have hbig:∀b,b=XZ+1\/b=XZ->XZ<=b:=fun b hb=>by rcases hb with QA | QA <;> (first | exact EA | exact SP)
    have fzn:∀b,XZ<=b->fz b=QG:=by
     intros b hb
     cases hq:fz b with
     | QG=>rfl
     | QB o=>exact XF (X0 (r2.keep _ _ hq)) (YW hb)
    have r3:Rel c fz Qo Λ2 σ2 {s2 with YO:=h'}:=r2.grow (tk:=QHY) (dr:=s2.drawn) hk
    refine Iy hA (fun x Λ σ P v hv h=>ha (.Zs elts kk tpos) x v Λ σ P hv h) (fun Λ σ P h=>hb bo Λ σ P h) ((Yq e1).ext e2) r3 hy.1 (Nat.succ_ne_self _) (fzn _ (Q0N _)) (fzn _ (Qh _)) (Xv (Q2T r2.Llt)) (Xv r2.Llt) ?_ he hi p2 fun Λ3 s3 d z σ3 e3 p3 hz r3=>q Λ3 s3 d z σ3 ((Ye e2).QR e3) p3 hz r3;intros l' hl' hm
    obtain ⟨o,ho,_⟩:=(r2.ob l' hl')
    have hlt:Λ2.f l' < XZ:=X0 ho
    rcases XT hm with hm | hm
    ·rw [hm]at hlt;exact XF (Q3w hlt) (XO _)
    ·rw [Qe hm]at hlt;exact XO _ hlt
   | _=>exact XF ht Qj
end
end
end Mini
end
section
open PySem PySem.W PySem.Calls PyProof.Rows
set_option genInjectivity false
set_option genSizeOf false
namespace Mini
open Classical in
noncomputable def fzN (Λ:Lab) (h:Heap):Addr->Option Obj:=fun b=>if ∃l,l < Λ.n/\Λ.f l=b then none else h.get? b
section
variable {c:Cx} {fz:Addr->Option Obj} {L L':Addr} {Λ Λ':Lab} {σ σ':St} {s s':Shared}
mutual
theorem B3 {b:Qq} {o:ZG} {h:ZS} (e:fzN Λ h b=QB o):Q05 b=QB o:=by
 injections Λ b o h _
 unfold fzN at e
 split at e
 ·cases e
 ·exact e
theorem DH {b:Qq} {o:ZG} {h:ZS} (e:Q05 b=QB o) (hn:∀l,l < Xi->Xs l≠b):fzN Λ h b=QB o:=by
 unfold fzN
 rw [QN]
 ·exact e
 ·rintro ⟨l,hl,e'⟩;exact hn l hl e'
theorem Rel.fz_unl (r:Rel c fz L Λ σ s) {b:Qq} {o:ZG} (e:fz b=QB o):∀l,l < Xi->Xs l≠b:=fun l hl q=>by
 have:=r.fzl l hl
 rw [q,e]at this;cases this
theorem Rel.enter (r:Rel c fz L Λ σ s) {loc:X8->QW QU} {m:X8->QW QI} (hos:s'.os=s.os) (hgn:s'.gens=s.gens) (hk:∀b o,Qc b=QB o->Q3x b=QB o) (hL:QD<=L') (hn:s'.heap.Ns L' m) (hl:∀x,OV Λ (loc x) (m x)) :
  Rel c (fzN Λ QV) L' Λ {σ with loc:=loc} s' where
 nn:=Q3i
 ns:=⟨m,hn,hl⟩
 Q4c:=fun b o e=>hk b o (B3 e)
 Q8m:=fun b o e=>DH (Q0K b o e) (QGF (Q9Z b o e))
 fzL:=by
  cases q:fzN Λ QV L' with
  | QG=>rfl
  | QB o=>exact XF (X0 (B3 q)) (YW hL)
 ob:=fun l h=>let ⟨o,a,b⟩:=Q3C l h;⟨o,hk _ _ a,b⟩
 fzl:=fun l h=>by unfold fzN;rw [QY ⟨l,h,QA⟩]
 lne:=fun l h q=>by
  refine ew1 (Q3C l h) fun o yq3b=>?_;refine an2 yq3b fun a b=>?_;clear yq3b
  exact XF (X0 a) (by rw [q];exact YW hL)
 inj:=r.inj
 Q4x:=Qz QEx (Qz (X7 QE4) hL)
 low:=QP (Q1G r.low QE4) hL
 nsm:=QDw
 os:=hos.trans r.os
 Q0P:=hgn.trans r.gens
theorem Rel.leave (r:Rel c fz L Λ σ s) (r':Rel c (fzN Λ QV) L' Zd XH s') (e:Q0C Zd):Rel c fz L Zd {XH with loc:=Xy} s':=by
 injections c fz L L' Λ Zd σ XH s s' _ _ _
 have sub:∀b o,fz b=QB o->fzN Λ QV b=QB o:=fun b o h=>DH (QEl b o h) (QGF h)
 have hLs:∀o,Qc L=QB o->fzN Λ QV L=QB o:=fun o h=>DH h r.lne
 refine {nn:=r'.nn,ns:=?_,Q4c:=fun b o h=>QEy b o (sub b o h),Q8m:=Q9Z,fzL:=r.fzL,ob:=QGA,fzl:=fun l hl=>?_,lne:=fun l hl q=>?_,inj:=QGq,Q4x:=QEx,low:=r.low,nsm:=r'.nsm,os:=r'.os,Q0P:=r'.gens}
 ·obtain ⟨m,h,k⟩:=r.ns
  exact ⟨m,h.at' fun o e=>QEy _ _ (hLs o e),fun x=>(k x).ext e⟩
 ·cases q:fz (Q4d l) with
  | QG=>rfl
  | QB o=>have:=sub _ _ q;rw [QGr l hl]at this;cases this
 ·obtain ⟨m,⟨o,es,ep,h,_⟩,k⟩:=r.ns
  have:=hLs o h
  rw [<- q,QGr l hl]at this;cases this
end
end
mutual
structure Q8E (K:Q1B) (f:Qq) (fd:QGG) (Yf:QC Yc) (xs:QC X8) (dv:QC (X8×QI)):Prop where
 at':∃oc od osl,QA4 f=QB ⟨oc,od,.Q7j fd,osl⟩
 Q0s:codeIn K QAM fd.qualname=QM
 co:fd.scope.isCoroutine=QJ
 gen:fd.scope.isGenerator=QJ
 Yf:fd.body=.Q5m Yf
 clo:fd.closure=[]
 gl:fd.globals=Q3e
 bl:fd.builtins=Q6p
 kd:fd.scope.kind=.Q3B
 QAN:∀S as,as.length=Qn->peek K S (bindArgs fd ⟨as,[]⟩)=QB (Q9f as++dv)
def AK (xs:QC X8) (vs:QC QU) (dv:QC (X8×QI)):QC (X8×QU):=Q9f vs++QB8 fun p=>(p.1,.imm p.2)
def Lo:Fl->QU
 | .ret v=>v
 | _=>.QG
inductive BR (Λ:Lab):QC (X8×QU)->QC (X8×QI)->Prop
 | Zo:BR Λ [] []
 | Xx {x:X8} {v:QU} {c:QI} {r:QC (X8×QU)} {q:QC (X8×QI)}:VR Λ v c->BR Λ r q->BR Λ ((x,v)::r) ((x,c)::q)
theorem BR.append {Λ:Lab} {a b:QC (X8×QU)} {a' b':QC (X8×QI)} (h:BR Λ a a') (k:BR Λ b b'):BR Λ (a++b) (a'++b'):=by
 induction h with
 | Zo=>exact k
 | Xx h _ ih=>exact .Xx h ih
theorem BR.rev {Λ:Lab} {a:QC (X8×QU)} {a':QC (X8×QI)} (h:BR Λ a a'):BR Λ a.reverse a'.reverse:=by
 induction h with
 | Zo=>exact .Zo
 | Xx h _ ih=>rw [Q0Z,Q0Z];exact ih.append (.Xx h .Zo)
theorem BR.lookup {Λ:Lab} {a:QC (X8×QU)} {a':QC (X8×QI)} (h:BR Λ a a') (x:X8):OV Λ (a.lookup x) (a'.lookup x):=by
 induction h with
 | Zo=>trivial
 | @Xx y v c r q h _ ih =>
  rw [Z5,Z5]
  cases x == y with
  | QM=>exact h
  | QJ=>exact ih
theorem QGs {Λ:Lab}:∀ {xs:QC X8} {vs:QC QU} {as:QC QI},VRs Λ vs as->BR Λ (Q9f vs) (Q9f as)
 | [],_,_,_=>.Zo
 | _::_,_,_,.Zo=>.Zo
 | x::xs,_,_,.Xx h k=>.Xx h (QGs k)
theorem QGt {Λ:Lab}:∀(dv:QC (X8×QI)),BR Λ (QB8 fun p=>(p.1,.imm p.2)) dv
 | []=>.Zo
 | p::r=>.Xx QA (QGt r)
end
end Mini
end
section
open PySem PySem.W PySem.Calls PyProof.Rows
namespace Mini
section
variable {c:Cx} {A:Around} {env:Env} {fm:Fm} {Λ:Lab} {σ:St}
mutual
theorem K0 {e:Qf} (h:Bv e=QJ) (x:QI):QAL e X1 x=ZX x:=by
 cases e <;> first | rfl | exact XF QGi Qj
theorem Hf:∀(ifs:QC Qf) {s:QZ} {Q:Qu->QZ->Prop} {E:QI->QZ->Prop},Q QJ s->Qp (Qi XK c.w) A (QGH ifs QJ fun c r=>if r=QM then do let ok <- Q7g c X1 (Q2p c X1);ZX (ZZ ok) else ZX (ZZ r)) Q E s
 | [],s,Q,E,h=>by rw [Q2e];exact QF h
 | x::r,s,Q,E,h=>by
  rw [Q1A]
  simp only [XU,Zi,Q4P]
  exact Hf r h
abbrev HM (ifs:QC Qf) (X1:Env):Sem Qu:=QGH ifs QM fun c r=>if r=QM then do let ok <- Q7g c X1 (Q2p c X1);ZX (ZZ ok) else ZX (ZZ r)
theorem KA {t:Qf->PT Qu} (ht:∀e Λ σ P,t e σ P->Zt c A X1 fm Λ (Q7g e X1 (Q2p e X1)) ER σ P):∀(ifs:QC Qf) {Λ:Lab} {σ:St} {P:Qu->St->Prop},BL t .And ifs σ P->Zt c A X1 fm Λ (HM ifs X1) ER σ P
 | [],Λ,σ,P,h=>by unfold HM;rw [Q2e];exact Zh (b:=QM) h QA
 | x::r,Λ,σ,P,h=>by
  unfold HM
  rw [Q1A]
  simp only [Q5u,QCY,Q4P]
  refine YN (ht x Λ σ _ h) fun Λ1 b y σ1 e1 p1 hx=>?_
  cases hx
  cases b with
  | QM=>exact KA ht r p1
  | QJ=>exact fun fz s Q E ok rr q=>Hf r (q Λ1 s _ _ σ1 (.Q1J _) p1 QA rr)
theorem Oz {elt:Qf} {Q0P:QC Qx} {Qv:Q0M} {XJ:Pos} {Q0q:QH} {it acc:QI} {g:Qx} {s:QZ} {Q:Fin->QZ->Prop} {E:QI->QZ->Prop} (hg:Q0P[Q0q]?=QB g) (ha:Q76=0)
  (h:Qp (Qi XK c.w) A (Q3W it) (fun r Q1p=>match r with
   | QG=>Q (.Q55 .YE) Q1p
   | QB v=>Qp (Qi XK c.w) A (Q7Q Q3K it v) (fun _ Q1p=>Qp (Qi XK c.w) A (Q2P Q3K X1 v) (fun _ QCZ=>Qp (Qi XK c.w) A (HM QBd X1) (fun ok QAx =>
     if ok=QM then (match Q0P[Q0q+1]? with
      | QB g'=>Qp (Qi XK c.w) A (Q2p Q58 X1) (fun x QAz=>Qp (Qi XK c.w) A (Q4o x) (fun it' QEz=>Qp (Qi XK c.w) A (runOwn (.QB9 (.ZF elt Q0P Qv XJ) (Q0q+1) it' acc X1) X1) (fun _ s₆=>Q (.QBZ (.QAO (.ZF elt Q0P Qv XJ) Q0q it acc X1)) s₆) E QEz) E QAz) E QAx
      | QG=>Qp (Qi XK c.w) A (Q2p elt X1) (fun x QAz=>Qp (Qi XK c.w) A (Q0Q (.Qd "list.append") [acc,x]) (fun _ QEz=>Q (.QBZ (.QAO (.ZF elt Q0P Qv XJ) Q0q it acc X1)) QEz) E QAz) E QAx)
     else Q (.QBZ (.QAO (.ZF elt Q0P Qv XJ) Q0q it acc X1)) QAx) E QCZ) E Q1p) E Q1p) E s)
  (hs:∀g',Q0P[Q0q+1]?=QB g'->QGI=0/\Bv Q58=QJ):Qp (Qi XK c.w) A (QGJ (.ZF elt Q0P Qv XJ) Q0q it acc X1) Q E s:=by
 injections c A X1 elt Q0P Qv XJ Q0q it acc g s Q E _ _ _ _
 unfold QGJ
 dsimp only
 rw [hg]
 dsimp only
 rw [ha]
 simp only [show ((0:X4) != 0)=QJ from QA,XU,Zi]
 refine Q9 (Q0n (Q9 (Yd h ?_ fun _ _ x=>x)));intros r Q1p Q1S
 cases r with
 | QG=>exact QF Q1S
 | QB v =>
  injections v zI
  dsimp only at Q1S ⊢
  refine Q9 (Yd Q1S ?_ fun _ _ x=>x);intros u1 Q1p Q1S
  refine Q9 (Yd Q1S ?_ fun _ _ x=>x);intros u2 QCZ QCd
  refine Q9 (Yd QCd ?_ fun _ _ x=>x);intros ok QAx QBj
  cases ok with
  | QJ=>exact QF QBj
  | QM =>
   simp only [Q5u]at QBj ⊢
   cases hq:Q0P[Q0q+1]? with
   | QG =>
    rw [hq]at QBj
    exact Q9 (Q9 (Yd QBj (fun x QAz h₄=>Q9 (Yd h₄ (fun _ QEz h₅=>QF (QF h₅)) fun _ _ x=>x)) fun _ _ x=>x))
   | QB g' =>
    injections g' zI
    rw [hq]at QBj
    obtain ⟨a1,a2⟩:=hs g' hq
    dsimp only at QBj ⊢
    rw [a1]
    simp only [show ((0:X4) != 0)=QJ from QA,XU,Zi]
    refine Q9 (Yd QBj ?_ fun _ _ x=>x);intros x QAz h₄;refine Q9 (Q0n (Q9 (Zl (K0 a2 x) (Q9 (Xa (Yd h₄ (fun it' QEz h₅=>?_) fun _ _ x=>x))))))
    exact Q9 (Yd h₅ (fun _ s₆ h₆=>QF h₆) fun _ _ x=>x)
end
end
end Mini
end
section
open PySem PySem.W PySem.Calls PyProof.Rows
namespace Mini
section
variable {c:Cx} {A:Around} {env:Env} {fm:Fm} {Λ:Lab} {σ:St}
mutual
theorem Ip {elt:Qf} {Q0P:QC Qx} {Qv:Q0M} {XJ:Pos} {Q0q:QH} {I:Qq} {acc:QI} {g:Qx} {s:QZ} {R:Q87->QZ->Prop} (hg:Q0P[Q0q]?=QB g) (ha:Q76=0)
  (QFy:∀(Q:QI->QZ->Prop) (E:QI->QZ->Prop),Q (.QQ I) s->Qp (Qi XK c.w) A (Q4o (.QQ I)) Q E s)
  (h0:Q1L (Qi XK c.w) A (.QAO (.ZF elt Q0P Qv XJ) Q0q (.QQ I) acc X1) R s):Q1L (Qi XK c.w) A (.QB9 (.ZF elt Q0P Qv XJ) Q0q (.QQ I) acc X1) R s:=by
 refine Q2E ?_
 show Qp _ _ ((QB9 (.ZF elt Q0P Qv XJ) Q0q (.QQ I) acc X1).QHN (fun x=>do QE0 x X1;QHB theWindowsPlace)) _ _ s
 refine wpAny_notedAt ?_
 unfold QB9
 have hcl:(clausesOf (.ZF elt Q0P Qv XJ))[Q0q]?=QB g:=hg
 rw [hcl]
 simp only [Q8F,ha,show ((0:X4) != 0)=QJ from QA,XU,Zi]
 refine Q9 (Q1o (QDy ?_))
 split
 ·exact QF (QBA QA h0)
 ·exact Q9 (Q0b (Q9 (Q0n (Q9 (QFy _ _ (QF (QBA QA h0)))))))
theorem Ky {v:QU} {x:QI} {its:QC QU} {st:St->Prop} {fz:Qq->QW ZG} {s:QZ} {Q:QI->QZ->Prop} {E:QI->QZ->Prop} (hA:AOk A) (r:Rel c fz Qo Λ σ s) (hv:VR Λ v x) (h:Cn v σ (its,st))
  (q:∀it s',Gb c A X1 Λ fz σ its st it s'->Q it s'):Qp (Qi XK c.w) A (Q4o x) Q E s:=by
 injections c A X1 Λ σ v x its st fz s Q E _ _ _ _ _
 obtain ⟨l,QA,⟨xs,e,h⟩ | ⟨xs,e,h⟩ | ⟨a,b,k,e,hh,h⟩⟩:=h
 ·cases h;exact KU hA r hv e q
 ·cases h;exact IY hA r hv e q
 ·cases h
  obtain ⟨o,ho,hor⟩:=(Q3C l hv.1)
  rw [e]at hor
  obtain ⟨t1,t2,t3,QA⟩:=hor
  rw [hv.2]
  exact IZ hA r ho hh.1 hh.2 q
def pGN (f:Qf->PT QU) (t:Qf->PT Qu) (a:Qf->QU->PT Yb) (acc:QH) (elt:Qf) (gs:QC Qx) (Q:St->Prop):St->Prop:=fun σ=>match gs with
 | []=>f elt σ fun v σ=>Bx [.QQ acc,v] σ fun _ σ=>Q σ
 | g'::_=>Bv Q58=QJ/\f Q58 σ fun v σ=>∃its st,Cn v σ (its,st)/\CO f t a acc elt gs its st σ fun _ σ=>Q σ
def pGT (f:Qf->PT QU) (t:Qf->PT Qu) (a:Qf->QU->PT Yb) (acc:QH) (elt:Qf) (g:Qx) (gs:QC Qx):QU->PT Fl:=fun x σ P=>a Q3K x σ fun _ σ=>BL t .And QBd σ fun ok σ =>
 (ok=QJ->P .YE σ)/\(ok=QM->pGN f t a acc elt gs (P .YE) σ)
theorem MX {f:Qf->PT QU} {t:Qf->PT Qu} {a:Qf->QU->PT Yb} (hA:AOk A) (hf:Bd c A X1 fm f) (ht:GD c A X1 fm t) (has:E5 c A X1 fm a) {elt:Qf} {Q0P:QC Qx} {Qv:Q0M} {XJ:Pos} {acc:QH} (hasy:∀g∈Q0P,Q76=0/\Bv Q6L=QJ) :
  ∀(gs:QC Qx) (Q0q:QH),Q8g Q0q=gs->∀ {Λ:Lab} {σ:St} {fz:Qq->QW ZG} {I:Qq} {own:QC Qq} {Xr:QC QU} {Q3J:St->Prop} {J:QH->ZS->Prop} {s:QZ} {R:Q87->QZ->Prop} {P:Yb->St->Prop} {Q78:QI},
   It c A X1 Λ fz I own Xr Q3J J->Q4y X1 fm Λ->Rel c fz Qo Λ σ s->(∀l,l < Xi->Xs l∉own)->J 0 QV->VR Λ (.QQ acc) Q78->CO f t a acc elt gs Xr Q3J σ P ->
   (∀Zd s' XH,Q0C Zd->P () XH->Rel c fz Qo Zd XH s'->R (.ok .YE) s')->Q1L (Qi XK c.w) A (.QAO (.ZF elt Q0P Qv XJ) Q0q (.QQ I) Q78 X1) R s:=by
 injections c A X1 fm f t a _ _ _ _ elt Q0P Qv XJ acc _
 intros gs
 induction gs with
 | Zo =>
  intros Q0q hd Λ σ fz I own Xr Q3J J s R P Q78 W ok r hdis hJ QBn h q;exact Q1R h
 | @Xx g gs ih =>
  revert g gs;intros g gs ih Q0q hd Λ σ fz I own Xr Q3J J s R P Q78 W ok r hdis hJ QBn h q
  have hgd:Q0P[Q0q]?=QB g:=by
   have:(Q8g Q0q)[0]?=QB g:=by rw [hd];rfl
   rw [Q3Z]at this;simpa using this
  have hgs:Q8g (Q0q+1)=gs:=by
   have:(Q8g Q0q).Q9a 1=gs:=by rw [hd];rfl
   rw [List.drop_drop]at this;exact this
  have hnx:Q0P[Q0q+1]?=gs.head?:=by
   have:(Q8g (Q0q+1))[0]?=gs.head?:=by rw [hgs];cases gs <;> rfl
   rw [Q3Z]at this;simpa using this
  have QDO:∀g'∈gs,g'∈Q0P:=fun g' hg'=>Q8G (by rw [hgs];exact hg')
  have hgm:g∈Q0P:=Q8G (i:=Q0q) (by rw [hd];exact .Zf _)
  replace h:AS Q3J (pGT f t a acc elt g gs) Xr σ fun _ σ=>P () σ:=h
  have hset:∀g',Q0P[Q0q+1]?=QB g'->QGI=0/\Bv Q58=QJ:=fun g' e=>hasy g' (XG e)
  refine QDS QA (fun k s'=>∃i Zd XH,k=Yi+1 - i/\i<=Yi/\Q0C Zd/\Rel c fz Qo Zd XH s'/\(∀l,l < QDi->Q4d l∉own)/\J i Q4Z/\AS Q3J (pGT f t a acc elt g gs) (Q2c i) XH (fun _ σ=>P () σ)) ?_ _ ⟨0,Λ,σ,QA,XQ _,.Q1J _,r,hdis,hJ,h⟩
  intros k Q1p Q2X
  obtain ⟨i,Q60,Q7R,QA,hi,Q6c,r₁,Q88,QG5,Q1S⟩:=Q2X
  show Qp _ A ((QGJ (.ZF elt Q0P Qv XJ) Q0q (.QQ I) Q78 X1).QHN (fun x=>do QE0 x X1;QBi x)) _ _ Q1p
  refine QG4 (Oz hgd (hasy g hgm).1 ?_ hset)
  cases hx:Xr[i]? with
  | QG =>
   have Q2Y:i=Yi:=by have:=Q2F hx;exact Kw hi this
   subst Q2Y
   rw [Q4O]at Q1S
   refine QCh Q60 Q7R Q1p _ _ Q6c r₁ Q1S.1 QG5 ?_;intros h' tk dr hk
   exact q Q60 _ Q7R Q6c Q1S.2 (Q3u QBc QE1 Q88 hk)
  | QB x =>
   injections x zI
   obtain ⟨hlt,hxe⟩:=QX hx
   have Q6d:Q2c i=x::Q2c (i+1):=by rw [YP hlt,hxe]
   rw [Q6d]at Q1S
   refine W.next i x Q60 Q7R Q1p _ _ Q6c r₁ Q1S.1 QG5 hx ?_;intros v h' tk dr hv hJ' hk
   have r₂:=Q3u (tk:=tk) (dr:=dr) QBc QE1 Q88 hk
   have r₃:=r₂.hold QBc QE1 Q88
   have fin:∀Q4z QAz Q50,Λ₁.Ext Q4z->AS Q3J (pGT f t a acc elt g gs) (Q2c (i+1)) Q50 (fun _ σ=>P () σ)->Rel c (fzO fz own h') Qo Q4z Q50 QAz->∃m,m < Yi+1 - i/\∃i Zd XH,m=Yi+1 - i/\i<=Yi/\Q0C Zd/\Rel c fz Qo Zd XH QAz/\(∀l,l < QDi->Q4d l∉own)/\J i QE3/\AS Q3J (pGT f t a acc elt g gs) (Q2c i) XH (fun _ σ=>P () σ):=by
    intros Q4z QAz Q50 Q8s hP r₄
    obtain ⟨Q9Y,QE2,QCj⟩:=(r₄.free Q9Z QBc (QHQ _ _ hJ'))
    exact ⟨Yi+1 - (i+1),by exact Ig hlt,i+1,Q4z,Q50,QA,hlt,Q5V Q8s,Q9Y,QCj,QHR _ _ _ hJ' QE2,hP⟩
   refine W.go (i+1) Q3K v _ _ _ hJ' ?_
   refine has Q3K x v Q60 Q7R _ hv Q1S.2 _ _ _ _ (Yq Q6c) r₃ ?_;intros QHO QCZ u1 u2 QHP QCi QG6 u3 QG7
   refine KA ht QBd QG6 _ _ _ _ ((Yq Q6c).ext QCi) QG7 ?_;intros Λ₃ QAx b bb QHZ e₃ hP₃ hb r₃'
   cases hb
   cases b with
   | QJ =>
    rw [QN Qj]
    exact .inl ⟨QA,fin Λ₃ QAx QHZ (Q79 e₃) (hP₃.1 QA) r₃'⟩
   | QM =>
    rw [QY QA]
    have hPt:=hP₃.2 QA
    have ok₃:=((Yq Q6c).ext QCi).ext e₃
    rw [hnx]
    cases gs with
    | Zo =>
     refine hf elt Λ₃ QHZ _ hPt _ _ _ _ ok₃ r₃' ?_;intros Q4z QAz y yv Q50 Q8s QGK hy r₄
     refine Fw (.Xx (((QAP Q6c).ext (Q79 e₃)).ext Q8s) (.Xx hy .Zo)) QGK _ _ _ _ (ok₃.ext Q8s) r₄ ?_;intros Λ₅ QEz u4 u5 σ₅ e₅ hP₅ u6 Q9Y
     exact .inl ⟨QA,fin Λ₅ QEz σ₅ (((Q79 e₃).QR Q8s).QR e₅) hP₅ Q9Y⟩
    | Xx g' gs' =>
     injections g' gs' zI
     have hPu:Bv Q58=QJ/\f Q58 QHZ fun v σ=>∃its st,Cn v σ (its,st)/\CO f t a acc elt (g'::gs') its st σ fun _ σ=>AS Q3J (pGT f t a acc elt g (g'::gs')) (Q2c (i+1)) σ fun _ σ=>P () σ:=hPt
     refine hf Q58 Λ₃ QHZ _ hPu.2 _ _ _ _ ok₃ r₃' ?_;intros Q4z QAz y yv Q50 Q8s QGK hy r₄
     obtain ⟨its,st,hw,QGK⟩:=QGK
     refine Ky hA r₄ hy hw ?_;intros it' QEz Q6r
     obtain ⟨I',own',J',hI,W0,Q9Y,hfz,hL,hd',hJ'⟩:=Q6r
     subst hI
     have W':=W0 X1 _ hfz hL
     refine wpAny_runOwn (Ip (g:=g') (by rw [hnx];rfl) (hset g' (by rw [hnx];rfl)).1 (fun Q E hq=>W'.self 0 QEz Q E hJ' hq) ?_)
     refine ih (Q0q+1) hgs W' (ok₃.ext Q8s) Q9Y hd' hJ' (((QAP Q6c).ext (Q79 e₃)).ext Q8s) QGK ?_;intros Λ₆ s₆ σ₆ e₆ hP₆ r₆
     exact .inl ⟨QA,fin Λ₆ s₆ σ₆ (((Q79 e₃).QR Q8s).QR e₆) hP₆ r₆⟩
end
end
end Mini
end
section
open PySem PySem.W PySem.Calls PyProof.Rows
namespace Mini
open Classical in
noncomputable def fzX (own:List Addr) (fz:Addr->Option Obj):Addr->Option Obj:=fun b=>if b∈own then none else fz b
section
variable {c:Cx} {fz:Addr->Option Obj} {L L':Addr} {Λ Λ':Lab} {σ σ':St} {s s':Shared} {own:List Addr}
mutual
theorem Rel.thaw (r:Rel c fz L Λ σ s) (h:∀b∈own,Q39 b=QG):Rel c (fzX own fz) L Λ σ s where
 nn:=Q3i
 ns:=r.ns
 Q4c:=fun b o e=>by
  unfold fzX at e
  split at e
  ·cases e
  ·exact QEl b o e
 Q8m:=fun b o e=>by
  unfold fzX
  split
  ·rename_i hb;rw [h b hb]at e;cases e
  ·exact Q9Z b o e
 fzL:=by unfold fzX;split <;> first | rfl | exact r.fzL
 ob:=Q3C
 fzl:=fun l hl=>by unfold fzX;split <;> first | rfl | exact r.fzl l hl
 lne:=r.lne
 inj:=r.inj
 Q4x:=QEx
 low:=r.low
 nsm:=QDw
 os:=r.os
 Q0P:=r.gens
theorem It.ext {A:Q2z} {X1:Env} {I:Qq} {Xr:QC QU} {Q3J:St->Prop} {J:QH->ZS->Prop} (W:It c A X1 Λ fz I own Xr Q3J J) (e:Q0C Zd):It c A X1 Zd fz I own Xr Q3J J :=
 {QCR:=QHR,QCg:=QHQ,fzo:=QBc,noL:=QE1,go:=W.go,Q1g:=W.self,
  YE:=fun i x QFc σ s Q E e'=>W.next i x QFc σ s Q E (QBv e'),
  Q55:=fun QFc σ s Q E e'=>QCh QFc σ s Q E (QBv e')}
theorem Rel.leaveX {QCd h':ZS} (r:Rel c (fzO fz own QCd) L Λ σ s) (hfz:∀b∈own,fz b=QG) (hLo:L∉own) (hb:∀b o,Q39 b=QB o->fz b=QB o) (hfL:fz L=QG) (hl0:∀l,l < Xi->fz (Xs l)=QG)
  (r':Rel c (fzX own (fzN Λ QV)) L' Zd XH s') (e:Q0C Zd) (hL':QD<=L') (hs:ZC L' Q4Z h'):Rel c fz L Zd {XH with loc:=Xy} {s' with YO:=h'}:=by
 injections c fz L L' Λ Zd σ XH s s' own QCd h' _ _ _ _ _ _ _ _ _ _
 have sub:∀b o,fz b=QB o->fzX own (fzN Λ QV) b=QB o:=by
  intros b o h
  have hbo:b∉own:=fun hm=>by rw [hfz b hm]at h;cases h
  have h3:fzO fz own QCd b=QB o:=by unfold fzO;rw [QN hbo];exact h
  unfold fzX
  rw [QN hbo]
  exact DH (QEl b o h3) (QGF h3)
 have lt:∀b o,fzX own (fzN Λ QV) b=QB o->b≠L':=by
  intros b o h
  unfold fzX at h
  split at h
  ·cases h
  ·intros q;exact XF (X0 (B3 h)) (by rw [q];exact YW hL')
 have hLs:∀o,Qc L=QB o->fzX own (fzN Λ QV) L=QB o:=by
  intros o h
  unfold fzX;rw [QN hLo];exact DH h r.lne
 refine {nn:=r'.nn,ns:=?_,Q4c:=fun b o h=>(hs.2 b (lt _ _ (sub b o h))).QR (QEy b o (sub b o h)),Q8m:=hb,fzL:=hfL,ob:=fun l hl=>?_,fzl:=fun l hl=>?_,lne:=fun l hl q=>?_,inj:=QGq,Q4x:=QEx,low:=r.low,nsm:=r'.nsm,os:=r'.os,Q0P:=r'.gens}
 ·obtain ⟨m,h,k⟩:=r.ns
  exact ⟨m,h.at' fun o e=>(hs.2 L (lt _ _ (hLs o e))).QR (QEy _ _ (hLs o e)),fun x=>(k x).ext e⟩
 ·obtain ⟨o,a,b⟩:=(QGA l hl)
  exact ⟨o,(hs.2 _ (r'.lne l hl)).QR a,b⟩
 ·cases q:fz (Q4d l) with
  | QG=>rfl
  | QB o=>have:=sub _ _ q;rw [QGr l hl]at this;cases this
 ·obtain ⟨m,⟨o,es,ep,h,_⟩,k⟩:=r.ns
  have:=hLs o h
  rw [<- q,QGr l hl]at this;cases this
end
end
mutual
theorem J2 {Λ:Lab} {X1:Env} {fm:Fm} (ok:Q4y X1 fm Λ):∀(Q48:QC (X8×Q2d)) (acc cl:QC (X8×QH)),Ev Q99 Q48 acc=QB cl ->
  (QGH Q48 (QC0 fun p=>(p.1,Xs p.2)) (fun (x:X8×Q2d) (cs:QC (X8×Qq))=>if (x.2 == .QGB)=QM then do let a <- QGu X1 x.1;ZX (ZZ ((x.1,a)::cs)) else ZX (ZZ cs)):Sem _)=ZX (QCs fun p=>(p.1,Xs p.2))
 | [],acc,cl,h=>by cases h;rw [Q2e]
 | (n,k)::r,acc,cl,h=>by
  rw [Q1A]
  have h:(if (k == .QGB)=QM then (match Q22 n with | QB l=>Ev Q99 r ((n,l)::acc) | QG=>QG) else Ev Q99 r acc)=QB cl:=h
  split at h
  ·rename_i hk
   cases hl:Q22 n with
   | QG=>rw [hl]at h;cases h
   | QB l =>
    rw [hl]at h
    have hc:QGu X1 n=ZX (Xs l):=by unfold QGu;rw [(QCL n l hl).2]
    simp only [hk,Q5u,hc,Q4P]
    exact J2 ok r ((n,l)::acc) cl h
  ·rename_i hk
   simp only [hk,XU,Zi,Q4P]
   exact J2 ok r acc cl h
theorem J1 {Λ:Lab} {X1:Env} {fm:Fm} (ok:Q4y X1 fm Λ) {Qv:Q0M} {cl:QC (X8×QH)} (h:Ev Q99 Q1N []=QB cl):closureFor Qv X1=ZX (QCs fun p=>(p.1,Xs p.2)):=by
 have:=J2 ok Q1N [] cl h
 simp only [Q54]at this
 show (QGH Q1N [] (fun (x:X8×Q2d) (cs:QC (X8×Qq))=>if (x.2 == .QGB)=QM then do let a <- QGu X1 x.1;ZX (ZZ ((x.1,a)::cs)) else ZX (ZZ cs)) >>= fun cs=>ZX cs:Sem _)=_
 rw [this,Q4P]
theorem J3 {Λ:Lab} {X1:Env} {fm:Fm} (ok:Q4y X1 fm Λ):∀(Q48:QC (X8×Q2d)) (acc cl:QC (X8×QH)),Ev Q99 Q48 acc=QB cl->(∀p∈acc,p.2 < Xi)->∀p∈cl,p.2 < Xi
 | [],acc,cl,h,ha=>by cases h;exact ha
 | (n,k)::r,acc,cl,h,ha=>by
  have h:(if (k == .QGB)=QM then (match Q22 n with | QB l=>Ev Q99 r ((n,l)::acc) | QG=>QG) else Ev Q99 r acc)=QB cl:=h
  split at h
  ·cases hl:Q22 n with
   | QG=>rw [hl]at h;cases h
   | QB l =>
    rw [hl]at h
    exact J3 ok r _ cl h fun p hp=>by
     rcases XT hp with QA | hp
     ·exact (QCL n l hl).1
     ·exact ha p hp
  ·exact J3 ok r acc cl h ha
theorem FO {Λ:Lab} {x:X8}:∀(cl:QC (X8×QH)) {l:QH},QB4 x=QB l->(QCs fun p=>(p.1,Xs p.2)).QF0 x=QB (Xs l)
 | [],l,h=>by simp at h
 | (n,k)::r,l,h=>by
  rw [XV,Z5]
  rw [Z5]at h
  cases hx:x == n with
  | QM=>rw [hx]at h;cases h;rfl
  | QJ=>rw [hx]at h;exact FO r h
end
end Mini
end
section
open PySem PySem.W PySem.Calls PyProof.Rows
namespace Mini
section
variable {c:Cx} {A:Around} {env:Env} {fm:Fm} {Λ:Lab} {σ:St}
mutual
theorem Et {Qv:Q0M} {Q0P:QC Qx} (h:Eu Qv Q0P=QM):Q9c=.Q3B/\(∀x∈Q1N,x.2≠.YV)/\(∀x∈Q1N,x.2=.Q63->Q9d x.1=QB .Q63)/\∀g∈Q0P,Q76=0/\Bv Q6L=QJ:=by
 injections Qv Q0P _
 unfold Eu at h
 simp only [X9,List.all_eq_true]at h
 obtain ⟨⟨⟨h1,h2⟩,h3⟩,h4⟩:=h
 refine ⟨?_,fun x hx=>by simpa using h2 x hx,?_,fun g hg=>by simpa using h4 g hg⟩
 ·cases hk:Q9c <;> rw [hk]at h1 <;> first | rfl | cases h1
 ·intros x hx hl
  have:=h3 x hx
  rw [hl]at this
  simpa using this
theorem JA (ok:Q4y X1 fm Λ) (Qv:Q0M):QC1 Qv X1=Aj Qv Zr:=by
 unfold QC1 Aj Q9Q
 rw [QCK]
theorem FK {x:X8} {l:QH}:∀ {cl:QC (X8×QH)},QB4 x=QB l->(x,l)∈cl
 | [],h=>by simp at h
 | (n,k)::r,h=>by
  rw [Z5]at h
  cases hx:x == n with
  | QM=>rw [hx]at h;cases h;rw [Z4 hx];exact .Zf _
  | QJ=>rw [hx]at h;exact .Q38 _ (FK h)
theorem Hl {f0 f:Qf->PT QU} {t:Qf->PT Qu} {a:Qf->QU->PT Yb} (hA:AOk A) (hf0:Bd c A X1 fm f0) {Qv:Q0M} {cl:QC (X8×QH)} (hin:∀QCt,Bd c A QCt ⟨Aj Qv Zr,cl,Q2R,Q2S⟩ f/\GD c A QCt ⟨Aj Qv Zr,cl,Q2R,Q2S⟩ t/\E5 c A QCt ⟨Aj Qv Zr,cl,Q2R,Q2S⟩ a)
  {elt:Qf} {g:Qx} {gs:QC Qx} {XJ p:Pos} {use:QW (QI->Sem Yb)} {Q:QI->QZ->Prop} {E:QI->QZ->Prop} {fz:Qq->QW ZG} {s:QZ} {P:QU->St->Prop} (ok:Q4y X1 fm Λ) (r:Rel c fz Qo Λ σ s)
  (hcl:Ev Q99 Q1N []=QB cl) (hco:Eu Qv (g::gs)=QM)
  (h:f0 Q6L σ fun v σ=>∃its st,Cn v σ (its,st)/\CO f t a QO elt (g::gs) its st {Qw (.Qs []) with loc:=fun _=>QG} fun _ XH=>P (.QQ QO) {XH with loc:=Xy})
  (fin:∀Λ5 s5 σ5 b Q78 L',Q0C Λ5->P b σ5->VR Λ5 b Q78->fz L'=QG->Qo≠L'->(∀l,l < Λ5.n->Λ5.f l≠L')->(∃m,s5.heap.Ns L' m)->(∀h',ZC L' s5.heap h'->Rel c fz Qo Λ5 σ5 {s5 with YO:=h'})->compPost (Qi XK c.w) A E use Q Q78 L' (.ok .YE) s5) :
  Qp (Qi XK c.w) A (comprehension (.ZF elt (g::gs) Qv XJ) Qv X1 p (newList []) QJ (Q2p Q6L X1) use) Q E s:=by
 injections c A X1 fm Λ σ f0 f t a _ _ Qv cl _ elt g gs XJ p use Q E fz s P _ _ _ _ _ _
 obtain ⟨hkind,hnc,hnames,hasy⟩:=(Et hco)
 refine wpAny_comprehension_free (g:=g) (gs:=gs) QA (K0 (hasy g (.Zf _)).2) (J1 ok hcl) hkind hnames ?_
 refine hf0 Q6L Λ σ _ h fz s _ E ok r ?_;intros Λ1 s1 v x σ1 e1 p1 hx r1
 obtain ⟨its,st,hw,p1⟩:=p1
 refine Ky hA r1 hx hw ?_;intros it s2 Q2X
 obtain ⟨I,own,J,hI,W0,r2,hfz,hL,hd,hJ⟩:=Q2X
 subst hI
 have r2h:=r2.hold hfz hL hd
 refine Xl ?_ (show (0:QH)<=_ from XQ _)
 have e3:=XN Λ1 XZ
 have r3:=r2h.push (tk:=QHY) (o:=.Qs []) (co:={cls:=.Qk "list",YC:=.seq ([]:QC QI).Xe}) ⟨[],0,QA,.Zo⟩ QA
 have QBn:VR (Q6e XZ) (.QQ YD) (.QQ XZ):=Q1l _ QHV
 refine Q8H hnc (fun x hx=>by cases hx) ?_ hkind;intros h' hn hs
 have QAr:∀b∈own,b < XZ:=fun b hb=>let ⟨o,ho⟩:=(W0 X1 fz hfz hL).QCg 0 _ hJ b hb;X0 ho
 have hsz3:(Q29 {cls:=.Qk "list",YC:=.seq ([]:QC QI).Xe}).YT=XZ+1:=Q0x ..
 have hk:∀b o,(Q29 {cls:=.Qk "list",YC:=.seq ([]:QC QI).Xe}).QBh b=QB o->ZB b=QB o:=fun b o e=>(hs.2 b (Xv (X0 e))).QR (Qa _ e)
 have r4:=r3.enter (s':={s2 with YO:=h',Q0T:=QHY+([]:QC (X8×QI)).ZT}) (loc:=fun _=>QG) QA QA hk (Qh _) hn (fun x=>by simp only [List.reverse_nil,List.lookup_nil];exact ZQ)
 have hg0:∀b∈own,Q39 b=QG:=by
  intros b hb
  cases q:Q39 b with
  | QG=>rfl
  | QB o=>have:=r2.base b o q;rw [hfz b hb]at this;cases this
 have r4':=r4.thaw hg0
 have hLo:(Q29 {cls:=.Qk "list",YC:=.seq ([]:QC QI).Xe}).YT∉own:=by
  intros hm
  have:=QAr _ hm
  rw [hsz3]at this
  exact XO _ (Q3w this)
 have ok':Q4y {newEnv Qv (Q29 {cls:=.Qk "list",YC:=.seq ([]:QC QI).Xe}).YT Q7r (QCs fun p=>(p.1,Xs p.2)) Q6f QG .QG (QB X1) 0 with Qv:=QC1 Qv X1} ⟨Aj Qv Zr,cl,Q2R,Q2S⟩ (Q6e XZ):=by
  refine ⟨JA ok Qv,QHC,ok.bl,hkind,?_,ok.cd,(Yq (Ye e3)).tb⟩;intros x l hl
  have hlt:=J3 ok Q1N [] cl hcl (fun p hp=>by cases hp) (x,l) (FK hl)
  have e13:=Ye e3
  exact ⟨QP hlt e13.1,by rw [e13.2 l hlt];exact FO cl hl⟩
 have ok':=ok'
 have hd3:∀l,l < (Q6e XZ).n->(Q6e XZ).f l∉own:=by
  intros l hl hm
  by_cases hq:l=QE8
  ·have fs:(Q6e XZ).f l=XZ:=QY hq
   rw [fs]at hm
   exact XO _ (QAr _ hm)
  ·have hl2:l < QE8:=by have:l < QE8+1:=hl;exact BH hq this
   rw [e3.2 l hl2]at hm;exact hd l hl2 hm
 have W':=(W0 {newEnv Qv (Q29 {cls:=.Qk "list",YC:=.seq ([]:QC QI).Xe}).YT Q7r (QCs fun p=>(p.1,Xs p.2)) Q6f QG .QG (QB X1) 0 with Qv:=QC1 Qv X1} (fzX own (fzN (Q6e XZ) (Q29 {cls:=.Qk "list",YC:=.seq ([]:QC QI).Xe}))) (fun b hb=>by unfold fzX;rw [QY hb]) hLo).ext e3
 have hJ4:J 0 h':=W'.frame 0 _ _ hJ fun b hb o e=>hk b o (Qa _ e)
 have hin':=hin {newEnv Qv (Q29 {cls:=.Qk "list",YC:=.seq ([]:QC QI).Xe}).YT Q7r (QCs fun p=>(p.1,Xs p.2)) Q6f QG .QG (QB X1) 0 with Qv:=QC1 Qv X1}
 refine Ip (c:=c) (g:=g) QA (hasy g (.Zf _)).1 (fun Q E hq=>W'.self 0 _ Q E hJ4 hq) ?_
 refine MX hA hin'.1 hin'.2.1 hin'.2.2 hasy (g::gs) 0 QA W' ok' r4' hd3 hJ4 QBn p1 ?_;intros Λ5 s5 σ5 e5 p5 r5
 refine fin Λ5 s5 _ _ _ _ ((Ye e3).QR e5) p5 (QAP e5) ?_ ?_ ?_ ?_ ?_
 ·cases q:fz (Q29 {cls:=.Qk "list",YC:=.seq ([]:QC QI).Xe}).YT with
  | QG=>exact q
  | QB o =>
   injections o zI
   have:=X0 (r2.keep _ _ q)
   rw [hsz3]at this
   exact XF (Q3w this) (XO _)
 ·intros q
  have:=r2.Llt
  rw [q]at this
  have h2:XZ+1 < XZ:=by rw [<- hsz3];exact this
  exact XF (Q3w h2) (XO _)
 ·exact fun l hl=>r5.lne l hl
 ·obtain ⟨m,hm,_⟩:=r5.ns;exact ⟨m,hm⟩
 ·intros h'' hs''
  exact r3.leaveX hfz hL r2.base r2.fzL (fun l hl=>by
   by_cases hq:l=QE8
   ·have fs:(Q6e XZ).f l=XZ:=QY hq
    rw [fs];exact r2.size_fz
   ·have hl2:l < QE8:=by have:l < QE8+1:=hl;exact BH hq this
    rw [e3.2 l hl2];exact r2.fzl l hl2) r5 e5 (Qh _) hs''
end
end
end Mini
end
section
open PySem PySem.W PySem.Calls PyProof.Rows
namespace Mini
section
variable {c:Cx} {A:Around} {env:Env} {fm:Fm} {Λ:Lab} {σ:St}
mutual
theorem K9 {f0 f:Qf->PT QU} {t:Qf->PT Qu} {a:Qf->QU->PT Yb} (hA:AOk A) (hf0:Bd c A X1 fm f0) {Qv:Q0M} {cl:QC (X8×QH)} (hin:∀QCt,Bd c A QCt ⟨Aj Qv Zr,cl,Q2R,Q2S⟩ f/\GD c A QCt ⟨Aj Qv Zr,cl,Q2R,Q2S⟩ t/\E5 c A QCt ⟨Aj Qv Zr,cl,Q2R,Q2S⟩ a)
  {elt:Qf} {g:Qx} {gs:QC Qx} {XJ:Pos} {P:QU->St->Prop} (h:Hb fm Qv cl f0 f t a elt g gs σ P):Zt c A X1 fm Λ (Q2p (.ZF elt (g::gs) Qv XJ) X1) VR σ P:=fun fz s Q E ok r q=>by
 obtain (⟨h1,h2,h3⟩):=h
 rw [arm_eval_ListComp]
 have ha:firstAsync (g::gs)=QJ:=by
  have:=((Et h2).2.2.2 g (.Zf _)).1
  cases g;simp only at this;subst this;rfl
 have hi:firstIter (g::gs) X1=Q2p Q6L X1:=by cases g;rfl
 rw [ha,hi]
 refine Hl hA hf0 hin ok r h1 h2 h3 fun Λ5 s5 σ5 b Q78 L' e p hv k1 k2 k3 hm hR=>?_
 obtain (⟨m,hm⟩):=hm
 exact ⟨m,hm,fun h' hs=>q Λ5 _ b Q78 σ5 e p hv (hR h' hs)⟩
theorem Jq {tg elt:Qf} {Q0P:QC Qx} {Qv:Q0M} {XJ:Pos} {n:QH}:∃b,Q9B [tg] (.ZF elt Q0P Qv XJ) n X1=ZX b:=by
 unfold Q9B swapsWith
 cases tg <;> exact ⟨_,QA⟩
theorem PB {f0 f:Qf->PT QU} {t:Qf->PT Qu} {a a0:Qf->QU->PT Yb} (hA:AOk A) (hf0:Bd c A X1 fm f0) (ha0:E5 c A X1 fm a0) {Qv:Q0M} {cl:QC (X8×QH)} (hin:∀QCt,Bd c A QCt ⟨Aj Qv Zr,cl,Q2R,Q2S⟩ f/\GD c A QCt ⟨Aj Qv Zr,cl,Q2R,Q2S⟩ t/\E5 c A QCt ⟨Aj Qv Zr,cl,Q2R,Q2S⟩ a)
  {tg elt:Qf} {g:Qx} {gs:QC Qx} {p XJ:Pos} {P:Fl->St->Prop} (hst:B2 tg=QJ) (h:Hb fm Qv cl f0 f t a elt g gs σ fun v σ=>a0 tg v σ fun _ σ=>P .YE σ) :
  Zt c A X1 fm Λ (QGE (.Q77 [tg] (.ZF elt (g::gs) Qv p) XJ) X1) FR σ P:=fun fz s Q E ok r q=>by
 obtain (⟨b,hb⟩):=Jq (X1:=X1) (tg:=tg) (elt:=elt) (Q0P:=g::gs) (Qv:=Qv) (XJ:=p) (n:=Q0z)
 have hns:Am [tg]=QM:=by simp [Am,hst]
 rw [QBm,hb,A1 hns]
 simp only [XV,Q54,Q4P]
 refine Q9 (Q0n ?_)
 cases b with
 | QJ =>
  rw [QN Qj]
  refine Q9 (K9 hA hf0 hin h fz s _ E ok r fun Λ1 s1 v x σ1 e1 p1 hx r1=>?_)
  rw [G8 (Yq e1) (by rfl)]
  refine Q9 (QF ?_)
  have hsw:BV Zr [tg] (.ZF elt (g::gs) Qv p)=QG:=by
   unfold BV S4
   cases tg <;> rfl
  rw [hsw]
  exact Q9 (ha0 tg v x Λ1 σ1 _ hx p1 fz s1 _ E (Yq e1) r1 fun Λ2 s2 _ _ σ2 e2 p2 _ r2=>QF (q Λ2 s2 .YE .YE σ2 (Ye e2) p2 QA r2))
 | QM =>
  rw [QY QA,arm_evalThenUse_ListComp]
  obtain (⟨h1,h2,h3⟩):=h
  have ha:firstAsync (g::gs)=QJ:=by
   have:=((Et h2).2.2.2 g (.Zf _)).1
   cases g;simp only at this;subst this;rfl
  have hi:firstIter (g::gs) X1=Q2p Q6L X1:=by cases g;rfl
  rw [ha,hi]
  refine Q9 (Q9 (Hl (P:=fun v σ=>a0 tg v σ fun _ σ=>P .YE σ) hA hf0 hin ok r h1 h2 h3 fun Λ5 s5 σ5 b Q78 L' e p hv k1 k2 k3 hm hR=>?_))
  have r5:Rel c fz Qo Λ5 σ5 s5:=hR s5.heap (Q5x _ _)
  refine ew1 hm fun m yq5u=>?_;obtain (⟨o,es,ep,hL',hrest⟩):=yq5u
  have rH:=r5.hold (own:=[L']) (fun b hb=>by rw [Qe hb];exact k1) (fun hm=>k2 (Qe hm)) (fun l hl hm=>k3 l hl (Qe hm))
  refine ha0 tg b Q78 Λ5 σ5 _ hv p _ _ _ _ (Yq e) rH fun Λ6 s6 _ _ σ6 e6 p6 _ r6=>?_
  obtain (⟨r7,hk7,hd7⟩):=r6.free Q9Z (fun b hb=>by rw [Qe hb];exact k1) (fun b hb=>by rw [Qe hb];exact ⟨o,hL'⟩)
  refine ⟨m,⟨o,es,ep,hk7 L' (.Zf _) o hL',hrest⟩,fun h' hs=>QF (QF ?_)⟩
  refine q Λ6 _ .YE .YE σ6 (QBv e6) p6 QA ?_
  exact r7.growOwn (own:=[L']) (tk:=s6.toks) (dr:=s6.drawn) (fun b hb=>by rw [Qe hb];exact k1) (fun hm=>k2 (Qe hm)) hd7 fun b o hb eb=>(hs.2 b (fun q=>hb (by rw [q];exact .Zf _))).QR eb
end
end
end Mini
end
section
open PySem PySem.W PySem.Calls PyProof.Rows
namespace Mini
mutual
theorem Ik (es:QC (QH×QH×QH)) (f:QH->Qq):TriplesOk (Q9M fun e=>[Zp e.1,Zp e.2.1,.QQ (f e.2.2)]):=by
 induction es with
 | Zo=>trivial
 | Xx e r ih=>exact ih
theorem Lj (XJ:Pos) (es:QC (QH×QH×QH)) (f:QH->Qq):QE9 XJ (Q9M fun e=>[Zp e.1,Zp e.2.1,.QQ (f e.2.2)])=(AG XJ es).map fun l=>.QQ (f l):=by
 induction es with
 | Zo=>rfl
 | Xx e r ih =>
  rw [Q0V]
  show QE9 XJ (.Qm e.1 0::.Qm e.2.1 0::.QQ (f e.2.2)::_)=_
  show (if _ then _ else QE9 XJ _)=Q9L _ (if _ then _ else AG XJ r)
  split
  ·rfl
  ·exact ih
theorem Jp {XJ:Pos} {n lc:QH} {es:QC (QH×QH×QH)}:(∀e∈es,e.2.2 < n)->AG XJ es=QB lc->lc < n:=by
 induction es with
 | Zo=>exact fun _ h=>nomatch h
 | Xx e r ih =>
  intro hes hf
  have hf:(if ((e.1:X4) == Q0z&&(e.2.1:X4) == Q59)=QM then QB e.2.2 else AG XJ r)=QB lc:=hf
  split at hf
  ·exact X2 hf▸hes e (.Zf _)
  ·exact ih (fun x hx=>hes x (.Q38 _ hx)) hf
end
section
variable {c:Cx} {A:Around} {env:Env} {fm:Fm} {Λ:Lab} {σ:St}
mutual
theorem Rel.gl_ne {fz:Qq->QW ZG} {L:Qq} {s:QZ} (hc:Q3S) (r:Rel c fz L Λ σ s) {a:Qq} {ps:XP QI} (h:Qc a=QB (QCH ps)):Q3e≠a/\Q6p≠a:=by
 have hg:=QCu Q0K
 have hb:=hc.top.b.keeps Q0K
 constructor
 ·intro q
  obtain (⟨o,es,ep,e,hd,_⟩):=hg
  rw [q,h]at e;cases e;cases hd
 ·intro q
  obtain (⟨o,es,ep,e,hd,_⟩):=hb
  rw [q,h]at e;cases e;cases hd
theorem Uz {Xc:Q5C} {Yf:Qf} {Qv:Q0M} {XJ:Pos} {P:QU->St->Prop} (hc:Q3S) (h:TS c.K fm Xc Yf Qv XJ σ P):Zt c A X1 fm Λ (Q2p (.Lambda Xc Yf Qv XJ) X1) VR σ P:=by
 obtain (⟨⟨hd0,hk0,hfr⟩,c0,Pt,l,es,hcd,htb,hH,hl,h⟩):=h
 refine Zq fun fz s ok r Q E q=>?_
 rw [arm_eval_Lambda]
 have hcl:closureFor Qv X1=ZX []:=closureFor_none fun x hx=>by simpa using Q1b hfr x hx
 obtain (⟨hl1,hl2⟩):=ok.tb Pt l htb
 have hX:=ZR Q0K
 have hC:=hH.hd hX
 refine ew1 (Q3C l hl1) fun o yq5v=>?_;refine an2 yq5v fun ho hor=>?_;clear yq5v
 rw [hl]at hor
 obtain (⟨hes,QA⟩):=hor
 rw [hl2]at ho
 have hTri:=Ik es Xs
 have hAm:=Lj XJ es Xs
 obtain (⟨gm,gb⟩):=r.gl_ne hc ho
 have hg:QAl Q3e c.mg:=QCu Q0K
 refine ew2 hc.bmain fun bm ob yq5w=>?_;refine an6 yq5w fun b1 b2 b3 b4 b5 b6=>?_;clear yq5w
 have hbP:bm≠Pt:=fun q=>by
  have e:=Q0K _ _ b3
  rw [q,ho]at e;cases e;cases b4
 have hbG:bm≠Q3e:=fun q=>by
  obtain (⟨o,es,ep,e,hd,_⟩):=hc.top.g
  rw [q,e]at b3;cases b3;rw [hd]at b6;cases b6
 have hB:s.heap.BuiltinsAt c.mg Pt:=⟨bm,ob,b1,b2,hbG,hbP,Q0K _ _ b3,b4,b5,b6⟩
 have hdef:defaultsOf Xc X1=([],[]):=by
  obtain (⟨a1,a2,a3,a4,a5,a6,a7⟩):=Xc
  dsimp only at hd0 hk0
  subst hd0 hk0
  rfl
 rw [hdef]
 dsimp only
 refine Q9 (QF ?_)
 refine Q9 (Xa (QF ?_))
 cases hf:AG XJ es with
 | QB lc =>
  rw [hf]at h hAm
  dsimp only at h
  refine kla_makeFunctionHit (cv:=.QQ (Xs lc)) hcl QHC hg (QGL hcd) hC ho hTri hAm hB fun ctv h' tk hk hsz=>?_
  have r1:Rel c fz Qo Λ σ {s with YO:=h',Q0T:=tk,Q3A:=Q1I}:=Q6H hk
  have hlc:lc < Xi:=Jp hes hf
  have e1:=XN Λ Q0h
  exact q _ _ (.QQ QO) _ _ e1 (h _ _ ctv) (Q1l _ QHX) (QA2 (tk:=tk) (o:=.lam (Dz Xc Yf Qv _ _ ctv) lc) ⟨QP hlc e1.1,by rw [e1.2 lc hlc];rfl⟩ QA)
 | QG =>
  rw [hf]at h hAm
  dsimp only at h
  refine kla_makeFunction hcl QHC hg (QGL hcd) hC ho hTri hAm gm hB fun c' ctv h' tk hx hge hlt hrec htb2=>?_
  obtain (⟨c2,oc,vs,t,ec,hoc,hod,hov⟩):=hrec
  cases ec
  have hcP:c'≠Pt:=Y8 (QP (X0 ho) hge)
  have e1:=XN Λ c'
  have hnl:∀k,k < Xi->Xs k≠c':=fun k hk q=>by
   refine ew1 (Q3C k hk) fun o yq5x=>?_;refine an2 yq5x fun h1 _=>?_;clear yq5x
   exact XF (X0 h1) (by rw [q];exact YW hge)
  have hfz:fz c'=QG:=by
   cases q:fz c' with
   | QG=>rfl
   | QB o=>exact XF (X0 (QEl _ _ q)) (YW hge)
  have hL:Qo < c':=QP QE4 hge
  have r0:Rel c fz Qo Λ (Yy l .any) {s with YO:=h',Q0T:=tk}:=QDl (tk:=tk) (by rw [<- Q3i];exact hl1) (fun b o hb e=>hx b o (by rw [<- hl2];exact hb) e) (by rw [hl2];exact htb2) ZQ
  have r1:=r0.label (o:=.raw oc) hoc (Y8 hL) hfz hL hnl QA
  have fs:(Z9 c').f QO=c':=QY r.nn.symm
  have hl3:l < (Z9 c').n:=QP hl1 e1.1
  have r2:=r1.view (l:=l) (o:=.tab (es++[(Q0z,Q59,QO)])) (co:=QCH ((Q9M fun e=>[Zp e.1,Zp e.2.1,.QQ (Xs e.2.2)]).Xe++#[Zp Q0z,Zp Q59,.QQ c'])) (by rw [<- QHX];exact hl3) (by rw [e1.2 l hl1,hl2];exact htb2) ⟨fun x hx=>by
   rcases Y4 hx with hx | hx
   ·exact QP (hes x hx) e1.1
   ·rw [Qe hx];show QO < Xi+1;rw [Q3i];exact Xu _,by
   rw [Q8t,Q0V,QBB,fs,B4 (l:=es) (f:=fun e=>[Zp e.1,Zp e.2.1,.QQ ((Z9 c').f e.2.2)]) (g:=fun e=>[Zp e.1,Zp e.2.1,.QQ (Xs e.2.2)]) fun x hx=>by rw [e1.2 _ (hes x hx)]]
   simp⟩
  have e2:=XN (Z9 c') Q0h
  have r3:=r2.push (tk:=tk) (o:=.lam (Dz Xc Yf Qv (Q6f++"<lambda>") ((c.mg "__name__").Q4m .QG) ctv) QO) (co:=kla_obj "<lambda>" (Q6f++"<lambda>") Xc Yf Qv [] ((c.mg "__name__").Q4m .QG) c' ctv) ⟨by show QO < Xi+1+1;rw [Q3i];exact Md,by
   rw [e2.2 QO (by show QO < Xi+1;rw [Q3i];exact Hq),fs];rfl⟩ QA
  have hnn:(Z9 c').n=QO+1:=by show Xi+1=_;rw [Q3i]
  have hst:((((Yy l .any).Q9A (.raw oc)).upd l (.tab (es++[(Q0z,Q59,QO)]))).Q9A (.lam (Dz Xc Yf Qv (Q6f++"<lambda>") ((c.mg "__name__").Q4m .QG) ctv) QO))=(((Yy l (.tab (es++[(Q0z,Q59,QO)]))).Q9A (.raw oc)).Q9A (.lam (Dz Xc Yf Qv (Q6f++"<lambda>") ((c.mg "__name__").Q4m .QG) ctv) QO)):=by
   unfold St.alloc St.upd
   congr 1
   funext k
   have hln:l≠QO:=Xv (by rw [<- Q3i];exact hl1)
   dsimp only
   split
   ·rfl
   ·by_cases hk:k=l
    ·subst hk;simp [hln]
    ·simp [hk]
  rw [hst]at r3
  refine q _ _ (.QQ (QO+1)) _ _ (Ye e2) (h oc _ _ _ ctv ⟨vs,t,hod,hov⟩) ?_ r3
  have:=Q1l (σ:=(Qw (.raw oc))) (Λ:=Z9 c') Q0h hnn
  exact this
end
end
end Mini
end
section
open PySem PySem.W PySem.Calls PyProof.Rows
set_option genInjectivity false
set_option genSizeOf false
namespace Mini
mutual
structure Snd (c:Cx) (A:Q2z) (X1:Env) (fm:Fm) (G:Pg) (YX:Av) (n:QH):Prop where
 ev:Bd c A X1 fm (ev G YX n fm)
 ts:GD c A X1 fm (tst G YX n fm)
 as:E5 c A X1 fm (asg G YX n fm)
 xs:LO c A X1 fm (exs G YX n fm)
 x1:age c A X1 fm (ex1 G YX n fm)
theorem GR {e:Qf} {f:QW Qf->QW Qf->QW Qf->Prop} {d:Prop}:ZH≠26->Ed e f d->Cf e=QJ/\d:=by
 apply @Q1M (fun e=>ZH≠26->Ed e f d->Cf e=QJ/\d) e
 case QBY=>exact fun _ _ _ _ n=>XF QA n
 all_goals ((repeat intro a);exact ⟨QA,a⟩)
theorem Lh {C:Prop} {e:Qf} {f:QW Qf->QW Qf->QW Qf->Prop} {d:Prop} (h:Ed e f d) (k1:∀a b c p,e=.QBY a b c p->f a b c->C) (k2:Cf e=QJ->d->C):C :=
 if q:ZH=26 then Expr.Slice.elim (Q4f:=fun e=>Ed e f d->(∀a b c p,e=.QBY a b c p->f a b c->C)->C) e q (fun a b c p h k=>k a b c p QA h) h k1 else k2 (GR q h).1 (GR q h).2
theorem Ih {e:Qf} {f:Qf->X8->Pos->Prop} {d:Prop}:ZH≠20->Fg e f d->E9 e=QM/\d:=by
 apply @Q1M (fun e=>ZH≠20->Fg e f d->E9 e=QM/\d) e
 case Q1u=>exact fun _ _ _ n=>XF QA n
 all_goals ((repeat intro a);exact ⟨QA,a⟩)
theorem Mp {C:Prop} {e:Qf} {f:Qf->X8->Pos->Prop} {d:Prop} (h:Fg e f d) (k1:∀a b c,e=.Q1u a b c->f a b c->C) (k2:E9 e=QM->d->C):C :=
 if q:ZH=20 then Expr.Attribute.elim (Q4f:=fun e=>Fg e f d->(∀a b c,e=.Q1u a b c->f a b c->C)->C) e q (fun a b c h k=>k a b c QA h) h k1 else k2 (Ih q h).1 (Ih q h).2
theorem Mk {e:Qf} {f:X8->Pos->Prop} {d:Prop}:ZH≠23->B9 e f d->d:=by
 apply @Q1M (fun e=>ZH≠23->B9 e f d->d) e
 case Q0y=>exact fun _ _ n=>XF QA n
 all_goals ((repeat intro a);exact a)
theorem Mm {C:Prop} {e:Qf} {f:X8->Pos->Prop} (h:B9 e f Yn) (k1:∀a b,e=.Q0y a b->f a b->C):C :=
 if q:ZH=23 then QCm (Q4f:=fun e=>B9 e f Yn->(∀a b,e=.Q0y a b->f a b->C)->C) e q (fun a b h k=>k a b QA h) h k1 else (Mk q h).Q2m
theorem Ow {e:Qf} {f:Qf->Qf->Prop} {d:Prop}:ZH≠21->Mi e f d->d:=by
 apply @Q1M (fun e=>ZH≠21->Mi e f d->d) e
 case Q2K=>exact fun _ _ _ n=>XF QA n
 all_goals ((repeat intro a);exact a)
theorem Ox {C:Prop} {e:Qf} {f:Qf->Qf->Prop} (h:Mi e f Yn) (k1:∀a b p,e=.Q2K a b p->f a b->C):C :=
 if q:ZH=21 then Expr.Subscript.elim (Q4f:=fun e=>Mi e f Yn->(∀a b p,e=.Q2K a b p->f a b->C)->C) e q (fun a b p h k=>k a b p QA h) h k1 else (Ow q h).Q2m
theorem Tp {e:Qf} {f:Qf->QC Qx->Q0M->Prop} {d:Prop}:ZH≠8->xLC e f d->d:=by
 apply @Q1M (fun e=>ZH≠8->xLC e f d->d) e
 case ZF=>exact fun _ _ _ _ n=>XF QA n
 all_goals ((repeat intro a);exact a)
theorem Tq {C:Prop} {e:Qf} {f:Qf->QC Qx->Q0M->Prop} {d:Prop} (h:xLC e f d) (k1:∀a b c p,e=.ZF a b c p->f a b c->C) (k2:d->C):C :=
 if q:ZH=8 then Expr.ListComp.elim (Q4f:=fun e=>xLC e f d->(∀a b c p,e=.ZF a b c p->f a b c->C)->C) e q (fun a b c p h k=>k a b c p QA h) h k1 else k2 (Tp q h)
end
section
variable {c:Cx} {A:Around} {G:Pg} {cal:Av}
theorem S5 (hc:c.Ok) (hA:AOk A) (hK:G.K=c.K) (hg:GlOk c G.gl) (hcal:∀env fm fv Λ σ P vs as x,VR Λ fv x->VRs Λ vs as->cal fv vs σ P->Sim c A env fm Λ (call x as) VR σ P):∀n env fm,Snd c A env fm G cal n:=by
 obtain (⟨K,gl⟩):=G
 have hK:K=c.K:=hK
 subst hK
 intro n
 induction n with
 | zero =>
  intro env fm
  exact {ev:=fun e Λ σ P h=>h.elim,ts:=fun e Λ σ P h=>h.elim,as:=fun e v x Λ σ P hv h=>h.elim,xs:=fun e Λ σ P h=>h.elim,x1:=fun e Λ σ P h=>h.elim}
 | succ n IHA =>
  intro env fm
  have IH:=IHA env fm
  have hcal:=hcal env fm
  refine {ev:=fun e Λ σ P h=>?_,ts:=fun e Λ σ P h=>?_,as:=fun e v x Λ σ P hv h=>?_,xs:=fun e Λ σ P h=>?_,x1:=fun e Λ σ P h=>?_}
  ·cases e
   case Constant=>exact Oi h
   case Name=>exact PC hc hg h.1 h.2.1 h.2.2
   case BinOp=>exact UB IH.ev h
   case IfExp=>exact Og IH.ev IH.ts h
   case Compare l ops rs p =>
    rcases ops with _ | ⟨op,_ | ⟨o2,ops⟩⟩
    ·exact h.elim
    ·rcases rs with _ | ⟨r,_ | ⟨r2,rs⟩⟩
     ·exact h.elim
     ·exact UA hA IH.ev h.1 h.2
     ·exact h.elim
    ·exact h.elim
   case Tuple=>exact Oe IH.ev h.1 h.2
   case List=>exact PE IH.ev h.1 h.2
   case Dict ks vs p =>
    cases ks
    ·cases vs
     ·exact Oh h
     ·exact h.elim
    ·exact h.elim
   case Lambda=>exact Uz hc h
   case ListComp elt gs sc p =>
    cases gs
    ·exact h.elim
    ·obtain (⟨cl,h⟩):=h
     exact K9 hA IH.ev (fun cenv=>⟨(IHA cenv _).ev,(IHA cenv _).ts,(IHA cenv _).as⟩) h
   case Subscript v i p =>
    refine Lh (e:=i) h (fun lo hi st q e h=>?_) fun _ h=>PF IH.ev h.1 h.2
    subst e;exact Of IH.ev h
   case Attribute=>exact PH hc IH.ev h.1 h.2
   case Call f args kw p =>
    cases kw
    ·refine Mp (e:=f) h (fun o name apos e h=>?_) fun e h=>PG hc IH.ev e hcal h.1 h.2
     subst e;exact PD hc IH.ev hcal h.1 h.2
    ·exact h.elim
   all_goals exact h.elim
  ·cases e
   case UnaryOp op x p =>
    cases op
    case Not=>exact UD IH.ts h
    all_goals exact h.elim
   case BoolOp=>rw [arm_isTrue_BoolOp];exact Kb IH.ts h
   case Compare l ops rs p =>
    rcases ops with _ | ⟨op,_ | ⟨o2,ops⟩⟩
    ·exact h.elim
    ·rcases rs with _ | ⟨r,_ | ⟨r2,rs⟩⟩
     ·exact h.elim
     ·exact UE hc hA IH.ev h.1 h.2
     ·exact h.elim
    ·exact h.elim
   case Name=>exact D7 hc IH.ev rfl h
   case Call=>exact D7 hc IH.ev rfl h
   case Attribute=>exact D7 hc IH.ev rfl h
   case Constant=>exact D7 hc IH.ev rfl h
   all_goals exact h.elim
  ·cases e
   case Name=>exact PI hv h
   case Tuple=>exact Ol hc hA IH.as h.1 hv h.2
   case Attribute=>exact PJ hc IH.ev hv h
   case Subscript=>exact UF IH.ev hv h
   all_goals exact h.elim
  ·cases e
   ·rw [arm_execs_nil];exact Sim.pure (b:=Fl.next) h rfl
   ·exact Uw IH.x1 IH.xs h
  ·cases e
   case Expr=>exact PA IH.ev h.1 h.2
   case Pass=>rw [arm_exec_Pass];exact Sim.stand (Sim.pure (b:=Fl.next) h rfl)
   case Break=>rw [arm_exec_Break];exact Sim.stand (Sim.pure (b:=Fl.brk) h rfl)
   case Continue=>rw [arm_exec_Continue];exact Sim.stand (Sim.pure (b:=Fl.cont) h rfl)
   case Return v p =>
    rw [arm_exec_Return]
    cases v
    ·exact Sim.stand (Sim.pure (b:=Fl.ret .none) h ⟨_,rfl,rfl⟩)
    ·exact Sim.stand (Sim.bind (IH.ev _ Λ σ _ h) fun Λ1 d z σ1 e1 p1 hx=>Sim.pure (b:=Fl.ret d) p1 ⟨_,rfl,hx⟩)
   case Assign ts e p =>
    rcases ts with _ | ⟨t,_ | ⟨t2,r⟩⟩
    ·exact Do hc hA IH.ev IH.as h.1 h.2
    ·refine Tq (e:=e) h (fun elt gs sc q e h=>?_) fun h=>Do hc hA IH.ev IH.as h.1 h.2
     subst e
     cases gs
     ·exact Do hc hA IH.ev IH.as h.1 h.2
     ·obtain (⟨hst,cl,h⟩):=h
      exact PB hA IH.ev IH.as (fun cenv=>⟨(IHA cenv _).ev,(IHA cenv _).ts,(IHA cenv _).as⟩) hst h
    ·exact Do hc hA IH.ev IH.as h.1 h.2
   case AugAssign t op e p =>
    refine Mm (e:=t) h fun x q e h=>?_
    subst e;exact Uy hc hg IH.ev h.1 h.2
   case If=>exact aga IH.ts IH.xs h
   case While t b o p =>
    cases o
    ·obtain (⟨k,h⟩):=h;exact Od IH.ts IH.xs h
    ·exact h.elim
   case For t it b o p =>
    cases o
    ·replace h:IJ gl fm (Mini.ev ⟨c.K,gl⟩ cal n fm) it σ fun src σ=>Gl (asg ⟨c.K,gl⟩ cal n fm t) (exs ⟨c.K,gl⟩ cal n fm b) t src σ P:=h
     unfold IJ at h
     generalize e:Dl it=k at h
     cases k with
     | none=>exact Ka hA IH.ev IH.as IH.xs h.1 h.2
     | some x =>
      obtain (⟨p1,p2,e2⟩):=JV e
      subst e2
      exact Jk hc hg hA IH.ev IH.as IH.xs rfl h.1 h.2
    ·exact h.elim
   case Delete ts p =>
    rcases ts with _ | ⟨t,_ | ⟨t2,r⟩⟩
    ·exact h.elim
    ·refine Ox (e:=t) h fun a b q e h=>?_
     subst e;exact Ux IH.ev h
    ·exact h.elim
   all_goals exact h.elim
end
end Mini
end
section
open PySem PySem.W PySem.Calls PyProof.Rows
set_option genInjectivity false
set_option genSizeOf false
namespace Mini
mutual
structure Q8u (d:QH) (A:Q2z):Prop where
 handled:Q4N=QG
 units:Q8Z+200+10*d < QDo
 Q0q:QF1+10+2*d < Q5Y
theorem Room.aok {d:QH} {A:Q2z} (h:Q8u d A):AOk A:=⟨QEA,by have:=QHa;exact aem this,by have:=QHb;exact ael this⟩
theorem Room.deeper {d:QH} {A:Q2z} (h:Q8u (d+1) A) (X1:Env):Q8u d (A.deeper X1):=⟨QEA,by have:=QHa;show Q8Z+3+200+10*d < QDo;exact aek this,by have:=QHb;show QF1+1+10+2*d < Q5Y;exact SO this⟩
theorem Room.mono {d:QH} {A:Q2z} (h:Q8u (d+1) A):Q8u d A:=⟨QEA,by have:=QHa;exact aej this,by have:=QHb;exact SN this⟩
def St.frame (σ:St) (bs:QC (X8×QU)):St:={σ with loc:=fun x=>bs.reverse.lookup x}
def Fa (sc:Q0M):Qu:=sc.names.all fun x=>x.2 != .YV
def D9 (sc:Q0M) (xs:QC X8):Qu:=xs.all fun x=>Q19 x == QB .Q63
def pFn (G:Pg) (rec:Av) (a:Qq) (Xc:QC QU):PT QU:=fun σ P =>
 ∃fd Yf xs dv n,Q8E G.K a fd Yf xs dv/\Q4i=Qn/\Fa Q1O=QM/\D9 Q1O (xs++QB8 (·.1))=QM /\
  exs G rec n ⟨Q1O,[],QAM,QG⟩ Yf (σ.frame (AK xs Xc dv)) fun fl XH=>P (Lo fl) {XH with loc:=Xy}
end
section
variable {c:Cx} {A:Around} {env:Env} {fm:Fm} {Λ:Lab} {σ:St} {G:Pg} {rec:Av}
mutual
def Bz (c:Cx) (A:Q2z) (L:Qq) (Λ:Lab) (f:QI) (as:QC QI) (σ:St) (P:QU->St->Prop):Prop :=
 ∀fz s (R:Q87->QZ->Prop),Rel c fz L Λ σ s->(∀Zd s' b a XH,Q0C Zd->P b XH->VR Zd b a->Rel c fz L Zd XH s'->R (.ok (.ret a)) s')->Q1L (Qi XK c.w) A (.Q0Q f ⟨as,[]⟩) R s
theorem Bz.sim {f:QI} {as:QC QI} {P:QU->St->Prop} (h:Bz c A Qo Λ f as σ P):Zt c A X1 fm Λ (Q0Q f as) VR σ P :=
 fun fz s Q E ok r q=>Q26 (h fz s _ r fun Zd s' b a XH e p hv r'=>q Zd s' b a XH e p hv r')
theorem Fc (hc:Q3S) (hK:G.K=c.K) (QFt:QF1 < Q5Y) {L:Qq} {a:Qq} {Xc:QC QU} {as:QC QI} {P:QU->St->Prop}
  (S:∀Q2V fm' n,Snd c (A.deeper Q2V) Q2V fm' G rec n) (ha:VRs Λ Xc as) (h:pFn G rec a Xc σ P):Bz c A L Λ (.QQ a) as σ P:=fun fz s Q r q=>by
 obtain (⟨fd,Yf,xs,dv,n,F,Q2Y,hnc,hal,h⟩):=h
 rw [hK]at F
 have X:=ZR Q0K
 refine ew3 F.at' fun oc od osl hat=>?_
 refine Q7c (fd:=fd) (Yf:=Yf) QFt (X _ _ hat) QA F.co F.gen F.body (codeRec_of X F.code) ?_
 refine kp_binds X (fun S=>F.bind S as (by rw [<- QEB];exact Q2Y)) _ _ _ _ ?_
 refine Q8H (fun x hx=>?_) (fun x hx=>?_) (fun h' hn hs=>?_) F.kd
 ·have:=Q1b hnc x hx
  simpa using this
 ·have hall:=Q1b hal
  have hm:x.1∈xs++QB8 (·.1):=by
   rcases Y4 hx with hx | hx
   ·exact Q34 (.inl (QBo hx).1)
   ·exact Q34 (.inr (Q0G ⟨x,hx,QA⟩))
  simpa using hall _ hm
 ·have hk:∀b o,Qc b=QB o->ZB b=QB o:=fun b o e=>(hs.2 b (Xv (X0 e))).QR (Qa _ e)
  have hbr:BR Λ (AK xs Xc dv) (Q9f as++dv):=(QGs ha).Q7z (QGt dv)
  have r':Rel c (fzN Λ QV) QD Λ (σ.frame (AK xs Xc dv)) {s with YO:=h',Q0T:=Y6+(Q9f as++dv).ZT}:=r.enter QA QA hk (Qh _) hn fun x=>hbr.rev.lookup x
  refine ⟨(Q8I Q0K).keeps hk,QF2 ?_⟩
  refine (S _ ⟨Q1O,[],QAM,QG⟩ n).xs Yf Λ _ _ h (fzN Λ QV) _ _ _ ⟨QA,F.gl,F.bl,F.kd,fun x l hl=>by simp at hl,QA,fun P l hl=>by cases hl⟩ r' ?_
  intro Λ2 s2 fl f σ2 e2 p2 hf r2
  refine q Λ2 s2 (Lo fl) _ _ e2 p2 ?_ (r.leave r2 e2)
  cases fl with
  | YE=>cases hf;rfl
  | brk=>cases hf;rfl
  | QAy=>cases hf;rfl
  | ret v=>obtain (⟨cv,QA,hv⟩):=hf;exact hv
end
end
end Mini
end
section
open PySem PySem.W PySem.Calls PyProof.Rows
namespace Mini
noncomputable def pTy (T:String) (args:List Val):PT Val:=fun σ P =>
 if T="range" then (on1 args fun a=>Bi a fun n=>P (.ref σ.nx) (σ.alloc (.range 0 n 1)))\/(on2 args fun a b=>Bi a fun a=>Bi b fun b=>P (.ref σ.nx) (σ.alloc (.range a b 1)))
 else if T="set" then on0 args (P (.ref σ.nx) (σ.alloc (.set [])))
 else if T="list" then on1 args fun a=>Ai a fun l=>By (σ.hp l) fun a b k=>Builtin.Range.small a b k=true/\0<=Builtin.Range.rangeSize a b k/\(Ay a b k).length<=2 ^ 24/\P (.ref σ.nx) (σ.alloc (.list ((Ay a b k).map .int)))
 else False
section
variable {c:Cx} {A:Around} {env:Env} {fm:Fm} {Λ:Lab} {σ:St}
mutual
theorem QF3 {Λ:Lab} {a k:X4}:∀(n:QH) (acc:QC QI) (st:QH),acc.length=n->(∀(j:QH) v,acc[j]?=QB v->∃t,v=.Qm (a+((st+j:QH):X4)*k) t)->VRs Λ (((List.range' st n).map fun (i:QH)=>a+(i:X4)*k).map .Qm) acc
 | n,acc,st,h,hv=>by
  induction n generalizing acc st with
  | Q1x=>rw [Zx h];exact .Zo
  | Q1y n ih =>
   obtain (⟨v,acc,QA,h2⟩):=ls1 h
   rw [List.range'_succ,XV,XV]
   obtain (⟨t,e⟩):=hv 0 v QA
   refine .Xx ⟨t,by simpa using e⟩ (ih acc (st+1) h2 fun j w hw=>?_)
   obtain (⟨t,e⟩):=hv (j+1) w (by simpa using hw)
   exact ⟨t,by rw [e];congr 3;omega⟩
theorem Tw {T:XC} {Xc:QC QU} {as:QC QI} {P:QU->St->Prop} (hA:AOk A) (ha:VRs Λ Xc as) (h:pTy T Xc σ P):Zt c A X1 fm Λ (Q0Q (.Qk T) as) VR σ P:=by
 injections c A X1 fm Λ σ T Xc as P _ _ _
 refine Q0g h ?_ ?_
 ·intros e k
  subst e
  refine k.elim ?_ ?_
  ·intros h;refine Q71 ha h ?_;intros v a h1 h;refine QBT h ?_;intros n ev h
   subst ev
   obtain ⟨t,QA⟩:=h1
   exact fun fz s Q E ok r q=>call_range_1 (q _ _ _ _ _ (XN _ _) h (Q1l _ Q3i) (Q9P (tk:=Y6+1+1) ⟨_,_,_,QA⟩ QA))
  intros h;refine QCb ha h ?_;intros v u a b h1 h2 h;refine QBT h ?_;intros n ev h;refine QBT h ?_;intros m eu h
  ·subst ev eu
   obtain ⟨t,QA⟩:=h1
   obtain ⟨u,QA⟩:=h2
   exact fun fz s Q E ok r q=>call_range_2 (q _ _ _ _ _ (XN _ _) h (Q1l _ Q3i) (Q9P (tk:=Y6+1) ⟨_,_,_,QA⟩ QA))
 intros h;refine Q0g h ?_ ?_
 ·intros e k
  subst e
  refine on0.el ha k ?_;intros h;refine fun fz s Q E ok r q=>Jg ?_
  exact q _ _ _ _ _ (XN _ _) h (Q1l _ Q3i) (Q9P (tk:=Y6) ⟨.Zo,#[],0,_,⟨QA,QA,QA⟩,QA,fun e he=>by simp at he,fun k=>by simp,by decide,by rfl,QA,JT⟩ QA)
 intros h;refine Q0g h ?_ fun h=>Qy
 ·intros e k
  ··subst e
    ··refine Q71 ha k ?_;intros v x g1 h;refine Q1Y h ?_;intros l ev h;subst ev
      refine By.el h ?_;intros a b k hl h
      obtain ⟨h1,h2,h3,h4⟩:=h
      refine fun fz s Q E ok r q=>?_
      obtain ⟨o,ho,hor⟩:=(Q3C l g1.1)
      rw [hl]at hor
      obtain ⟨t1,t2,t3,QA⟩:=hor
      have hn:XI a b k=((XI a b k).Q1Z:X4):=(Q31 h2).Q37
      have Q2Y:(Ay a b k).ZT=(XI a b k).Q1Z:=by simp [Ay]
      rw [g1.2]
      refine call_list_range Q0c ho h1 hn (by rw [<- Q2Y];exact h3) ?_;intros h' tk acc c' hk hS QBn
      have r2:Rel c fz Qo Λ σ {s with YO:=h',Q0T:=tk,Q3A:=Q1I}:=Q6H hk
      have ext:=XN Λ QD
      refine q (Z9 QD) _ (.QQ QO) _ _ ext h4 (Q1l _ Q3i) ?_
      refine r2.label hS (Y8 QE4) Q5F QE4 ?_ ⟨Q4J,c',by simp [Q4e],?_⟩
      ·intros l' hl' q
       obtain ⟨o,ho,_⟩:=(Q3C l' hl')
       exact XF (X0 ho) (by rw [q];exact XO _)
      ·have:=QF3 (Λ:=Z9 QD) (a:=a) (k:=k) (XI a b k).Q1Z Q4J 0 (by simpa using QBn.1) fun j v hv=>by
        obtain (⟨t,e⟩):=QBn.2 j v (by simpa using hv)
        exact ⟨t,by rw [e];simp⟩
       unfold Ay
       rw [List.range_eq_range']
       exact this
end
end
end Mini
end
section
open PySem PySem.W PySem.Calls PyProof.Rows
namespace Mini
noncomputable def TQ (G:Pg) (rec:Av) (C:Addr) (args:List Val):PT Val:=fun σ P =>
 ∃fI,makesIn G.K C=true/\findIn G.K (.ref C) "__init__"=some (some (.ref fI))/\typeIn G.K (.ref fI)=some (.type "function") /\
  pFn G rec fI (.ref (σ.nx+1)::args) ((σ.alloc (.idict [])).alloc (.inst C σ.nx)) fun v σ'=>v=.none/\P (.ref (σ.nx+1)) σ'
section
variable {c:Cx} {A:Around} {env:Env} {fm:Fm} {Λ:Lab} {σ:St} {G:Pg} {rec:Av}
theorem NS (hc:c.Ok) (hK:G.K=c.K) {d:Nat} (hA:Room (d+1) A) {L:Addr} {C:Addr} {args:List Val} {as:List Value} {P:Val->St->Prop}
  (S:∀A' env' fm' n,Room d A'->Snd c A' env' fm' G rec n) (ha:VRs Λ args as) (h:TQ G rec C args σ P):Bz c A L Λ (.ref C) as σ P:=fun fz s R r q=>by
 obtain (⟨fI,hm,hi,hf,h⟩):=h
 rw [hK]at hm hi hf
 have X:=hc.inK.keeps r.gkeep
 have e1:=Lab.push_ext Λ s.heap.objs.size
 have r1:Rel c fz L (Λ.push s.heap.objs.size) (σ.alloc (.idict [])) {s with heap:=s.heap.push (dictOf [] 0),toks:=s.toks}:=r.push ⟨[],rfl,trivial⟩ rfl
 have hsz:(s.heap.push (dictOf [] 0)).objs.size=s.heap.objs.size+1:=Heap.size_push ..
 have e2:=Lab.push_ext (Λ.push s.heap.objs.size) (s.heap.push (dictOf [] 0)).objs.size
 have r2:=r1.push (tk:=s.toks) (o:=.inst C σ.nx) (co:=instObj C s.heap.objs.size) ⟨by show σ.nx < Λ.n+1+1;rw [r.nn];exact Md,by
  rw [e2.2 σ.nx (by show σ.nx < Λ.n+1;rw [r.nn];exact Hq)]
  show _=instObj C (if σ.nx=Λ.n then _ else _)
  rw [if_pos r.nn.symm]⟩ rfl
 have hx:VR ((Λ.push s.heap.objs.size).push (s.heap.push (dictOf [] 0)).objs.size) (.ref (σ.nx+1)) (.ref (s.heap.objs.size+1)):=by
  have:=VR.new (σ:=σ.alloc (.idict [])) (Λ:=Λ.push s.heap.objs.size) (s.heap.push (dictOf [] 0)).objs.size r1.nn
  rw [hsz]at this
  rw [hsz]
  exact this
 obtain (⟨hh,g,dr,t,os⟩):=s
 refine make_core (makes_of X hm) (looks_findIn X hi) (fun self=>bind_fn X self hf) (.inl rfl) ?_
 have hA':Room d ((A.under (.builtin "type.__call__" ⟨.ref C::as,[]⟩))):=⟨hA.handled,by
  have:=hA.units
  exact aeh this,by
  have:=hA.depth
  exact SO this⟩
 have hA2:∀env',Room d ((A.under (.builtin "type.__call__" ⟨.ref C::as,[]⟩)).deeper env'):=fun env'=>⟨hA.handled,by
  have:=hA.units
  exact SM this,by
  have:=hA.depth
  exact SL this⟩
 refine Fc hc hK (by have:=hA'.depth;exact aeg this) (fun env' fm' n=>S _ env' fm' n (hA2 env')) (.cons hx ((ha.ext e1).ext e2)) h fz _ _ r2 ?_
 intro Λ3 s3 b a σ3 e3 p3 hv r3
 obtain (⟨rfl,p3⟩):=p3
 cases hv
 exact ⟨rfl,q Λ3 s3 _ _ σ3 ((e1.trans e2).trans e3) p3 (hx.ext e3) r3⟩
end
end Mini
end
section
open PySem PySem.W PySem.Calls PyProof.Rows
set_option genInjectivity false
set_option genSizeOf false
namespace Mini
structure TupK (K:Frag) (C p fN:Addr) (mc:Value):Prop where
 obj:∃oc od cd sl,K.lookup C=some ⟨oc,od,.cls cd,sl⟩/\cd.hasDel=false
 call:∀S,peek K S (specialOf (.ref C) "__call__")=some (some (.builtin "type.__call__"))
 typ:∀S,peek K S (isInstance (.ref C) (.type "type"))=some true
 mro:∃m,m.isEmpty=false/\∀S,peek K S (mroOf (.ref C))=some m
 made:∀S,peek K S (Bind.madeBy (.ref C))=some none
 here:∀S,peek K S (Bind.madeHere "tuple.__new__" (.ref C))=some ()
 isT:∀S,peek K S (isType (.ref C))=some true
 sub:∀S,peek K S (isSubtype (.ref C) (.type "tuple"))=some true
 self:∀S,peek K S (isSubtype (.ref C) (.ref C))=some true
 top:∀S,peek K S (isSubtype (.ref C) (.type "object"))=some true
 init:∀S,peek K S (typeLookup (.ref C) "__init__")=some (some (.builtin "object.__init__"))
 check:∀S t,peek K S (checkBuiltinCall "tuple.__new__" ⟨[.ref C,.ref t],[]⟩)=some ()
 reads:readsIn K C mc=true
 new:findCls K (.ref C) mc "__new__"=some (.get (.builtin "staticmethod.__get__") (.ref p) .none (.ref C))
 sm:recIn K p "staticmethod"=some [.ref fN]
section
variable {prog:Program} {w:World} {A:Around} {K:Frag} {C p fN:Addr} {mc:Value} {s:Shared} {R:Result->Shared->Prop}
theorem Ij (T:TupK K C p fN mc) (X:K.In s.heap) {t:Addr} {items:Array Value} {o:Obj} {U:String} {n:Nat} (hU:U="list"\/U="tuple") (ho:s.heap.get? t=some o) (hc:o.cls=.type U) (hd:o.data=.seq items n) (hsz:items.size<=sizeLine)
  (hR:∀h':Heap,(∀b o',s.heap.get? b=some o'->h'.get? b=some o')->R (.ok (.ret (.ref (h'.objs.size+1)))) {s with heap:=(h'.push emptyDict).push {cls:=.ref C,dict:=some h'.objs.size,data:=.seq items}}) :
  codeAny (model prog w) A (.call (.builtin "tuple.__new__") ⟨[.ref C,.ref t],[]⟩) R s:=by
 injections prog w A K C p fN mc s R _ _ t items o U n _ _ _ _ _ _
 refine codeAny_call_builtin_at (Code.quiet_builtin _ (by decide +kernel)) F.entry_tuple_new ((Looks.of_peek X (T.check _ t)).here ?_)
 unfold Builtin.«tuple.__new__»
 have l1:Looks (model prog w) s.heap (isType (.ref C)) true:=Looks.of_peek X (T.isT _)
 have l2:Looks (model prog w) s.heap (isSubtype (.ref C) (.type "tuple")) true:=Looks.of_peek X (T.sub _)
 have l3:Looks (model prog w) s.heap (Bind.madeHere "tuple.__new__" (.ref C)) ():=Looks.of_peek X (T.here _)
 have l4:Looks (model prog w) s.heap (typeLookup (.ref C) "__init__") (some (.builtin "object.__init__")):=Looks.of_peek X (T.init _)
 dsimp only
 refine wpAny_bind (l1.here ?_)
 simp only [Bool.not_true,Bool.false_eq_true,if_false]
 refine wpAny_bind (l2.here ?_)
 simp only [Bool.not_true,Bool.false_eq_true,if_false]
 refine wpAny_bind (l3.here (wpAny_bind (l4.here ?_)))
 rw [if_pos (by decide +kernel),show noKeywords "tuple" {pos:=[Value.ref C,Value.ref t]}=pure () from rfl,show checkCount "tuple" 0 1 [Value.ref t].length=pure () from rfl]
 refine wpAny_bind (wpAny_pure (wpAny_bind (wpAny_pure ?_)))
 rw [if_neg (by rw [show (Value.ref C == Value.type "tuple")=false from rfl];exact Bool.false_ne_true)]
 refine wpAny_bind (wpAny_collect_seq t hU ho hc hd ?_ hsz);intros h' hk
 refine wpAny_bind (wpAny_pure (wpAny_bind (wpAny_alloc (wpAny_bind ?_))))
 obtain ⟨oc,od,cd,sl,hC,hdel⟩:=T.obj
 unfold newObj
 have e:items.toList.toArray=items:=by simp
 rw [e]
 dsimp only
 rw [if_neg (Nat.not_lt.mpr hsz)]
 unfold newObjAsIs classHasDel
 refine wpAny_bind (wpAny_alloc (wpAny_bind (wpAny_bind (wpAny_load (Heap.get?_push_of_some _ (Heap.get?_push_of_some _ (hk _ _ (X _ _ hC)))) (wpAny_pure ?_)))))
 dsimp only
 rw [hdel]
 refine wpAny_pure (wpAny_pure ?_)
 have:=hR h' hk
 rw [show (h'.push emptyDict).objs.size=h'.objs.size+1 from Heap.size_push ..]
 exact this
end
end Mini
end
section
open PySem PySem.W PySem.Calls PyProof.Rows
namespace Mini
section
variable {prog:Program} {w:World} {A:Around} {K:Frag} {C p fN:Addr} {mc:Value} {s:Shared} {R:Result->Shared->Prop}
mutual
theorem OA (T:TupK K C p fN mc) (X:QAw QV) {a:Qq} {o:ZG} (ho:Qc a=QB o) (hc:Q4w=.QQ C) {x y z:QI} (h:R (.ok (.ret .QG)) s) :
  Q1L (Qi XE w) A (.Q0Q (.Qd "object.__init__") ⟨[.QQ a,x,y,z],[]⟩) R s:=by
 injections XE w A K C p fN mc s R _ _ a o _ _ x y z _
 have tt:ZO (Qi XE w) QV (Q16 (.QQ a)) (.QQ C):=by
  have:ZO (Qi XE w) QV (Q16 (.QQ a)) Q4w:=(Q1m ho).Q2q .now
  rw [hc]at this;exact this
 have l0:ZO (Qi XE w) QV (Zz (.QQ a) (.Qk "object")) QM:=Q70 (Q0r X (T.top _))
 refine Q6g (Q27 _ (by decide +XD)) entry_oi (@Q72 (Qi XE w) _ _ s "object.__init__" "object" "__init__" (.QQ a) [x,y,z] [] _ oi_kind oi_split l0 (F.initArgs_range_3 (.QQ a) x y z) ?_)
 unfold Builtin.«object.__init__»
 have l4:ZO (Qi XE w) QV (Q3V (.QQ C) "__init__") (QB (.Qd "object.__init__")):=Q0r X (T.init _)
 have l5:ZO (Qi XE w) QV (QGM (.QQ C)) QG:=Q0r X (T.made _)
 dsimp only
 simp only [List.isEmpty_cons,Q8D,QAE,Q5u]
 refine Q9 (tt.here (Q9 (l4.here (Q9 (l5.here ?_)))))
 dsimp only
 rw [QN (by decide +XD),QN (by decide +XD)]
 exact QF h
theorem J0 (T:TupK K C p fN mc) (X:QAw QV) {x y z:QI}
  (h:Q1L (Qi XE w) (A.under (.Qd "type.__call__" ⟨[.QQ C,x,y,z],[]⟩)) (.Q0Q (.QQ fN) ⟨[.QQ C,x,y,z],[]⟩) (fun r s'=>match r with
   | .ok (.ret v)=>QAw Q4Z/\(∃a o,v=.QQ a/\Q3x a=QB o/\Q4w=.QQ C)/\R (.ok (.ret v)) s'
   | .ok _=>Yn
   | .Q83 e=>R (.Q83 e) s') {s with Q0T:=Y6+1}):Q1L (Qi XE w) A (.Q0Q (.QQ C) ⟨[x,y,z],[]⟩) R s:=by
 injections XE w A K C p fN mc s R _ _ x y z _
 obtain ⟨oc,od,cd,sl,hC,hdel⟩:=T.obj
 have Q0Q:ZO (Qi XE w) QV (Q1s (.QQ C) "__call__") (QB (.Qd "type.__call__")):=Q0r X (T.call _)
 have typ:ZO (Qi XE w) QV (Zz (.QQ C) (.Qk "type")) QM:=Q0r X (T.typ _)
 obtain ⟨m,hm0,hm⟩:=T.mro
 have lm:ZO (Qi XE w) QV (mroOf (.QQ C)) m:=Q0r X (hm _)
 have lb:ZO (Qi XE w) QV (QGM (.QQ C)) QG:=Q0r X (T.made _)
 refine Q2E ?_
 refine nd_load (X _ _ hC) ?_
 show Qp _ _ (QAQ (.QQ C) _) _ _ _
 unfold QAQ
 refine Q9 (call.at ?_)
 dsimp only
 rw [tc_bind]
 refine Q9 (QF (Q9 (QF ?_)))
 refine QF (a:=Fin.again (.Q0Q (.Qd "type.__call__") ⟨[.QQ C,x,y,z],[]⟩)) (QBA QA ?_)
 refine Q6g (Q27 _ (by decide +XD)) entry_typeCall (Q72 tc_kind tc_split typ (tc_args _ _ _) ?_)
 unfold Builtin.«type.__call__»
 dsimp only
 rw [QN (by rw [show (Q1k C == Q2a "type")=QJ from QA];exact Qj)]
 refine Q9 (lm.here ?_)
 rw [QN (by rw [hm0];exact Qj)]
 refine Q9 (lb.here ?_)
 refine Q9 (cls_bind X T.reads T.new (Q26 (sm_get X T.sm ?_)))
 refine QDv QA ?_
 refine Q9 (Xa (Q26 (QAD h ?_)));intros r s' z
 rcases r with e | (v | _ | _ | _) <;> first | exact z | exact z.elim | skip
 obtain ⟨X',⟨a,o,QA,ho,hc⟩,z⟩:=z
 have tt:ZO (Qi XE w) Q4Z (Q16 (.QQ a)) (.QQ C):=by
  have:ZO (Qi XE w) Q4Z (Q16 (.QQ a)) Q4w:=(Q1m ho).Q2q .now
  rw [hc]at this;exact this
 have l1:ZO (Qi XE w) Q4Z (Zz (.QQ a) (.QQ C)) QM:=Q70 (Q0r X' (T.self _))
 have l2:ZO (Qi XE w) Q4Z (Q1s (.QQ a) "__init__") (QB (.Qd "object.__init__")):=Q70 (Q0r X' (T.init _))
 refine Q9 (l1.here ?_)
 rw [QN (by simp)]
 refine Q9 (Xa ?_)
 refine Q9 (l2.here ?_)
 dsimp only
 rw [oi_bind]
 refine Xa (Q9 (QF (Q9 (Q26 ?_))))
 refine OA T X' ho hc (QF ?_)
 dsimp only
 rw [QN (by decide +XD)]
 exact QF z
end
end
end Mini
end
section
open PySem PySem.W PySem.Calls PyProof.Rows
namespace Mini
noncomputable def KE (K:Frag) (args:List Val):PT Val:=fun σ P=>on2 args fun a b=>Cs a fun C=>Ai b fun t=>(∃p fN mc,TupK K C p fN mc)/\O2 (σ.hp t) fun xs=>xs.length<=sizeLine/\P (.ref σ.nx) (σ.alloc (.sub C xs))
noncomputable def Nd (G:Pg) (rec:Av) (C:Addr) (args:List Val):PT Val:=fun σ P =>
 ∃p fN mc,TupK G.K C p fN mc/\args.length=3/\pFn G rec fN (.imm (.ref C)::args) σ fun v σ'=>(∃l xs,v=.ref l/\σ'.hp l=.sub C xs)/\P v σ'
section
variable {c:Cx} {A:Around} {env:Env} {fm:Fm} {Λ:Lab} {σ:St} {G:Pg} {rec:Av}
mutual
theorem Jc (hc:Q3S) {L:Qq} {Xc:QC QU} {as:QC QI} {P:QU->St->Prop} (ha:VRs Λ Xc as) (h:KE c.K Xc σ P):Bz c A L Λ (.Qd "tuple.__new__") as σ P:=by
 refine QCb ha h fun v u a b h1 h2 h=>Cs.el h fun C ev k=>Q1Y k fun t eu k=>?_
 ·subst ev eu
  cases h1
  refine an2 k fun yq3t h=>?_;refine ew3 yq3t fun p fN mc T=>?_;clear yq3t
  refine fun fz s R r q=>?_
  refine ew1 (Q3C t h2.1) fun o yq3u=>?_;refine an2 yq3u fun ho hor=>?_;clear yq3u
  have fin:∀(xs:QC QU) (vs:QC QI) (h':ZS),VRs Λ xs vs->P (.QQ QO) (Qw (.sub C xs))->(∀b o',Qc b=QB o'->ZB b=QB o') ->
    R (.ok (.ret (.QQ (Q0h+1)))) {s with YO:=(Q8h QBC).Q6G {cls:=.QQ C,Q04:=QB Q0h,YC:=.seq Xw}}:=fun xs vs h' hvs hP hk=>by
   have r1:Rel c fz L Λ σ {s with YO:=Q8h QBC,Q0T:=Y6,Q3A:=Q1I}:=Q6H fun b o e=>Qa _ (hk b o e)
   have e:=XN Λ (Q8h QBC).YT
   have:=q _ _ (.QQ QO) _ _ e hP (Q1l _ QHX) (QA2 (tk:=Y6) (o:=.sub C xs) (co:={cls:=.QQ C,Q04:=QB Q0h,YC:=.seq Xw}) ⟨vs,0,_,QA,hvs.ext e⟩ QA)
   rw [show (Q8h QBC).YT=Q0h+1 from Q0x ..]at this
   exact this
  rw [h2.2]
  have X:=ZR Q0K
  refine O2.el h (fun xs e h=>?_) fun xs e h=>?_
  ·rw [e]at hor
   obtain (⟨vs,n,QA,hvs⟩):=hor
   exact Ij T X (.inr QA) ho QA QA (by rw [XW,<- QCv];exact h.1) fun h' hk=>fin xs vs h' hvs h.2 hk
  ·rw [e]at hor
   obtain (⟨vs,n,QA,hvs⟩):=hor
   exact Ij T X (.inl QA) ho QA QA (by rw [XW,<- QCv];exact h.1) fun h' hk=>fin xs vs h' hvs h.2 hk
theorem LD (hc:Q3S) (hK:G.K=c.K) {d:QH} (hA:Q8u (d+1) A) {L:Qq} {C:Qq} {Xc:QC QU} {as:QC QI} {P:QU->St->Prop}
  (S:∀A' Q2V fm' n,Q8u d A'->Snd c A' Q2V fm' G rec n) (ha:VRs Λ Xc as) (h:Nd G rec C Xc σ P):Bz c A L Λ (.QQ C) as σ P:=fun fz s R r q=>by
 obtain (⟨p,fN,mc,T,Q2Y,h⟩):=h
 rw [hK]at T
 have X:=ZR Q0K
 obtain ⟨x,y,z,QA⟩:∃x y z,as=[x,y,z]:=by
  have hl:=QEB
  rw [Q2Y]at hl
  exact ls3 hl.symm
 refine J0 T X ?_
 have hA2:∀Q2V,Q8u d ((A.under (.Qd "type.__call__" ⟨[.QQ C,x,y,z],[]⟩)).deeper Q2V):=fun Q2V=>⟨Q0c,by
  have:=Q7v
  exact SM this,by
  have:=Q5Z
  exact SL this⟩
 refine Fc hc hK (by have:=Q5Z;show QF1+1 < Q5Y;exact aef this) (fun Q2V fm' n=>S _ Q2V fm' n (hA2 Q2V)) (.Xx (show VR Λ (.imm (.QQ C)) (.QQ C) from QA) ha) h fz _ _ Q9N ?_
 intro Λ3 s3 b a σ3 e3 p3 hv r3
 refine an2 p3 fun yq3v p3=>?_;refine ew2 yq3v fun l xs yq3w=>?_;refine an2 yq3w fun yq3x hl=>?_;obtain QA:=yq3x;clear yq3v yq3w
 refine ew1 (r3.ob l hv.1) fun o yq3y=>?_;refine an2 yq3y fun ho hor=>?_;clear yq3y
 rw [hl]at hor
 obtain (⟨vs,n,dct,QA,hvs⟩):=hor
 exact ⟨ZR r3.gkeep,⟨_,_,hv.2,ho,QA⟩,q Λ3 s3 _ _ σ3 e3 p3 hv r3⟩
end
end
end Mini
end
section
open PySem PySem.W PySem.Calls PyProof.Rows
namespace Mini
mutual
def CK {α:Type} (QCw:X8->QW Q2d):QC (X8×α)->(X8->QW α)->X8->QW α
 | [],m=>m
 | (n,v)::r,m=>CK QCw r (if QCw n=QB .Q63 then fun y=>if y=n then QB v else m y else m)
def B5 {α:Type} (QCw:X8->QW Q2d):QC (X8×α)->(X8->QW α)->X8->QW α
 | [],m=>m
 | (n,v)::r,m=>B5 QCw r (if QCw n=QB .Q63 then m else fun y=>if y=n then QB v else m y)
theorem Ew (k:X8->QW Q2d):∀(b:QC (X8×QI)) (m:X8->QW QI),bindL k b m=CK k b m
 | [],m=>QA
 | (n,v)::r,m=>Ew k r _
theorem Ex (k:X8->QW Q2d):∀(b:QC (X8×QI)) (m:X8->QW QI),bindC k b m=B5 k b m
 | [],m=>QA
 | (n,v)::r,m=>Ex k r _
theorem BR.bindL {Λ:Lab} {k:X8->QW Q2d} {b:QC (X8×QU)} {b':QC (X8×QI)} (h:BR Λ b b'):∀ {m:X8->QW QU} {m':X8->QW QI},(∀x,OV Λ (m x) (m' x))->∀x,OV Λ (CK k b m x) (CK k b' m' x):=by
 induction h with
 | Zo=>exact fun h=>h
 | @Xx n v c r q hv _ ih =>
  intro m m' hm
  refine ih fun x=>?_
  by_cases hk:k n=QB .Q63
  ·rewrite [QY hk,QY hk]
   by_cases hx:x=n
   ·rw [QY hx,QY hx];exact hv
   ·rw [QN hx,QN hx];exact hm x
  ·rewrite [QN hk,QN hk];exact hm x
theorem BR.bindC {Λ:Lab} {k:X8->QW Q2d} {b:QC (X8×QU)} {b':QC (X8×QI)} (h:BR Λ b b'):∀ {m:X8->QW QU} {m':X8->QW QI},(∀x,OV Λ (m x) (m' x))->∀x,OV Λ (B5 k b m x) (B5 k b' m' x):=by
 induction h with
 | Zo=>exact fun h=>h
 | @Xx n v c r q hv _ ih =>
  intro m m' hm
  refine ih fun x=>?_
  by_cases hk:k n=QB .Q63
  ·rewrite [QY hk,QY hk];exact hm x
  ·rewrite [QN hk,QN hk]
   by_cases hx:x=n
   ·rw [QY hx,QY hx];exact hv
   ·rw [QN hx,QN hx];exact hm x
def AA (cm:X8->QW QU):QC X8->St->St
 | [],σ=>σ
 | n::r,σ=>AA cm r (Qw (.YV (cm n)))
def HH:QC X8->QH->QC (X8×QH)
 | [],_=>[]
 | n::r,k=>(n,k)::HH r (k+1)
theorem TW (n:X8) (r:QC X8) (k:QH):HH (n::r) k=(n,k)::HH r (k+1):=QA
theorem C2 {c:Cx} {fz:Qq->QW ZG} {L:Qq} {cm:X8->QW QU} {cm':X8->QW QI} {s:QZ}:∀(cs:QC (X8×Qq)) {Λ:Lab} {σ:St},Rel c fz L Λ σ s->(∀x,OV Λ (cm x) (cm' x))->(∀p∈cs,QDJ p.2 (cm' p.1))->cs.Pairwise (fun x y=>x.2≠y.2)->(∀p∈cs,L < p.2/\fz p.2=QG/\∀l,l < Xi->Xs l≠p.2) ->
  ∃Zd,Q0C Zd/\Rel c fz L Zd (AA cm (QF4 (·.1)) σ) s/\∀x l,(HH (QF4 (·.1)) Xi).QF0 x=QB l->l < QDi/\QEC x=QB (Q4d l)
 | [],Λ,σ,r,hm,hc,hp,ha=>⟨Λ,.Q1J _,r,fun x l h=>by simp [HH]at h⟩
 | (n,a)::cs,Λ,σ,r,hm,hc,hp,ha=>by
  obtain (⟨o,ho,hd⟩):=hc (n,a) (.Zf _)
  refine an3 (ha (n,a) (.Zf _)) fun h1 h2 h3=>?_
  have e1:=XN Λ a
  have hor:OR XK c.w (Z9 a) (.YV (cm n)) o:=by
   refine ⟨cm' n,hd,?_⟩
   have:=hm n
   cases q:cm n <;> cases q':cm' n <;> rw [q,q']at this <;> first | exact this | exact VR.ext e1 this
  have r1:=r.label (o:=.YV (cm n)) ho (Y8 h1) h2 h1 h3 hor
  rw [Q9K]at hp
  have fs:(Z9 a).f Xi=a:=QY QA
  obtain (⟨Zd,e2,r2,hl⟩):=C2 cs r1 (fun x=>(hm x).ext e1) (fun p hp'=>hc p (.Q38 _ hp')) hp.2 fun p hp'=>by
   refine an3 (ha p (.Q38 _ hp')) fun g1 g2 g3=>?_
   refine ⟨g1,g2,fun l hlt=>?_⟩
   by_cases hq:l=Xi
   ·subst hq;rw [fs];exact hp.1 p hp'
   ·have hl2:l < Xi:=by have:l < Xi+1:=hlt;exact BH hq this
    rw [e1.2 l hl2];exact g3 l hl2
  refine ⟨Zd,Ye e2,r2,fun x l h=>?_⟩
  rw [XV]at h
  rw [TW]at h
  rw [Z5]at h ⊢
  cases hx:x == n with
  | QM =>
   rw [hx]at h
   cases h
   have hlt:Xi < (Z9 a).n:=Xu _
   exact ⟨QP hlt e2.1,by rw [e2.2 _ hlt,fs]⟩
  | QJ =>
   rw [hx]at h
   exact hl x l h
theorem Cg:∀(Q48:QC (X8×Q2d)) (n:QH) (acc acc':QC (X8×Qq)),QC0 (·.1)=acc'.map (·.1)->∀m,(Q5G n Q48 acc).map (·.1)=(Q5G m Q48 acc').map (·.1)
 | [],n,acc,acc',h,m=>h
 | (x,k)::r,n,acc,acc',h,m=>by
  unfold Q5G
  split
  ·exact Cg r _ _ _ (by simp [h]) _
  ·exact Cg r _ _ _ h _
def AZ (sc:Q0M):QC X8:=(Q5G 0 sc.names []).map (·.1)
theorem Ci {x:X8}:∀ {cs:QC (X8×Qq)},x∈QF4 (·.1)->(QEC x).QAk=QM
 | [],h=>by simp at h
 | (n,a)::r,h=>by
  rw [Z5]
  cases hx:x == n with
  | QM=>rfl
  | QJ =>
   rw [XV]at h
   rcases XT h with e | h
   ·rw [e]at hx;simp at hx
   ·exact Ci h
theorem CG {x:X8} {a:Qq}:∀ {cs:QC (X8×Qq)},(QF4 (·.1)).QED->(x,a)∈cs->QEC x=QB a
 | [],_,h=>by cases h
 | (n,b)::r,hn,h=>by
  rw [XV,QBk]at hn
  rw [Z5]
  rcases XT h with e | h
  ·cases e;simp
  ·have hne:(x == n)=QJ:=by
    cases hx:x == n with
    | QJ=>rfl
    | QM=>exact XF (Q0G ⟨(x,a),h,Z4 hx⟩) hn.1
   rw [hne];exact CG hn.2 h
def K7 (sc:Q0M) (xs:QC X8):Qu:=xs.all fun x=>Q19 x == QB .Q63 || (Q19 x == QB .YV&&(AZ sc).QGN x)
def JG (G:Pg) (rec:Av) (tb:QW (Qq×QH)) (a:Qq) (Xc:QC QU):PT QU:=fun σ P =>
 ∃fd Yf xs dv n,Q8E G.K a fd Yf xs dv/\Q4i=Qn/\(AZ Q1O).QED/\K7 Q1O (xs++QB8 (·.1))=QM /\
  exs G rec n ⟨Q1O,HH (AZ Q1O) QO,QAM,tb⟩ Yf
   (AA (B5 (fun x=>Q14 x) (AK xs Xc dv) fun _=>QG) (AZ Q1O) {σ with loc:=CK (fun x=>Q14 x) (AK xs Xc dv) fun _=>QG})
   fun fl XH=>P (Lo fl) {XH with loc:=Xy}
end
section
variable {c:Cx} {A:Around} {env:Env} {fm:Fm} {Λ:Lab} {σ:St} {G:Pg} {rec:Av}
theorem NU (hc:c.Ok) (hK:G.K=c.K) (hroom:A.depth < recursionLimit) {L:Addr} {a:Addr} {args:List Val} {as:List Value} {P:Val->St->Prop}
  (S:∀env' fm' n,Snd c (A.deeper env') env' fm' G rec n) (ha:VRs Λ args as) {tb:Option (Addr×Nat)} (htb:∀P l,tb=some (P,l)->l < Λ.n/\Λ.f l=P) (h:JG G rec tb a args σ P):Bz c A L Λ (.ref a) as σ P:=fun fz s Q r q=>by
 obtain (⟨fd,body,xs,dv,n,F,hlen,hnd,hbo,h⟩):=h
 rw [hK]at F
 have X:=hc.inK.keeps r.gkeep
 refine ew3 F.at' fun oc od osl hat=>?_
 refine codeAny_call_function (fd:=fd) (body:=body) hroom (X _ _ hat) rfl F.co F.gen F.body (codeRec_of X F.code) ?_
 refine kp_binds X (fun S=>F.bind S as (by rw [<- ha.length];exact hlen)) _ _ _ _ ?_
 rw [F.clo]
 have hcn:∀k,(cellsFrom k fd.scope.names []).map (·.1)=AZ fd.scope:=fun k=>Cg _ _ _ _ rfl _
 refine wpAny_newFunctionEnv_cells F.kd (fun x hx=>?_) fun env' he s' I=>?_
 ·have hall:=List.all_eq_true.mp hbo
  have hm:x.1∈xs++dv.map (·.1):=by
   rcases List.mem_append.mp hx with hx | hx
   ·exact List.mem_append.mpr (.inl (List.of_mem_zip hx).1)
   ·exact List.mem_append.mpr (.inr (List.mem_map.mpr ⟨x,hx,rfl⟩))
  have:=hall _ hm
  simp only [Bool.or_eq_true,Bool.and_eq_true,beq_iff_eq]at this
  rcases this with h | ⟨h1,h2⟩
  ·exact .inl h
  ·refine .inr ⟨h1,Ci ?_⟩
   rw [hcn]
   simpa using h2
 ·subst he
  obtain (⟨⟨hh,tk,rfl⟩,hns,hkeep,hfresh⟩):=I.toInCall
  have hbr:BR Λ (AK xs args dv) (xs.zip as++dv):=(BR.zip ha).append (BR.imm dv)
  have r':=r.enter (s':={s with heap:=hh,toks:=tk}) (loc:=CK (fun x=>fd.scope.names.lookup x) (AK xs args dv) fun _=>none) rfl rfl hkeep hfresh hns (fun x=>by
   rw [Ew];exact hbr.bindL (m:=fun _=>none) (m':=fun _=>none) (fun _=>trivial) x)
  have hnd':((cellsFrom (s.heap.objs.size+1) fd.scope.names []).map (·.1)).Nodup:=by rw [hcn];exact hnd
  obtain (⟨Λ',e',r2,hl⟩):=C2 (cm:=B5 (fun x=>fd.scope.names.lookup x) (AK xs args dv) fun _=>none) (cm':=B5 (fun x=>fd.scope.names.lookup x) (xs.zip as++dv) fun _=>none) (cellsFrom (s.heap.objs.size+1) fd.scope.names []) r' (fun x=>hbr.bindC (m:=fun _=>none) (m':=fun _=>none) (fun _=>trivial) x)
   (fun p hp=>by
    have:=I.cell p.1 p.2 (CG hnd' hp)
    rw [Ex]at this;exact this) I.apart (fun p hp=>by
    have hgt:=I.above p.1 p.2 hp
    have hsz:s.heap.objs.size < p.2:=hgt
    refine ⟨hgt,?_,fun l hlt e=>?_⟩
    ·cases hq:fzN Λ s.heap p.2 with
     | none=>rfl
     | some o=>exact absurd (Heap.lt_size (B3 hq)) (Nat.not_lt.mpr (Nat.le_of_lt hsz))
    ·refine ew1 (r.ob l hlt) fun o yq3z=>?_;refine an2 yq3z fun ho _=>?_;clear yq3z
     rw [e]at ho
     exact absurd (Heap.lt_size ho) (Nat.not_lt.mpr (Nat.le_of_lt hsz)))
  rw [hcn]at r2 hl
  refine ⟨(hc.top.nolimit.keeps r.gkeep).keeps hkeep,codeAny_func ?_⟩
  refine (S _ ⟨fd.scope,HH (AZ fd.scope) σ.nx,fd.code,tb⟩ n).xs body Λ' _ _ h (fzN Λ s.heap) _ _ _ ⟨rfl,F.gl,F.bl,F.kd,fun x l hl'=>?_,rfl,fun P l h=>let ⟨a1,a2⟩:=htb P l h;⟨Nat.lt_of_lt_of_le a1 e'.1,by rw [e'.2 l a1];exact a2⟩⟩ r2 ?_
  ·have:=hl x l (by rw [r'.nn];exact hl')
   exact this
  ·intro Λ2 s2 fl f σ2 e2 p2 hf r3
   refine q Λ2 s2 (Lo fl) _ _ (e'.trans e2) p2 ?_ (r.leave r3 (e'.trans e2))
   cases fl with
   | next=>cases hf;rfl
   | brk=>cases hf;rfl
   | cont=>cases hf;rfl
   | ret v=>obtain (⟨cv,rfl,hv⟩):=hf;exact hv
end
end Mini
end
section
open PySem PySem.W PySem.Calls PyProof.Rows
namespace Mini
mutual
def ae4 (Xc:QC QU):PT QU:=fun σ P=>on1 Xc fun a=>Ai a fun l=>∃ns:QC X4,QS l=.Qs (Q4Q .Qm)/\(∀n∈ns,0<=n/\n<=2 ^ 31)/\Q2L<=2 ^ 24/\P (.Qm QGv) σ
theorem KV {Λ:Lab}:∀ {ns:QC X4} {vs:QC QI},VRs Λ (Q4Q .Qm) vs->∃ps:QC (X4×Tok),vs=Q15 (fun p=>.Qm p.1 p.2)/\Q15 (·.1)=ns
 | [],vs,h=>by cases h;exact ⟨[],QA,QA⟩
 | n::ns,vs,h=>by
  rw [XV]at h
  cases h with | Xx h1 h2 =>
  obtain (⟨t,QA⟩):=h1
  refine ew1 (KV h2) fun ps yq3F=>?_;refine an2 yq3F fun yq3G e=>?_;obtain QA:=yq3G;clear yq3F
  exact ⟨(n,t)::ps,QA,by rw [XV,e]⟩
theorem Nj (ps:QC (X4×Tok)) (i:QH):numAt ps.toArray i=(Q15 (·.1)).Q4m i 0:=by
 unfold numAt
 simp [Q5a]
theorem G9 (ns:QC X4) (val:QH->X4) (hv:∀i,val i=ns.getD i 0):∀k,k<=Q2L->preSum val k=(ns.take k).sum
 | 0,_=>by simp [preSum]
 | k+1,h=>by
  have hlt:k < Q2L:=h
  show preSum val k+val k=_
  rw [G9 ns val hv k (X7 hlt),hv,List.take_succ_eq_append_getElem hlt,List.sum_append]
  simp [Q5a,hlt]
theorem GZ:∀(ns:QC X4),(∀n∈ns,0<=n/\n<=2 ^ 31)->0<=QGv/\QGv<=Q2L*2 ^ 31
 | [],_=>by simp
 | n::ns,h=>by
  have h1:=h n (.Zf _)
  have h2:=GZ ns fun m hm=>h m (.Q38 _ hm)
  rw [Zu,Xg]
  refine ⟨QCE h1.1 h2.1,?_⟩
  rw [show ((Q2L+1:QH):X4)*2 ^ 31=2 ^ 31+Q2L*2 ^ 31 from (QFZ (Q2L:X4) 1 (2 ^ 31)).QR (Q9v _ _)]
  exact Q7m h1.2 h2.2
end
section
variable {c:Cx} {A:Around} {env:Env} {fm:Fm} {Λ:Lab} {σ:St}
theorem OL {args:List Val} {as:List Value} {P:Val->St->Prop} (hA:AOk A) (ha:VRs Λ args as) (h:ae4 args σ P):Sim c A env fm Λ (call (.builtin "sum") as) VR σ P:=by
 refine on1.el ha h fun v a h1 h=>Ai.el h fun l ev h=>?_;subst ev
 ·skip
  refine ew1 h fun ns yq3J=>?_;refine an4 yq3J fun e hs hl p=>?_;clear yq3J
  refine Sim.of fun fz s ok r Q E q=>?_
  refine an3 (r.listsV h1 e) fun yq3K g1 yq3L=>?_;obtain rfl:=yq3K;refine ew2 yq3L fun vs k yq3M=>?_;refine an2 yq3M fun a1 a2=>?_;clear yq3L yq3M
  refine ew1 (KV a2) fun ps yq3N=>?_;refine an2 yq3N fun yq3O yq3P=>?_;obtain rfl:=yq3O;obtain rfl:=yq3P;clear yq3N
  have hlist:s.heap.IsList (Λ.f l) (intItems ps.toArray):=by
   have:=Al a1
   rw [show (List.map (fun p:Int×Tok=>Value.int p.1 p.2) ps).toArray=intItems ps.toArray by simp [intItems]]at this
   exact this
  have hval:∀i,numAt ps.toArray i=(ps.map (·.1)).getD i 0:=Nj ps
  have hps:=G9 (ps.map (·.1)) (numAt ps.toArray) hval
  have hsz:ps.toArray.size=(ps.map (·.1)).length:=by simp
  refine sum_intList hA.handled hlist (fun j hj=>?_) fun h' tk t' hk=>?_
  ·rw [hsz]at hj
   have hmem:numAt ps.toArray j∈ps.map (·.1):=by
    rw [hval,List.getD_eq_getElem?_getD,List.getElem?_eq_getElem hj];exact List.getElem_mem hj
   have b1:=hs _ hmem
   have b2:=GZ ((ps.map (·.1)).take (j+1)) fun n hn=>hs n (List.mem_of_mem_take hn)
   rw [hps (j+1) hj]
   have hle:((ps.map (·.1)).take (j+1)).length<=2 ^ 24:=Nat.le_trans (by rw [List.length_take];exact Nat.min_le_right ..) hl
   have:(((ps.map (·.1)).take (j+1)).length:Int)<=2 ^ 24:=by exact_mod_cast hle
   constructor
   ·exact ⟨Int.le_trans (by decide) b1.1,Int.lt_of_le_of_lt b1.2 (by decide)⟩
   ·exact ⟨Int.le_trans (by decide) b2.1,Int.lt_of_le_of_lt (Int.le_trans b2.2 (Int.mul_le_mul_of_nonneg_right this (by decide))) (by decide)⟩
  ·rw [hsz,hps _ (Nat.le_refl _),List.take_length]
   exact q Λ _ _ _ σ (.refl _) p ⟨_,rfl⟩ (r.grow (tk:=tk) (dr:=s.drawn) hk)
end
end Mini
end
section
open PySem PySem.W PySem.Calls PyProof.Rows
namespace Mini
section
variable {prog:Program} {w:World} {A:Around} {R:Result->Shared->Prop} {s:Shared}
theorem N6 {a:Addr} {args:Args} {o:Obj} {fd:FuncData} {body:Expr} {q:Str} (hroom:A.depth < recursionLimit)
  (ho:s.heap.get? a=some o)
  (hd':o.data=.func fd) (hco:fd.scope.isCoroutine=false) (hgen:fd.scope.isGenerator=false) (hbody:fd.body=.expr body) (hcd:s.heap.CodeRec fd.code q)
  (h:wpAny (model prog w) A.in1 (bindArgs fd args) (fun binds s₁ =>
   wpAny (model prog w) A.in1 (newFunctionEnv fd.scope fd.globals fd.closure binds (q++".<locals>.") (some a) fd.code none fd.builtins)
    (fun env s₂=>s₂.heap.NoLimit/\codeAny (model prog w) A (.expr body env) R s₂) (fun e s'=>R (.error e) s') s₁) (fun e s'=>R (.error e) s') s) :
  codeAny (model prog w) A (.call (.ref a) args) R s:=by
 injections prog w A R s a args o fd body q _ _ _ _ _ _ _ _
 refine codeAny_of_tree ?_
 show wpAny _ A.in1 (callAny (.ref a) args) _ _ s
 refine wpAny_bind (m:=load a) (wpAny_load ho ?_)
 obtain ⟨c,oc,vs,tq,hc,hoc,hdc,hq⟩:=hcd
 rw [hd']
 show wpAny _ _ (callFunction a fd args) _ _ _
 delta callFunction
 rw [hc,hco,hgen,hbody]
 rw [hc]at h
 refine wpAny_bind (m:=field (.ref c) 1) (wpAny_field hoc hdc hq (wpAny_bind (wpAny_pure ?_)))
 exact wpAny_bind (wpAny_mono h (fun binds s₁ h₁=>wpAny_bind (wpAny_mono h₁ (fun env s₂ h₂=>wpAny_bind (wpAny_enterFrame h₂.1 hroom (wpAny_pure (And.intro rfl h₂.2)))) fun _ _ h'=>h')) fun _ _ h'=>h')
end
noncomputable def IK (G:Pg) (rec:Av) (l:Nat) (args:List Val):PT Val:=fun σ P =>
 ∃(as':Arguments) (body:Expr) (scope:Scope) (qual:Str) (pm ctv:Value) (lc:Nat) (oc:Obj) (q:Str) (xs:List Str) (n:Nat),
  σ.hp l=.lam (Dz as' body scope qual pm ctv) lc/\σ.hp lc=.raw oc/\C9 q oc/\(scope.isCoroutine=false/\scope.isGenerator=false/\scope.kind=.function)/\Fa scope=true/\D9 scope xs=true/\args.length=xs.length /\
  (∀cdv as,as.length=xs.length->bindArgs (kla_fn "<lambda>" qual as' body scope [] pm cdv ctv) ⟨as,[]⟩=pure (xs.zip as)) /\
  (∀cdv,ev G rec n ⟨scope,[],cdv,none⟩ body (σ.frame (xs.zip args)) fun v σ'=>P v {σ' with loc:=σ.loc})
section
variable {c:Cx} {A:Around} {Λ:Lab} {σ:St} {G:Pg} {rec:Av}
theorem NT (hc:c.Ok) (hroom:A.depth < recursionLimit) {L:Addr} {l:Nat} {x:Value} {args:List Val} {as:List Value} {P:Val->St->Prop}
  (S:∀env' fm' n,Snd c (A.deeper env') env' fm' G rec n) (hx:VR Λ (.ref l) x) (ha:VRs Λ args as) (h:IK G rec l args σ P):Bz c A L Λ x as σ P:=fun fz s Q r q=>by
 obtain (⟨as',body,scope,qual,pm,ctv,lc,oc,q0,xs,n,e1,e2,e3,⟨hco,hgen,hkd⟩,hnc,hal,hlen,hbind,h⟩):=h
 refine ew1 (r.ob l hx.1) fun o yq5y=>?_;refine an2 yq5y fun ho hor=>?_;clear yq5y
 rw [e1]at hor
 obtain (⟨hlc,rfl⟩):=hor
 refine ew1 (r.ob lc hlc) fun o2 yq5z=>?_;refine an2 yq5z fun ho2 hor2=>?_;clear yq5z
 rw [e2]at hor2
 cases hor2
 obtain (⟨vs,t,hd1,hd2⟩):=e3
 rw [hx.2]
 refine N6 (body:=body) (q:=q0) (fd:=kla_fn "<lambda>" qual as' body scope [] pm (.ref (Λ.f lc)) ctv) hroom ho rfl hco hgen rfl ⟨_,_,vs,t,rfl,ho2,hd1,hd2⟩ ?_
 rw [hbind _ as (by rw [<- ha.length];exact hlen)]
 refine wpAny_pure ?_
 refine wpAny_newFunctionEnv (fun x hx=>?_) (fun x hx=>?_) (fun h' hn hs=>?_) hkd
 ·have:=List.all_eq_true.mp hnc x hx
  simpa using this
 ·have hall:=List.all_eq_true.mp hal
  have hm:x.1∈xs:=(List.of_mem_zip hx).1
  simpa using hall _ hm
 ·have hk:∀b o,s.heap.get? b=some o->h'.get? b=some o:=fun b o e=>(hs.2 b (Nat.ne_of_lt (Heap.lt_size e))).trans (Heap.get?_push_of_some _ e)
  have hbr:BR Λ (xs.zip args) (xs.zip as):=BR.zip ha
  have r':Rel c (fzN Λ s.heap) s.heap.objs.size Λ (σ.frame (xs.zip args)) {s with heap:=h',toks:=s.toks+(xs.zip as).length}:=r.enter rfl rfl hk (Nat.le_refl _) hn fun x=>hbr.rev.lookup x
  refine ⟨(hc.top.nolimit.keeps r.gkeep).keeps hk,kla_codeExpr ?_⟩
  refine (S _ ⟨scope,[],.ref (Λ.f lc),none⟩ n).ev body Λ _ _ (h _) (fzN Λ s.heap) _ _ _ ⟨rfl,rfl,rfl,hkd,fun x l hl=>by simp at hl,rfl,fun P l hl=>by cases hl⟩ r' ?_
  intro Λ2 s2 b a σ2 e2 p2 hv r2
  exact q Λ2 s2 b a _ e2 p2 hv (r.leave r2 e2)
end
end Mini
end
section
open PySem PySem.W PySem.Calls PyProof.Rows
set_option genInjectivity false
set_option genSizeOf false
set_option maxRecDepth 100000
set_option maxHeartbeats 1000000
namespace Mini
mutual
theorem Gk:QFo "map" "__init__" "object.__init__" :=
 .of (Q7q:="object") (n:="__init__") (by rw [YH,Xf];kernel_rfl) (by decide +XD) (by decide +XD) (by decide +XD)
  (by first | exact .inl (by decide +XD) | exact .inr (by decide +XD)) (by rw [YY];kernel_rfl)
theorem KO:mroOf (.Qk "map")=ZX [.Qk "map",.Qk "object"]:=by rw [mroOf_type];kernel_rfl
theorem FN:Q3V (.Qk "map") "__new__"=ZX (QB (.Qd "map.__new__")):=by rw [YH,Xf];kernel_rfl
theorem J5:TypeCalled "map" "map.__new__" "object.__init__" :=
 ⟨by decide +XD,by decide +XD,⟨_,_,KO⟩,madeBy_type KO FN (by decide +XD),by decide +XD,by rw [YY];kernel_rfl,Gk⟩
theorem Fi (a b:QI):checkTypeCall "map" ⟨[a,b],[]⟩=ZX ():=by kernel_rfl
theorem Gn (a b:QI):Q6Z "map.__new__" ⟨[.Qk "map",a,b],[]⟩=ZX ():=by kernel_rfl
theorem Gw:Q3q QA7 "map.__new__"=QB Builtin.«map.__new__»:=Q2r (by kernel_rfl)
theorem OH:Q6a (.Qk "map") (.Qk "map")=ZX QM:=by rw [YY];kernel_rfl
theorem F1:Q3q QA7 "map.__iter__"=QB Builtin.«dict_keyiterator.__iter__» :=
 Q3r (id':="dict_keyiterator.__iter__") (by kernel_rfl) (by decide +XD) (by decide +XD) (by kernel_rfl)
theorem Dw:QFo "map" "__iter__" "map.__iter__" :=
 .of (Q7q:="map") (n:="__iter__") (by rw [YH,Xf];kernel_rfl) (by decide +XD) (by decide +XD) (by decide +XD)
  (by first | exact .inl (by decide +XD) | exact .inr (by decide +XD)) (by rw [YY];kernel_rfl)
theorem GC (a:QI):Q4I "map.__iter__" ⟨[a],[]⟩:=by unfold Q4I;kernel_rfl
theorem A4:QFo "map" "__next__" "map.__next__" :=
 .of (Q7q:="map") (n:="__next__") (by rw [YH,Xf];kernel_rfl) (by decide +XD) (by decide +XD) (by decide +XD)
  (by first | exact .inl (by decide +XD) | exact .inr (by decide +XD)) (by rw [YY];kernel_rfl)
theorem C7:Q3q QA7 "map.__next__"=QB Builtin.«map.__next__»:=Q2r (by kernel_rfl)
theorem DB (a:QI):Q4I "map.__next__" ⟨[a],[]⟩:=by unfold Q4I;kernel_rfl
theorem JO:Q3V (.Qk "map") "__len__"=ZX QG:=by rw [YH,Xf];kernel_rfl
theorem IS:Q3V (.Qk "map") "__length_hint__"=ZX QG:=by rw [YH,Xf];kernel_rfl
abbrev Dy (h:ZS) (l:Qq):ZS:=h.push {cls:=.Qk "list_iterator",YC:=.Xp #[.QQ l,.Qm 0 0]}
abbrev FM (h:ZS) (l:Qq):ZS:=(Dy h l).Q6G {cls:=.Qk "tuple",YC:=.seq #[.QQ QFe]}
abbrev No (h:ZS) (l:Qq) (f:QI):ZS:=(FM h l).Q6G {cls:=.Qk "map",YC:=.Xp #[.QQ (Dy h l).YT,f]}
theorem Gp (f:QI) (l:Qq) (xs:XP QI) :
  Meets (Builtin.«map.__new__» ⟨[.Qk "map",f,.QQ l],[]⟩) (fun _ R s=>Q2M l xs/\R (.ok (.ret (.QQ (FM QV l).YT))) {s with YO:=No QV l f}) :=
 .of_wp fun XE w A R s h=>by
  obtain (⟨hp,g,d,tk,os⟩):=s;obtain (⟨hl1,h⟩):=h
  have hsub:=OH
  have hL1:Heap.IsList (Shared.heap ⟨hp,g,d,tk,os⟩) l xs:=hl1
  wp_walk using QAJ hL1
  exact ⟨_,QA,h⟩
end
section
variable {prog:Program} {w:World} {A:Around} {E:Value->Shared->Prop} {s:Shared}
mutual
theorem N2 {f:QI} {l:Qq} {xs:XP QI} {Q:QI->QZ->Prop} (hl:Q2M l xs) (h:Q (.QQ (QD+2)) {s with YO:=No QV l f}) :
  Qp (Qi XE w) A (Q0Q (.Qk "map") [f,.QQ l]) Q E s:=by
 have z1:(Dy QV l).YT=QD+1:=Q0x ..
 have z2:(FM QV l).YT=QD+2:=by rw [Q0x,z1]
 refine callType_new J5 (by decide) (Fi _ _) (Gn _ _) (fun obj=>PySem.F.args_object_init_3 obj _ _) Gw (Gp f l xs) ⟨hl,?_⟩
 show _/\_
 rw [z2]
 have g:(No QV l f).QBh (QD+2)=QB {cls:=.Qk "map",YC:=.Xp #[.QQ (Dy QV l).YT,f]}:=by rw [<- z2];exact X3 _ QA
 exact ⟨⟨_,g,QA⟩,h⟩
theorem O7 {it l:Qq} {i:QH} {Xr:XP QI} {x:QI} {Q:QW QI->QZ->Prop} (hit:Q61 it l i) (hl:Q2M l Xr) (hx:Xr[i]?=QB x)
  (hQ:∀h',h'.IsListIter it l (i+1)->ZC it QV h'->Q (QB x) {s with YO:=h'}):Qp (Qi XE w) A (Q56 (.QQ it) "__next__") Q E s:=by
 obtain (⟨o,ho,hc,hd⟩):=id hit
 obtain (⟨ol,hol,_,nl,hdl⟩):=hl
 refine YK (Q1z:=Qb "__next__") Q3X Q3a (Y3 Q3a Q3X Q8v ?_ (Q9g _))
 show Qp _ _ (QG0 (.QQ it) 0 >>= _) _ _ s
 refine Q9 (Q0p ho hd (x:=.QQ l) QA ?_)
 show Qp _ _ (if (Q1k l == Zy)=QM then _ else _) _ _ s
 rw [QN (show ¬((Q1k l == Zy)=QM) from Qj)]
 show Qp _ _ (QG0 (.QQ it) 1 >>= _) _ _ s
 refine Q9 (Q0p ho hd (x:=.Qm i 0) QA ?_)
 show Qp _ _ (QEE (.QQ l) >>= _) _ _ s
 refine Q9 (Z0 hol hdl ?_)
 simp only [ZE,hx]
 refine Q9 (Z1 ho hd (by simp) (QF ⟨x,QA,hQ _ ?_ (XX ..)⟩))
 exact ⟨_,XS _ ho (Yg (XL hd _)),(Q0Y ..).QR hc,by rw [XL hd];simp [Zp]⟩
theorem IP {it l:Qq} {i:QH} {Xr:XP QI} {Q:QW QI->QZ->Prop} (hh:Q4N=QG) (hit:Q61 it l i) (hl:Q2M l Xr) (hx:Xr[i]?=QG)
  (hE:∀h' e,Q0o it QV h'->(∃o,ZB it=QB o)->(∃o,ZB e=QB o/\Q4w=.Qk "StopIteration")->E (.QQ e) {s with YO:=h'}):Qp (Qi XE w) A (Q56 (.QQ it) "__next__") Q E s:=by
 obtain (⟨o,ho,hc,hd⟩):=id hit
 obtain (⟨ol,hol,_,nl,hdl⟩):=hl
 refine YK (Q1z:=Qb "__next__") Q3X Q3a (Y3 Q3a Q3X Q8v ?_ (Q9g _))
 show Qp _ _ (QG0 (.QQ it) 0 >>= _) _ _ s
 refine Q9 (Q0p ho hd (x:=.QQ l) QA ?_)
 show Qp _ _ (if (Q1k l == Zy)=QM then _ else _) _ _ s
 rw [QN (show ¬((Q1k l == Zy)=QM) from Qj)]
 show Qp _ _ (QG0 (.QQ it) 1 >>= _) _ _ s
 refine Q9 (Q0p ho hd (x:=.Qm i 0) QA ?_)
 show Qp _ _ (QEE (.QQ l) >>= _) _ _ s
 refine Q9 (Z0 hol hdl ?_)
 simp only [ZE,hx]
 refine Q9 (Q0b (Q9 (Z1 ho hd (by simp) ?_)))
 show Qp _ _ (QCc (.Qk "StopIteration") [] >>= _) _ _ _
 refine Q9 ?_
 simp only [QCc,QAG]
 refine Q9 (Xl ?_ (by size_fits))
 refine Q9 (m:=Q2b _ _) (Zl (a:=Zy) (by first | rfl | (simp only [Q2b];rfl)) ?_)
 refine Xl ?_ (by size_fits)
 simp only [QAH]
 refine Q9 (Q97 ?_)
 rw [show Q98=QG from hh]
 refine Q9 (QF (QBb ?_))
 exact hE _ _ (((XX ..).QG1 _).Q6G _) ⟨_,Qa _ (Qa _ (XS _ ho (Yg (XL hd _))))⟩ ⟨_,X3 _ QA,QA⟩
structure QAR (h:ZS) (m tp it l:Qq) (f:QI) (i:QH):Prop where
 mo:∃o,Q05 m=QB o/\Q4w=.Qk "map"/\Q21=.Xp #[.QQ tp,f]
 tup:∃o n,Q05 tp=QB o/\Q21=.seq #[.QQ it] n
 iter:QEm it l i
theorem Q7A {m tp it l:Qq} {f:QI} {i:QH} (x:QAR QV m tp it l f i):Q5U (.QQ m) "map":=let ⟨o,ho,hc,_⟩:=x.mo;⟨o,ho,hc⟩
theorem Nn {m tp it l:Qq} {f x:QI} {i:QH} {Xr:XP QI} {Q:QW QI->QZ->Prop} (M:QAR QV m tp it l f i) (hm:m≠it) (ht:tp≠it) (hl:Q2M l Xr) (hx:Xr[i]?=QB x)
  (hQ:∀h',QAR h' m tp it l f (i+1)->ZC it QV h'->∀E',Qp (Qi XE w) Q96 (Q0Q f [x]) (fun v s'=>Q (QB v) s') E' {s with YO:=h'}):Qp (Qi XE w) A (Q3W (.QQ m)) Q E s:=by
 refine ew1 M.mo fun o yq6n=>?_;refine an3 yq6n fun ho hc hd=>?_;clear yq6n
 refine ew2 M.tup fun ot n yq6o=>?_;refine an2 yq6o fun hot hdt=>?_;clear yq6o
 unfold Q3W
 refine Q9 (Q3I (YK (Q1z:=Qb "__next__") Q6h A4 (Y3 A4 Q6h C7 ?_ (DB _))))
 unfold Builtin.«map.__next__»
 refine Q9 (QF ?_)
 dsimp only
 refine Q9 (Q0p ho hd (x:=.QQ tp) QA ?_)
 refine Q9 (Z0 hot hdt ?_)
 dsimp only
 simp only [Q9h,Q1A,Q2e]
 refine Q9 (Q9 (Q9 (Xa ?_)))
 unfold Q5j
 refine Q9 (O7 M.iter hl hx fun h' hit' hs=>?_)
 have M':QAR h' m tp it l f (i+1):=⟨⟨o,(hs.2 _ hm).QR ho,hc,hd⟩,⟨ot,n,(hs.2 _ ht).QR hot,hdt⟩,hit'⟩
 refine QF (QF (QF ?_))
 refine ew1 M'.mo fun o2 yq6p=>?_;refine an3 yq6p fun ho2 hc2 hd2=>?_;clear yq6p
 refine Q9 (Q0p (s:={s with YO:=h'}) ho2 hd2 (x:=f) QA ?_)
 refine Q9 (Xa (Yd (hQ h' M' hs _) (fun v s' hq=>?_) fun _ _ e=>e))
 refine Q9 (QBe ?_)
 exact QF ⟨_,QA,QF hq⟩
theorem Pa {m tp it l:Qq} {f:QI} {i:QH} {Xr:XP QI} {Q:QW QI->QZ->Prop} (hh:Q4N=QG) (M:QAR QV m tp it l f i) (hl:Q2M l Xr) (hx:Xr[i]?=QG)
  (hQ:∀h',Q0o it QV h'->(∃o,ZB it=QB o)->Q QG {s with YO:=h'}):Qp (Qi XE w) A (Q3W (.QQ m)) Q E s:=by
 refine ew1 M.mo fun o yq6q=>?_;refine an3 yq6q fun ho hc hd=>?_;clear yq6q
 refine ew2 M.tup fun ot n yq6r=>?_;refine an2 yq6r fun hot hdt=>?_;clear yq6r
 unfold Q3W
 refine Q9 (Q3I (YK (Q1z:=Qb "__next__") Q6h A4 (Y3 A4 Q6h C7 ?_ (DB _))))
 unfold Builtin.«map.__next__»
 refine Q9 (QF ?_)
 dsimp only
 refine Q9 (Q0p ho hd (x:=.QQ tp) QA ?_)
 refine Q9 (Z0 hot hdt ?_)
 dsimp only
 simp only [Q9h,Q1A,Q2e]
 refine Q9 (Q9 (Q9 (Xa ?_)))
 unfold Q5j
 refine Q9 (IP hh M.iter hl hx fun h' e he hio hcl=>?_)
 refine ew1 hcl fun oe yq6s=>?_;refine an2 yq6s fun hoe hce=>?_;clear yq6s
 exact Q9 (Q2u (T:="StopIteration") (b:=QM) ⟨_,hoe,hce⟩ Q86 (QF (hQ _ he hio)))
theorem JC {m tp it l:Qq} {f:QI} {i:QH} {Q:QI->QZ->Prop} (M:QAR QV m tp it l f i) (h:Q (.QQ m) s):Qp (Qi XE w) A (Q4o (.QQ m)) Q E s:=by
 refine Q62 Q6h Dw (Y3 Dw Q6h F1 ?_ (GC _))
 show Qp _ _ (ret (.QQ m)) _ _ s
 exact QF ⟨_,QA,"map",_,Q6h,A4.lookup,h⟩
end
end
end Mini
end
section
open PySem PySem.W PySem.Calls PyProof.Rows
set_option maxRecDepth 100000
set_option maxHeartbeats 1000000
namespace Mini
section
variable {prog:Program} {w:World} {A:Around} {E:Value->Shared->Prop} {s:Shared} {K:Frag} {t C:Addr} {items:Array Value} {n:Nat}
mutual
theorem C6 {I S:Qq} {res:QI} {R:Q87->QZ->Prop} (J:QH->XP QI->QZ->Prop)
  (QHc:∀k acc s,J (k+1) acc s->∀E,Qp (Qi XE w) Q96 (Q3W (.QQ I)) (fun r s'=>∃x,r=QB x/\(∃c,Q3x S=QB {cls:=.Qk "list",YC:=.seq acc c})/\Q4j+1<=Xb/\J k (QA9 x) {s' with YO:=s'.heap.update S (Zb (·.Q6G x))}) E s)
  (QDY:∀acc s,J 0 acc s->∀E,Qp (Qi XE w) Q96 (Q3W (.QQ I)) (fun r s'=>r=QG/\R (.ok (.ret res)) s') E s) :
  ∀k acc s,J k acc s->Q1L (Qi XE w) A (.Qd "list.extend.loop" ⟨[.QQ S,.QQ I,res],[]⟩) R s
 | 0,acc,s,h=>by
  refine ZY Q5k ?_
  rw [Zm Q07 _]
  refine Q9 (Yd (QDY acc s h _) (fun r s' hr=>?_) fun _ _ e=>e)
  obtain (⟨QA,hr⟩):=hr
  exact QF hr
 | k+1,acc,s,h=>by
  refine ZY Q5k ?_
  rw [Zm Q07 _]
  refine Q9 (Yd (QHc k acc s h _) (fun r s' hr=>?_) fun _ _ e=>e)
  refine ew1 hr fun x yq6t=>?_;refine an4 yq6t fun yq6u yq6v hsz hJ=>?_;obtain QA:=yq6u;refine ew1 yq6v fun c hS=>?_;clear yq6t yq6v
  refine Q9 (Q2G hS QA (QF ⟨Q2I Q07 _,C6 J QHc QDY k (QA9 x) _ hJ⟩) (by exact GL hsz) (by show (QA9 x).size<=Xb+1;rw [Q4q];exact acK hsz))
theorem IU {m tp it l:Qq} {f:QI} {i0:QH} {Q:QI->QZ->Prop} (hM:QAR QV m tp it l f i0) (J:QH->XP QI->QZ->Prop) (k:QH)
  (hJ0:∀h' c,(∀b o,Qc b=QB o->ZB b=QB o)->ZB QD=QB {cls:=.Qk "list",YC:=.seq #[] c}->J k #[] {s with YO:=h'})
  (QHc:∀k acc s',J (k+1) acc s'->∀E,Qp (Qi XE w) Q5H (Q3W (.QQ m)) (fun r s''=>∃x,r=QB x/\(∃c,s''.heap.get? QD=QB {cls:=.Qk "list",YC:=.seq acc c})/\Q4j+1<=Xb/\J k (QA9 x) {s'' with YO:=s''.heap.update QD (Zb (·.Q6G x))}) E s')
  (QDY:∀acc s',J 0 acc s'->∀E,Qp (Qi XE w) Q5H (Q3W (.QQ m)) (fun r s''=>r=QG/\Q (.QQ QD) s'') E s') :
  Qp (Qi XE w) A (Q0Q (.Qk "list") [.QQ m]) Q E s:=by
 injections XE w A E s m tp it l f i0 Q _ J k _ _ _
 refine QCx (Q₁:=fun obj Q1p=>obj=.QQ QD/\Q1p={s with YO:=XM {cls:=.Qk "list",YC:=.seq #[]}}) PySem.F.called_list (PySem.F.typeCall_list_1 _) PySem.F.entry_list_init
  (code_list_new _ ⟨QA,QA⟩) fun obj Q1p Q1S=>?_
 obtain ⟨QA,QA⟩:=Q1S
 have hS:(XM {cls:=.Qk "list",YC:=.seq #[]}).QBh QD=QB {cls:=.Qk "list",YC:=.seq #[]}:=X3 _ QA
 refine ⟨⟨_,hS,QA⟩,PySem.F.args_list_init_2 _ _,?_⟩
 have hne:QD≠m:=by
  intros q
  obtain ⟨o,ho,_⟩:=hM.mo
  exact XF (X0 ho) (by rw [<- q];exact XO _)
 show Qp _ Q5H (do let old <- Builtin.List.listItems (.QQ QD);Builtin.List.listUpdate (.QQ QD) (fun _=>#[]);letGo old.toList.reverse;Q2U (.QQ QD) (.QQ m) .QG) _ _ _
 refine Q9 (Q9 (Z0 hS QA (QF ?_)))
 refine Q9 (Q2G hS QA ?_)
 have hS₂:=XS (Zb (fun _=>(#[]:XP QI))) hS QA
 have oth:∀b o,Qc b=QB o->((XM {cls:=.Qk "list",YC:=.seq #[]}).QGw QD (Zb (fun _=>(#[]:XP QI)))).QBh b=QB o :=
  fun b o e=>(Yw _ _ (Y8 (X0 e))).QR (Qa _ e)
 refine Q9 (QBe ?_)
 have hM2:QAR ((XM {cls:=.Qk "list",YC:=.seq #[]}).QGw QD (Zb (fun _=>(#[]:XP QI)))) m tp it l f i0:=by
  obtain ⟨o,ho,r1⟩:=hM.mo
  obtain ⟨o2,n2,ho2,r2⟩:=hM.tup
  obtain ⟨o3,ho3,r3⟩:=hM.iter
  exact ⟨⟨o,oth _ _ ho,r1⟩,⟨o2,n2,oth _ _ ho2,r2⟩,⟨o3,oth _ _ ho3,r3⟩⟩
 refine Q9 (wpAny_typeOf (Q7A (s:={s with YO:=_}) hM2) ?_)
 have h1:Q1V (.QQ QD) (.QQ m)=QJ:=by simp [Q1V,hne]
 have h2:(Q2a "map" == Q2a "list")=QJ:=by decide
 have h3:(Q2a "map" == Q2a "tuple")=QJ:=by decide
 simp only [h1,h2,h3,QDZ,XU,Zi]
 refine Q9 (JC (s:={s with YO:=_}) hM2 ?_)
 refine Q9 (Xa ?_)
 refine Q9 (Q7P (Q7A (s:={s with YO:=_}) hM2) JO ?_)
 refine Q9 (Q7P (Q7A (s:={s with YO:=_}) hM2) IS ?_)
 refine QF ?_
 show Qp _ Q5H (rule "list.extend.makes-room" >>= fun _=>Q7B (.QQ QD) >>= fun _ =>
  QBZ (.Qd "list.extend.loop" ⟨[.QQ QD,.QQ m,.QG],[]⟩)) _ _ _
 refine Q9 (Q0b (Q9 ?_))
 refine Q9 (Q2G hS₂ QA ?_)
 have QGO:=XS (Zb (·.Q6G Zy)) hS₂ QA
 refine Q2G (hz:=by seq_fits) QGO QA ?_
 have hS₄:=XS (Zb (·.pop)) QGO QA
 refine QF ⟨Q2I Q07 _,C6 (A:=Q96) J QHc (fun acc s' hj E'=>Yd (QDY acc s' hj _) (fun r s'' ⟨a,b⟩=>⟨a,QA,b⟩) fun _ _ e=>e) k #[] _ (hJ0 _ _ ?_ hS₄)⟩;intros b o e
 have hb:QD≠b:=Y8 (X0 e)
 exact (Yw _ _ hb).QR ((Yw _ _ hb).QR (oth b o e))
def D0 (K:Q1B) (C:Qq):Qu:=(QGl K (.QQ C) "__len__" == QB (QB (.Qd "tuple.__len__")))&&(subIn K (.QQ C) (.Qk "tuple") == QB QM)
theorem Mw:QBa "tuple.__len__"=QB .slot:=by decide +XD
theorem GY:QHL "tuple.__len__"=QB ("tuple","__len__"):=by decide +XD
theorem Li:QBx "tuple.__len__"=QM:=by decide +XD
theorem KT {Q:QI->QZ->Prop} {o:ZG} (X:QAw QV) (hk:D0 K C=QM) (ho:Qc t=QB o) (hc:Q4w=.QQ C) (hd:Q21=.seq Xr n) (hfit:(Z6:X4) < 2 ^ 63)
  (h:∀tk tk',Q (.Qm Z6 tk) {s with Q0T:=tk'}):Qp (Qi XE w) A (Q0Q (.Qd "len") [.QQ t]) Q E s:=by
 injections XE w A E s K t C Xr n Q o _ _ _ _ _ _ _
 simp only [D0,X9,ZM]at hk
 have LT:ZO (Qi XE w) QV (Q16 (.QQ t)) (.QQ C):=by
  have:ZO (Qi XE w) QV (Q16 (.QQ t)) Q4w:=(Q1m ho).Q2q .now
  rw [hc]at this;exact this
 have LI:ZO (Qi XE w) QV (Q1s (.QQ t) "__len__") (QB (.Qd "tuple.__len__")):=Q4L (Q28 X hk.1)
 have LS:ZO (Qi XE w) QV (Zz (.QQ t) (.Qk "tuple")) QM:=Q4L (Q5y X hk.2)
 refine Calls.call_function_entry kind_len plain_len entry_len (args_len1 _) ?_
 unfold Builtin.«len»
 refine Q9 (m:=oneArg "len" _) (QF ?_)
 refine Q9 (m:=Q56 (.QQ t) (Qb "__len__")) ?_
 simp only [Q56]
 refine Q9 (QEk ?_)
 simp only [PySem.F.slot_tuple_len.bind]
 refine Xa (Q9 (QF (Q9 ?_)))
 refine Q26 (Q2Z (b:=Builtin.«tuple.__len__») Li PySem.F.entry_tuple_len ?_)
 refine Q72 (i:="tuple.__len__") (Q7q:="tuple") (n:="__len__") (Q1g:=.QQ t) (QA3:=[]) (kw:=[]) Mw GY LS (PySem.F.args_tuple_len_1 _) ?_
 show Qp _ _ (Q2f (.QQ t) >>= _) _ _ _
 unfold Q2f
 refine Q9 (Q9 (Z0 ho hd (QF ?_)))
 refine Q9 (QGP (QF ?_))
 refine QF ?_
 refine Q9 (Xa (QF ?_))
 refine Q9 (QBe ?_)
 rw [QN (by omega)]
 rw [QN (by omega)]
 exact Q9 (QGP (QF ⟨_,QA,h _ _⟩))
end
end
end Mini
end
section
open PySem PySem.W PySem.Calls PyProof.Rows
set_option maxRecDepth 100000
set_option maxHeartbeats 1000000
namespace Mini
section
variable {prog:Program} {w:World} {A:Around} {E:Value->Shared->Prop} {s:Shared} {K:Frag} {t C:Addr} {items:Array Value} {n:Nat}
mutual
theorem NH {Q:Qu->QZ->Prop} {o:ZG} (X:QAw QV) (hk:D0 K C=QM) (ho:Qc t=QB o) (hc:Q4w=.QQ C) (hd:Q21=.seq Xr n) (hfit:(Z6:X4) < 2 ^ 63) (hpos:0 < Z6)
  (h:∀tk,Q QM {s with Q0T:=tk}):Qp (Qi XE w) A (Q5A (.QQ t)) Q E s:=by
 injections XE w A E s K t C Xr n Q o _ _ _ _ _ _ _ _
 have hk':=hk
 simp only [D0,X9,ZM]at hk
 have LT:ZO (Qi XE w) QV (Q16 (.QQ t)) (.QQ C):=by
  have:ZO (Qi XE w) QV (Q16 (.QQ t)) Q4w:=(Q1m ho).Q2q .now
  rw [hc]at this;exact this
 have LI:ZO (Qi XE w) QV (Q1s (.QQ t) "__len__") (QB (.Qd "tuple.__len__")):=Q4L (Q28 X hk.1)
 have LS:ZO (Qi XE w) QV (Zz (.QQ t) (.Qk "tuple")) QM:=Q4L (Q5y X hk.2)
 unfold Q5A
 refine Q9 (QEk ?_)
 dsimp only
 rw [GY]
 dsimp only
 refine Q9 (LS.here ?_)
 rw [QN (show ¬((!QM)=QM) from Qj)]
 try rw [QY (by decide +XD)]
 refine Q9 (QHd ?_)
 dsimp only
 refine Q9 (KT X hk' ho hc hd hfit ?_);intros tk tk'
 refine Q9 (Zl (a:=QB (Z6:X4)) QA ?_)
 refine QF ?_
 rw [show ((Z6:X4) != 0)=QM from bne_iff_ne.mpr (by omega)]
 exact h tk'
theorem Jb {Q:QC QI->QZ->Prop} {dct:QW Qq} (hh:Q4N=QG) (X:QAw QV) (hk:Du K C=QM) (hl:D0 K C=QM) (ho:Qc t=QB {cls:=.QQ C,Q04:=dct,YC:=.seq Xr n}) (hsz:Z6<=Xb) (hpos:0 < Z6)
  (hQ:∀h' tk,(∀b o,Qc b=QB o->ZB b=QB o)->Q Q73 {s with YO:=h',Q0T:=tk}):Qp (Qi XE w) A (collect (.QQ t)) Q E s:=by
 have hne:QD≠t:=Y8 (X0 ho)
 refine Q9 (wpAny_runValue (ZY PySem.F.entry_proto_collect ?_))
 rw [Zm PySem.F.plain_proto_collect _]
 refine Q9 (Xl ?_)
 refine QF ⟨Q2I Q6i _,ZY PySem.F.entry_list_iadd ?_⟩
 rw [Zm Q6i _]
 show Qp _ Q96 (Q2U (.QQ QD) (.QQ t) (.QQ QD)) _ _ {s with YO:=XM {cls:=.Qk "list",YC:=.seq ([]:QC QI).Xe}}
 have ho1:(XM {cls:=.Qk "list",YC:=.seq ([]:QC QI).Xe}).QBh t=QB {cls:=.QQ C,Q04:=dct,YC:=.seq Xr n}:=Qa _ ho
 have Q6:QAw (XM {cls:=.Qk "list",YC:=.seq ([]:QC QI).Xe}):=X.keeps fun b o e=>Qa _ e
 have hS1:(XM {cls:=.Qk "list",YC:=.seq ([]:QC QI).Xe}).QBh QD=QB {cls:=.Qk "list",YC:=.seq ([]:QC QI).Xe}:=X3 _ QA
 have LT:ZO (Qi XE w) (XM {cls:=.Qk "list",YC:=.seq ([]:QC QI).Xe}) (Q16 (.QQ t)) (.QQ C):=(Q1m ho1).Q2q .now
 unfold Q2U
 refine Q9 (QHd ?_)
 have h1:Q1V (.QQ QD) (.QQ t)=QJ:=by simp [Q1V,hne]
 have h2:(Q1k C == Q2a "list")=QJ:=QA
 have h3:(Q1k C == Q2a "tuple")=QJ:=QA
 simp only [h1,h2,h3,QDZ,XU,Zi]
 refine Q9 (IX Q6 hk ho1 ?_)
 generalize hI:(XM {cls:=.Qk "list",YC:=.seq ([]:QC QI).Xe}).YT=I
 have hIv:I=QD+1:=by rw [<- hI,Q0x]
 generalize hH:((XM {cls:=.Qk "list",YC:=.seq ([]:QC QI).Xe}).Q6G {cls:=.Qk "tuple_iterator",YC:=.Xp #[.QQ t,.Qm 0 0]})=H
 have Q4c:∀b o,Qc b=QB o->H.get? b=QB o:=fun b o e=>by rw [<- hH];exact Qa _ (Qa _ e)
 have hSH:H.get? QD=QB {cls:=.Qk "list",YC:=.seq ([]:QC QI).Xe}:=by rw [<- hH];exact Qa _ hS1
 have hIt:Q4M H I t 0:=by rw [<- hH,<- hI];exact ⟨_,X3 _ QA,QA,QA⟩
 refine Q9 (Xa (NH (s:={s with YO:=H}) (X.keeps Q4c) hl (Q4c _ _ ho) QA QA (by have:=CU;omega) hpos fun tk=>?_))
 simp only [QAE,Q5u]
 show Qp _ Q96 (rule "list.extend.makes-room" >>= fun _=>Q7B (.QQ QD) >>= fun _ =>
  QBZ (.Qd "list.extend.loop" ⟨[.QQ QD,.QQ I,.QQ QD],[]⟩)) _ _ _
 refine Q9 (Q0b (Q9 ?_))
 refine Q9 (Q2G (s:={s with YO:=H,Q0T:=tk}) hSH QA ?_)
 have QGO:=XS (Zb (·.Q6G Zy)) hSH QA
 refine Q2G (hz:=by seq_fits) QGO QA ?_
 have hS₄:=XS (Zb (·.pop)) QGO QA
 have oth:∀b o,b≠QD->H.get? b=QB o->((H.update QD (Zb (·.Q6G Zy))).QGw QD (Zb (·.pop))).QBh b=QB o :=
  fun b o hb e=>(Yw _ _ (QHe hb)).QR ((Yw _ _ (QHe hb)).QR e)
 refine QF ⟨Q2I Q07 _,?_⟩
 refine C6 (A:=A) (J:=fun k acc s'=>∃h' c',s'={s with YO:=h',Q0T:=tk}/\k+Q4j=Z6/\Q4J=items.toList.take Q4j/\Q4M h' I t Q4j/\ZB QD=QB {cls:=.Qk "list",YC:=.seq acc c'} /\
   (∀b o,Qc b=QB o->ZB b=QB o)) ?_ ?_ Z6 #[] _ ?_
 ·intro k acc s' Q2X E'
  refine ew2 Q2X fun h' c' yq6z=>?_;refine an6 yq6z fun yq6A hk1 QBn hit hS hkp=>?_;obtain QA:=yq6A;clear yq6z
  have hlt:Q4j < Z6:=by exact acJ hk1
  refine DY (s:={s with YO:=h',Q0T:=tk}) hit ⟨_,_,hkp _ _ ho,QA⟩ (x:=Xr[Q4j]) (by simp [hlt]) fun h2 hit2 hs2=>?_
  have hIS:QD≠I:=by exact Si hIv
  have hS2:QHf QD=QB {cls:=.Qk "list",YC:=.seq acc c'}:=(hs2.2 _ hIS).QR hS
  refine ⟨_,QA,⟨c',hS2⟩,by exact acI hsz hlt,_,_,QA,by rw [Q4q];exact acH hk1,?_,?_,XS _ hS2 QA,fun b o e=>?_⟩
  ·rw [Q3s,Q4q,QBn,Q00]
   simp [hlt]
  ·rw [Q4q]
   obtain (⟨o,ho2,r2⟩):=hit2
   exact ⟨o,(Yw _ _ hIS).QR ho2,r2⟩
  ·have hb1:b≠I:=Xv (QP (X0 e) (by rw [hIv];exact Q0N _))
   exact (Yw _ _ (Y8 (X0 e))).QR ((hs2.2 b hb1).QR (hkp b o e))
 ·intro acc s' Q6r E'
  refine ew2 Q6r fun h' c' yq6B=>?_;refine an6 yq6B fun yq6C hk1 QBn hit hS hkp=>?_;obtain QA:=yq6C;clear yq6B
  have he:Q4j=Z6:=by exact acG hk1
  refine EJ (s:={s with YO:=h',Q0T:=tk}) hh hit ⟨_,_,hkp _ _ ho,QA⟩ (by rw [he];simp) fun h2 he2=>⟨QA,?_⟩
  have hIS:QD≠I:=by exact Si hIv
  refine Q9 (wpAny_load (s:={s with YO:=h2,Q0T:=tk}) (he2 _ _ hIS hS) ?_)
  have e2:acc=Xr:=by
   apply Array.toList_inj.mp
   rw [QBn,he,<- Q03,Q0u]
  rw [e2]
  exact QF (hQ h2 tk fun b o e=>he2 b o (Xv (QP (X0 e) (by rw [hIv];exact Q0N _))) (hkp b o e))
 ·refine ⟨_,_,QA,by simp,by simp,?_,hS₄,fun b o e=>oth b o (Xv (X0 e)) (Q4c b o e)⟩
  obtain (⟨o,ho2,r2⟩):=hIt
  exact ⟨o,oth _ _ (by exact acF hIv) ho2,r2⟩
theorem HB {Q:QI->QZ->Prop} {dct:QW Qq} (hh:Q4N=QG) (X:QAw QV) (hk:Du K C=QM) (hl:D0 K C=QM) (ho:Qc t=QB {cls:=.QQ C,Q04:=dct,YC:=.seq Xr n}) (hsz:Z6<=Xb) (hpos:0 < Z6)
  (hQ:∀(h':ZS) tk,(∀b o,Qc b=QB o->ZB b=QB o)->Q (.QQ Q0h) {s with YO:=Q8h {cls:=.Qk "tuple",YC:=.seq Xr},Q0T:=tk}):Qp (Qi XE w) A (Q0Q (.Qk "tuple") [.QQ t]) Q E s:=by
 injections XE w A E s K t C Xr n Q dct _ _ _ _ _ _ _ _
 have LT:ZO (Qi XE w) QV (Q16 (.QQ t)) (.QQ C):=(Q1m ho).Q2q .now
 refine QCx (Q₁:=fun obj Q1p=>s₁.TypeIs obj "tuple"/\Q obj Q1p) PySem.F.called_tuple (PySem.F.typeCall_tuple_1 _) PySem.F.entry_object_init ?_ fun obj Q1p Q1S=>⟨Q1S.1,PySem.F.args_object_init_2 obj _,object_init_meets PySem.F.called_tuple.init.lookup PySem.F.called_tuple.made (by decide) XE w Q96 _ Q1p ⟨Q1S.1,QA,Q1S.2⟩⟩
 refine Q2E ?_
 show Qp _ Q5H (do Q6Z "tuple.__new__" ⟨[.Qk "tuple",.QQ t],[]⟩;QBZ (.Qd "tuple.__new__" ⟨[.Qk "tuple",.QQ t],[]⟩)) _ _ s
 refine Q9 (Zl (PySem.F.newCall_tuple_1 _) (QF ⟨Q2I Q6j _,ZY PySem.F.entry_tuple_new ?_⟩))
 rw [Zm Q6j _]
 have hsub:=sub_tuple_self
 have hinit:=init_tuple_lookup
 have hmh:=madeHere_tuple
 wp_walk using QHd,Jb (A:=Q5H) hh X hk hl ho hsz hpos
 intros h' tk hkp
 show Qp _ _ (Q6N Q8J >>= fun v=>ret v) _ _ _
 unfold Q6N
 have e:Q8J=Xr:=by simp
 rw [e]
 refine Q9 (Xl (QF ?_) hsz)
 exact ⟨⟨_,X3 _ QA,QA⟩,hQ h' tk hkp⟩
end
end
end Mini
end
section
open PySem PySem.W PySem.Calls PyProof.Rows
set_option genInjectivity false
set_option genSizeOf false
namespace Mini
mutual
inductive QBD (n:QH) (lt:QH->QH->Qu) {α:Type}:KasT α->α->Prop
 | ret (a:α):QBD n lt (.ret a) a
 | ask {i j:QH} {k:Qu->KasT α} {a:α}:i < n->j < n->i≠j->QBD n lt (k (lt i j)) a->QBD n lt (.ask i j k) a
theorem KRun.bind {n:QH} {lt:QH->QH->Qu} {α β:Type} {t:KasT α} {a:α} {f:α->KasT β} {b:β} (h:QBD n lt t a) (g:QBD n lt (f a) b):QBD n lt (t.bind f) b:=by
 induction h with
 | ret a=>exact g
 | ask h1 h2 h3 _ ih=>exact .ask h1 h2 h3 (ih g)
theorem KRun.wp {n:QH} {lt:QH->QH->Qu} {α:Type} {t:KasT α} {a:α} (h:QBD n lt t a) {cmp:QH->QH->(Qu->QZ->Prop)->QZ->Prop} {I:QZ->Prop} {Q:α->QZ->Prop}
  (hc:∀i j C s,i < n->j < n->i≠j->I s->(∀s',I s'->C (lt i j) s')->cmp i j C s) (hq:∀s,I s->Q a s):∀s,I s->t.kasWp cmp Q s:=by
 induction h with
 | ret a=>exact fun s i=>hq s i
 | ask h1 h2 h3 _ ih=>exact fun s i=>hc _ _ _ s h1 h2 h3 i fun s' i'=>ih hq s' i'
end
section
variable (n:Nat) (r:Nat->Int)
noncomputable def ltR (a b:Nat):Bool:=decide (r a < r b)
noncomputable def GP (p:Array Nat):Prop:=p.toList.Perm (List.range n)
noncomputable def RP (p:Array Nat) (i:Nat):Int:=r (p.getD i 0)
noncomputable def Chn (p:Array Nat) (k:Nat):Prop:=∀i j,i < j->j < k->RP r p i < RP r p j
noncomputable def agg (p:Array Nat) (k:Nat):Prop:=∀i j,i < j->j < k->RP r p j < RP r p i
variable {n r}
mutual
theorem GP.size {p:XP QH} (g:GP n p):p.size=n:=by have:=g.length_eq;simpa using this
theorem GP.lt {p:XP QH} (g:GP n p) {i:QH} (h:i < n):Q0i i 0 < n:=by
 have hs:=QGx
 have:Q0i i 0∈p.toList:=by
  rw [XB,Q06 (by exact GN h hs)];simp
 simpa using g.mem_iff.mp this
theorem GP.ne {p:XP QH} (g:GP n p) (hr:∀a b,a < n->b < n->r a=r b->a=b) {i j:QH} (hi:i < n) (hj:j < n) (h:i≠j):RP r p i≠RP r p j:=fun e=>by
 have hs:=QGx
 have e2:=hr _ _ (Q8K hi) (Q8K hj) e
 have hn:p.toList.Nodup:=g.nodup_iff.mpr List.nodup_range
 rw [XB,XB,Q06 (by exact GN hi hs),Q06 (by exact GN hj hs)]at e2
 have h1:i < QBp:=by rw [Q03,hs];exact hi
 have h2:j < QBp:=by rw [Q03,hs];exact hj
 exact h ((List.getElem_inj (h₀:=h1) (Q1S:=h2) hn).mp (by simpa using e2))
theorem GP.ne' {p:XP QH} (g:GP n p) (hr:∀a b,a < n->b < n->r a=r b->a=b) {i j:QH} (hi:i < n) (hj:j < n) (h:i≠j):Q0i i 0≠Q0i j 0:=fun e=>g.ne hr hi hj h (by unfold RP;rw [e])
theorem H0 (hr:∀a b,a < n->b < n->r a=r b->a=b) {p:XP QH} (g:GP n p):∀f k,1<=k->k+f<=n->Chn r p k ->
  ∃m,QBD n (ltR r) (kas_asc p f k) m/\k<=m/\m<=k+f/\Chn r p m/\(m < k+f->RP r p m < RP r p (m - 1))
 | 0,k,h1,h2,c=>⟨k,.ret k,Qh _,Qh _,c,fun h=>XF h (XO _)⟩
 | f+1,k,h1,h2,c=>by
  by_cases hlt:RP r p k < RP r p (k - 1)
  ·refine ⟨k,.ask (Q8K (by exact Ck h2)) (Q8K (by exact CM h1 h2)) (QCy hr (by exact Ck h2) (by exact CM h1 h2) (by exact GM h1)) ?_,Qh _,by exact Ks,c,fun _=>hlt⟩
   rw [show ltR r (Q0i k 0) (Q0i (k - 1) 0)=QM from Yz hlt,QY QA]
   exact .ret k
  ·have hgt:RP r p (k - 1) < RP r p k:=ine hlt (g.ne hr (i:=k) (j:=k - 1) (by exact Ck h2) (by exact CM h1 h2) (by exact GM h1))
   obtain (⟨m,h3,h4,h5,h6,h7⟩):=H0 hr g f (k+1) (by exact Su) (by exact Mf h2) fun i j hij hj=>by
    by_cases q:j=k
    ·subst q
     by_cases q2:i=j - 1
     ·rw [q2];exact hgt
     ·exact Q5B (c i (j - 1) (by exact Ss hij q2) (by exact Sr h1)) hgt
    ·exact c i j hij (by exact Bl hj q)
   refine ⟨m,.ask (Q8K (by exact Ck h2)) (Q8K (by exact CM h1 h2)) (QCy hr (by exact Ck h2) (by exact CM h1 h2) (by exact GM h1)) ?_,by exact GL h4,by exact Sq h5,h6,fun h=>h7 (by exact adp h)⟩
   rw [show ltR r (Q0i k 0) (Q0i (k - 1) 0)=QJ from Yl hlt,QN (by simp)]
   exact h3
theorem Ja (hr:∀a b,a < n->b < n->r a=r b->a=b) {p:XP QH} (g:GP n p):∀f k,1<=k->k+f<=n->agg r p k ->
  ∃m,QBD n (ltR r) (kas_desc f p k 0) (p,m,0)/\k<=m/\m<=k+f/\agg r p m
 | 0,k,h1,h2,c=>⟨k,.ret _,Qh _,Qh _,c⟩
 | f+1,k,h1,h2,c=>by
  by_cases hlt:RP r p k < RP r p (k - 1)
  ·obtain (⟨m,h3,h4,h5,h6⟩):=Ja hr g f (k+1) (by exact Su) (by exact Mf h2) fun i j hij hj=>by
    by_cases q:j=k
    ·subst q
     by_cases q2:i=j - 1
     ·rw [q2];exact hlt
     ·exact Q5B hlt (c i (j - 1) (by exact Ss hij q2) (by exact Sr h1))
    ·exact c i j hij (by exact Bl hj q)
   refine ⟨m,.ask (Q8K (by exact Ck h2)) (Q8K (by exact CM h1 h2)) (QCy hr (by exact Ck h2) (by exact CM h1 h2) (by exact GM h1)) ?_,by exact GL h4,by exact Sq h5,h6⟩
   rw [show ltR r (Q0i k 0) (Q0i (k - 1) 0)=QM from Yz hlt,QY QA,QN (XO 0)]
   exact h3
  ·have hgt:RP r p (k - 1) < RP r p k:=ine hlt (g.ne hr (i:=k) (j:=k - 1) (by exact Ck h2) (by exact CM h1 h2) (by exact GM h1))
   refine ⟨k,.ask (Q8K (by exact Ck h2)) (Q8K (by exact CM h1 h2)) (QCy hr (by exact Ck h2) (by exact CM h1 h2) (by exact GM h1)) ?_,Qh _,by exact Ks,c⟩
   rw [show ltR r (Q0i k 0) (Q0i (k - 1) 0)=QJ from Yl hlt,QN (by simp)]
   refine .ask (Q8K (by exact CM h1 h2)) (Q8K (by exact Ck h2)) (QCy hr (by exact CM h1 h2) (by exact Ck h2) (by exact ado h1)) ?_
   rw [show ltR r (Q0i (k - 1) 0) (Q0i k 0)=QM from Yz hgt,QY QA]
   exact .ret _
theorem I4 {p:XP QH} {m:QH} (hm:m<=p.size) (k:QH):(QF5 p 0 m).Q4m k 0=if k < m then Q0i (m - 1 - k) 0 else Q0i k 0:=by
 unfold QF5
 rw [XB,XB,XB,getElem?_mirror_all hm]
 by_cases h:k < m
 ·rw [QY ⟨XQ _,h⟩,QY h,Q1D]
 ·rw [QN (fun q=>h q.2),QN h]
theorem GP.rev {p:XP QH} (g:GP n p) (m:QH):GP n (QF5 p 0 m):=((mirror_perm p 0 m _).toList).QR g
theorem LC (hr:∀a b,a < n->b < n->r a=r b->a=b) {p:XP QH} (g:GP n p) (hn:1<=n) :
  ∃m p',QBD n (ltR r) (kas_count n p) (m,p')/\GP n p'/\1<=m/\m<=n/\Chn r p' m:=by
 injections n r _ p _ _
 obtain (⟨m,h1,h2,h3,h4,h5⟩):=H0 hr g (n - 1) 1 (Qh _) (by exact adn hn) fun i j hij hj=>XF (QP hij (Q1H hj)) (YR _)
 by_cases q:m=n
 ·subst q
  refine ⟨m,p,QC2 ?_,g,h2,Qh _,h4⟩
  rw [QY (by simp)];exact .ret _
 ·by_cases q1:m > 1
  ·refine ⟨m,p,QC2 ?_,g,h2,by exact adm hn h3,h4⟩
   rw [QN (by simp [q]),QY q1]
   refine .ask (Q8K (by exact Sp hn)) (Q8K (by exact So hn h3 q q1)) (QCy hr (by exact Sp hn) (by exact So hn h3 q q1) (by exact adl q1)) ?_
   rw [show ltR r (Q0i 0 0) (Q0i (m - 1) 0)=QM from Yz (h4 0 (m - 1) (by exact adk q1) (by exact adj q1)),QY QA]
   exact .ret _
  ·have hm:m=1:=by exact adi h2 q1
   subst hm
   have h6:=h5 (by exact adh hn q)
   obtain ⟨d,d1,d2,d3,d4⟩:=Ja hr g (n - (1+1)) (1+1) (by exact U7) (by exact adg hn q) fun i j hij hj=>by
    have:i=0/\j=1:=by exact ⟨adf hij hj,ade hij hj⟩
    rw [this.1,this.2];exact h6
   have gs:=QGx
   have hd:d<=p.size:=by exact adc hn q d3 gs
   have g':=g.rev d
   obtain ⟨m,a1,a2,a3,a4,_⟩:=H0 hr g' (n - d) d (by exact adb d2) (by exact ac9 gs hd) fun i j hij hj=>by
    unfold RP
    rw [I4 hd,I4 hd,QY (by exact Ds hij hj),QY hj]
    exact d4 (d - 1 - j) (d - 1 - i) (by exact ac8 d2 hij hj) (by exact ac7 d2)
   refine ⟨m,QF5 p 0 d,QC2 ?_,g',by exact ac6 d2 a2,by exact ac5 gs hd a3,a4⟩
   rw [QN (by simp [q]),QN q1]
   refine d1.bind ?_
   rw [QN (XO 0)]
   exact a1.bind (.ret _)
theorem Ej (hr:∀a b,a < n->b < n->r a=r b->a=b) {p:XP QH} (g:GP n p) {k:QH} (hk:k < n) (c:Chn r p k):∀f l h,l<=h->h<=k->h - l<=f->(∀i,i < l->RP r p i < RP r p k)->(∀i,h<=i->i < k->RP r p k < RP r p i) ->
  ∃m,QBD n (ltR r) (kas_place p k f l h) m/\m<=k/\(∀i,i < m->RP r p i < RP r p k)/\(∀i,m<=i->i < k->RP r p k < RP r p i)
 | 0,l,h,h1,h2,h3,h4,h5=>⟨l,.ret l,by exact L9 h1 h2,h4,fun i a b=>h5 i (by exact ac4 h3 a) b⟩
 | f+1,l,h,h1,h2,h3,h4,h5=>by
  unfold kas_place
  by_cases q:l >= h
  ·rw [QY q];exact ⟨l,.ret l,by exact L9 h1 h2,h4,fun i a b=>h5 i (by exact L9 q a) b⟩
  ·rw [QN q]
   have m0:=afI h1
   have m1:=afH (Nat.lt_of_not_le q)
   have hn1:(l+h) / 2 < k:=QP m1 h2
   have hn2:(l+h) / 2 < n:=Q1G hn1 hk
   have hn3:k≠(l+h) / 2:=Y8 hn1
   by_cases hlt:RP r p k < RP r p ((l+h) / 2)
   ·obtain (⟨m,a1,a2,a3,a4⟩):=Ej hr g hk c f l ((l+h) / 2) m0 (X7 hn1) (Q1H (QP (Q7p m0 m1) h3)) h4 fun i a b=>by
     by_cases e:i=(l+h) / 2
     ·rw [e];exact hlt
     ·exact Q5B hlt (c _ i (by exact Sx a e) b)
    refine ⟨m,.ask (Q8K hk) (Q8K hn2) (QCy hr hk hn2 hn3) ?_,a2,a3,a4⟩
    rw [show ltR r (Q0i k 0) (Q0i ((l+h) / 2) 0)=QM from Yz hlt,QY QA]
    exact a1
   ·have hgt:RP r p ((l+h) / 2) < RP r p k:=ine hlt (g.ne hr (i:=k) (j:=(l+h) / 2) hk hn2 hn3)
    obtain (⟨m,a1,a2,a3,a4⟩):=Ej hr g hk c f ((l+h) / 2+1) h m1 h2 (Qz (Q8l (Q4D m0) h) (QAi h3)) (fun i a=>by
     by_cases e:i=(l+h) / 2
     ·rw [e];exact hgt
     ·exact Q5B (c i _ (by exact Bl a e) hn1) hgt) h5
    refine ⟨m,.ask (Q8K hk) (Q8K hn2) (QCy hr hk hn2 hn3) ?_,a2,a3,a4⟩
    rw [show ltR r (Q0i k 0) (Q0i ((l+h) / 2) 0)=QJ from Yl hlt,QN (by simp)]
    exact a1
theorem K8 (hr:∀a b,a < n->b < n->r a=r b->a=b):∀f k (p:XP QH),GP n p->Chn r p k->k+f=n->∃p',QBD n (ltR r) (kas_bin f p k) p'/\GP n p'/\Chn r p' n
 | 0,k,p,g,c,e=>⟨p,.ret p,g,by rw [<- e];exact c⟩
 | f+1,k,p,g,c,e=>by
  have hk:k < n:=by exact Sm e
  obtain (⟨m,a1,a2,a3,a4⟩):=Ej hr g hk c k 0 k (XQ _) (Qh _) (by exact Sv) (fun i h=>XF h (YR _)) (fun i h1 h2=>XF h2 (YW h1))
  have gs:=QGx
  have gb:GP n (bubble p k (k - m)):=((bubble_perm p k _).toList).QR g
  have hb:∀i,(bubble p k (k - m)).Q4m i 0=if i=m then Q0i k 0 else if m < i/\i<=k then Q0i (i - 1) 0 else Q0i i 0:=fun i=>by
   rw [XB,getElem?_bubble (by exact GN hk gs) _ (by exact Ld),show k - (k - m)=m by exact ac3 a2]
   split
   ·rw [XB]
   ·split <;> rw [XB]
  obtain (⟨p',b1,b2,b3⟩):=K8 hr f (k+1) (bubble p k (k - m)) gb (fun i j hij hj=>by
   unfold RP
   rw [hb,hb]
   by_cases i1:i=m
   ·rw [QY i1,QN (by exact ac2 hij i1),QY (by exact ⟨ac1 hij i1,Ic hj⟩)]
    exact a4 (j - 1) (by exact ac0 hij i1) (by exact acZ hij hj)
   ·rw [QN i1]
    by_cases j1:j=m
    ·rw [QY j1,QN (fun q=>QAS q.1 (j1▸hij))]
     exact a3 i (by exact acY hij j1)
    ·rw [QN j1]
     by_cases i2:m < i
     ·rw [QY (by exact ⟨Kq i2,acX hij hj⟩),QY (by exact ⟨Dr hij i2,Ic hj⟩)]
      exact c (i - 1) (j - 1) (by exact acW hij i2) (by exact acU hij hj i2)
     ·rw [QN (fun q=>i2 q.1)]
      by_cases j2:m < j
      ·rw [QY (by exact ⟨Kq j2,Ic hj⟩)]
       exact c i (j - 1) (by exact acT i1 i2 j2) (by exact acS hj j2)
      ·rw [QN (fun q=>j2 q.1)]
       exact c i j hij (by exact acR a2 j1 j2)) (by exact Sk e)
  exact ⟨p',a1.bind b1,b2,b3⟩
theorem MP (hr:∀a b,a < n->b < n->r a=r b->a=b) (hn:1<=n):∃p,QBD n (ltR r) (kas_sort n) p/\GP n p/\Chn r p n:=by
 have g0:GP n (Q75 (X6 n)):=by unfold GP;exact .Q1J _
 refine ew2 (LC hr g0 hn) fun m p yq66=>?_;refine an5 yq66 fun h1 h2 h3 h4 h5=>?_;clear yq66
 by_cases q:m < n
 ·refine ew1 (K8 hr (n - max m 1) (max m 1) p h2 (by rw [QBq h3];exact h5) (by rw [QBq h3];exact acQ q)) fun p' yq67=>?_;refine an3 yq67 fun b1 b2 b3=>?_;clear yq67
  refine ⟨p',QC2 ?_,b2,b3⟩
  rw [QY q];exact b1
 ·have:m=n:=by exact Sw h4 q
  subst this
  refine ⟨p,QC2 ?_,h2,h5⟩
  rw [QN q];exact .ret _
end
end
end Mini
end
section
open PySem PySem.W PySem.Calls PyProof.Rows
namespace Mini
noncomputable def Nq (K:Frag) (C:Addr):Bool:=(findIn K (.ref C) "__lt__" == some (some (.builtin "tuple.__lt__")))&&(subIn K (.ref C) (.type "tuple") == some true)
section
variable {prog:Program} {w:World} {A:Around} {E:Value->Shared->Prop} {s:Shared} {K:Frag} {C:Addr}
mutual
theorem OB:QBa "tuple.__lt__"=QB .slot:=by decide +XD
theorem Mx:QHL "tuple.__lt__"=QB ("tuple","__lt__"):=by decide +XD
theorem My:QBx "tuple.__lt__"=QM:=by decide +XD
theorem I6 {α:Type} {x:α} {l:QC α} {R:QW Q2t×Yb->QZ->Prop} {Yf:α->QW Q2t×Yb->Sem (ForInStep (QW Q2t×Yb))}
  (h:Qp (Qi XE w) A (Yf x (QG,())) (fun r s'=>match r with | .Q55 b=>R b s' | .yield _=>Yn) E s):Qp (Qi XE w) A (QGH (x::l) (QG,()) Yf) R E s:=by
 rw [Q1A]
 refine Q9 (Yd h (fun r s' hr=>?_) fun _ _ e=>e)
 cases r with
 | Q55 b=>exact QF hr
 | yield b=>exact hr.elim
theorem Gf {a b:Qq} {oa ob:ZG} {p q:X4} {t u:Tok} {xs ys:QC QI} {na nb:QH} {R:Q2t->QZ->Prop} (lb:ZO (Qi XE w) QV (Zz (.QQ b) (.Qk "tuple")) QM)
  (ha:Qc a=QB oa) (hda:oa.data=.seq (.Qm p t::xs).Xe na) (hb:Qc b=QB ob) (hdb:QHA=.seq (.Qm q u::ys).Xe nb) (hne:p≠q)
  (h:R (.Q55 (.ret (.Ys (XY (p < q))))) s):Qp (Qi XE w) A (Builtin.«tuple.__lt__» ⟨[.QQ a,.QQ b],[]⟩) R E s:=by
 show Qp _ _ (slotArgs "__lt__" 1 ⟨[.QQ a,.QQ b],[]⟩ >>= _) _ _ _
 refine Q9 (QF ?_)
 dsimp only
 refine Q9 (lb.here ?_)
 simp only [Q4X,XU,Zi]
 unfold Q2f
 refine Q9 (Q9 (Z0 ha hda (QF ?_)))
 refine Q9 (Q9 (Z0 hb hdb (QF ?_)))
 dsimp only [List.zip_cons_cons]
 refine Q9 (I6 ?_)
 dsimp only
 refine Q9 (wpAny_eqBool_int ?_)
 rw [show (p == q)=QJ from Yo hne]
 simp only [Q8D,Q5u]
 refine Q9 (Q0b (Q9 ?_))
 show Qp _ _ (Q0t .Lt (.Qm p t) (.Qm q u)) _ _ _
 exact lt_int (Q9 (QF (QF (QF h))))
theorem LN {Q1g y:QI} {Q1z:X8} {id:XC} {M:Model} {Q:QW QI->QZ->Prop} (L:ZO M QV (Q1s Q1g Q1z) (QB (.Qd id))) (hb:QFz (.Qd id) Q1g=ZX (.Qd id,[Q1g]))
  (hc:Qp M A (Q0Q (.Qd id) [Q1g,y]) (fun v=>Q (QB v)) E s):Qp M A (Q8w Q1g Q1z [y]) Q E s:=by
 simp only [Q8w,Q8p]
 refine Xa (Q9 (Q9 (L.here ?_)))
 simp only [hb]
 refine Q9 (Q1o (QDy ?_))
 have fin:Qp M A (Q0Q (.Qd id) [Q1g,y] >>= fun v=>ZX (QB v)) Q E s:=Q9 (Yd hc (fun v s' h'=>QF h') fun _ _ h'=>h')
 split
 ·exact Q9 (QF (QF fin))
 ·exact Q84 (Q9 (QF (QF fin)))
theorem JQ {a b:Qq} {oa ob:ZG} {p q:X4} {t u:Tok} {xs ys:QC QI} {na nb:QH} {Q:Qu->QZ->Prop} (hu:Q8Z < QDo) (X:QAw QV) (hk:Nq K C=QM)
  (ha:Qc a=QB oa) (hca:oa.cls=.QQ C) (hda:oa.data=.seq (.Qm p t::xs).Xe na) (hb:Qc b=QB ob) (hcb:ob.cls=.QQ C) (hdb:QHA=.seq (.Qm q u::ys).Xe nb) (hne:p≠q)
  (h:Q (XY (p < q)) s):Qp (Qi XE w) A (keyLt' oneType' (.QQ a) (.QQ b)) Q E s:=by
 simp only [Nq,X9,ZM]at hk
 have ta:ZO (Qi XE w) QV (Q16 (.QQ a)) (.QQ C):=by
  have:ZO (Qi XE w) QV (Q16 (.QQ a)) oa.cls:=(Q1m ha).Q2q .now
  rw [hca]at this;exact this
 have tb:ZO (Qi XE w) QV (Q16 (.QQ b)) (.QQ C):=by
  have:ZO (Qi XE w) QV (Q16 (.QQ b)) ob.cls:=(Q1m hb).Q2q .now
  rw [hcb]at this;exact this
 have L:ZO (Qi XE w) QV (Q1s (.QQ a) "__lt__") (QB (.Qd "tuple.__lt__")):=ta.andThen (Q28 X hk.1)
 have La:ZO (Qi XE w) QV (Zz (.QQ a) (.Qk "tuple")) QM:=ta.andThen (Q5y X hk.2)
 have Lb:ZO (Qi XE w) QV (Zz (.QQ b) (.Qk "tuple")) QM:=tb.andThen (Q5y X hk.2)
 rw [keyLt'_oneType,oneLt'_eq]
 rw [QY QA]
 refine Q9 (wpAny_cRoomFor hu ?_)
 refine Q9 (LN L (PySem.F.slot_tuple_lt.bind _) ?_)
 refine Q26 (Q2Z (b:=Builtin.«tuple.__lt__») My PySem.F.entry_tuple_lt ?_)
 refine Q72 (i:="tuple.__lt__") (Q7q:="tuple") (n:="__lt__") (Q1g:=.QQ a) (QA3:=[.QQ b]) (kw:=[]) OB Mx La (PySem.F.args_tuple_lt_2 _ _) ?_
 refine Gf Lb ha hda hb hdb hne ?_
 exact Q3k h
end
end
end Mini
end
section
open PySem PySem.W PySem.Calls PyProof.Rows
namespace Mini
mutual
def S8 (K:Q1B) (Xc:QC QU):PT QU:=fun σ P=>on1 Xc fun a=>Ai a fun l=>∃(C:Qq) (ts:QC (QH×X4×QC QU)),Nq K C=QM/\QS l=.Qs (QCr fun t=>.QQ t.1)/\Q2v < 64/\(∀t∈ts,t.1 < QO/\QS t.1=.sub C (.Qm t.2.1::t.2.2))/\(QCr (·.2.1)).QED /\
   ∀us:QC (QH×X4×QC QU),QF6 ts->Q8L (fun x y=>x.2.1 < y.2.1)->P .QG (Yy l (.Qs (QF7 fun t=>.QQ t.1)))
theorem VRs.refs {Λ:Lab}:∀ {ls:QC QH} {vs:QC QI},VRs Λ (QBE Ya) vs->vs=QBE fun l=>.QQ (Xs l)
 | [],vs,h=>by cases h;rfl
 | l::ls,vs,h=>by
  rw [XV]at h
  cases h with | Xx h1 h2=>rw [h1.2,VRs.refs h2];rfl
theorem QGQ {Λ:Lab}:∀ {ls:QC QH},(∀l∈ls,l < Xi)->VRs Λ (QBE Ya) (QBE fun l=>.QQ (Xs l))
 | [],_=>.Zo
 | l::ls,h=>.Xx ⟨h l (.Zf _),QA⟩ (QGQ fun k hk=>h k (.Q38 _ hk))
end
section
variable {prog:Program} {w:World} {A:Around} {E:Value->Shared->Prop} {s:Shared}
mutual
theorem Lg {vs:QC QI} (h2:Q0U < 2):QEF (fun x=>x.2) (Q8M Xw)=Xw:=by
 rcases vs with _ | ⟨x,_ | ⟨y,r⟩⟩
 ·simp
 ·simp
 ·exact XF h2 (YW (Q7T 2 Q7n))
theorem M5 {α:Type} {R:α->α->Prop} {l:QC α} (h:ZJ < 2):l.Pairwise R:=by
 rcases l with _ | ⟨x,_ | ⟨y,r⟩⟩
 ·exact .Zo
 ·exact List.pairwise_singleton _ _
 ·exact XF h (YW (Q7T 2 Q7n))
theorem Jt {a:Qq} {vs:QC QI} {n:QH} {Q:QI->QZ->Prop} (ho:Qc a=QB (Q6O "list" Xw n)) (h2:Q0U < 2)
  (h:∀h' e,(∀b o,b≠a->Qc b=QB o->ZB b=QB o)->ZB a=QB (Q6O "list" Xw e)->Q .QG {s with YO:=h'}) :
  Qp (Qi XE w) A (Q0Q (.Qd "list.sort") [.QQ a]) Q E s:=by
 injections XE w A E s a vs n Q _ _ _
 refine Y3 slot_list_sort ⟨_,ho,QA⟩ entry_list_sort ?_ (args_list_sort _)
 rw [list_sort_plain]
 have ha:a < QD:=X0 ho
 refine Q9 (listItems_at ho QA ?_)
 refine Q9 (QDa ho QA ?_ (by rw [XW,XA];exact Sj h2) (XQ _))
 have zO:∃e1,(Q6P a (Zb fun _=>(#[]:XP QI))).QBh a=QB (Q6O "list" #[] e1):=⟨_,QBr ho fun _=>#[]⟩
 obtain ⟨e1,ho1⟩:=zO
 refine Q9 (QGR ho1 QA ?_)
 refine Q9 (wpAny_newTuple ?_ (by show Q0U<=_;rw [XA];exact Sj h2))
 refine Q9 (wpAny_newList ?_ (XQ _))
 refine Xa ?_
 show Qp (Qi XE w) Q96 _ _ E {s with YO:=((Q6P a (Zb fun _=>(#[]:XP QI))).Q6G (Q6O "tuple" Xw 0)).Q6G (Q6O "list" #[] 0)}
 dsimp only
 have hn2:vs.toArray.size < 2:=by rw [XW];exact h2
 rw [QY hn2,QY hn2]
 refine Q9 (QF ?_)
 rw [StateT.run_pure]
 refine Q9 (QF ?_)
 dsimp only
 have ho2:(((Q6P a (Zb fun _=>(#[]:XP QI))).Q6G (Q6O "tuple" Xw 0)).Q6G (Q6O "list" #[] 0)).QBh a=QB (Q6O "list" #[] e1):=Qa _ (Qa _ ho1)
 refine Q9 (QGR ho2 QA ?_)
 have hout:QEF (fun x=>x.2) (arrOf (SortSt.mk' general' (Q8M Xw) #[] 7 QG))=Xw:=by
  show QEF (fun x=>x.2) (Q8M Xw)=Xw
  exact Lg h2
 rw [hout]
 refine Q9 (QDa ho2 QA ?_ (XQ _) (by rw [XW,XA];exact acP h2))
 simp only [bne_self_eq_false,XU,Zi]
 have zO:∃e2,((((Q6P a (Zb fun _=>(#[]:XP QI))).Q6G (Q6O "tuple" Xw 0)).Q6G (Q6O "list" #[] 0)).QGw a (Zb fun _=>Xw)).QBh a=QB (Q6O "list" Xw e2):=⟨_,QBr ho2 fun _=>Xw⟩
 obtain ⟨e2,ho3⟩:=zO
 refine QF ⟨_,QA,h _ e2 ?_ ho3⟩;intros b o hb e
 refine (XX ..).QCf b o hb (Qa _ (Qa _ ((XX ..).QCf b o hb e)))
end
end
section
variable {c:Cx} {A:Around} {env:Env} {fm:Fm} {Λ:Lab} {σ:St}
theorem MT (hc:c.Ok) (hA:AOk A) {args:List Val} {as:List Value} {P:Val->St->Prop} (ha:VRs Λ args as) (h:S8 c.K args σ P):Sim c A env fm Λ (call (.builtin "list.sort") as) VR σ P:=by
 injections c A env fm Λ σ _ _ args as P _ _
 refine on1.el ha h ?_;intros v a h1 h;refine Ai.el h ?_;intros l ev h;subst ev
 ·skip
  obtain ⟨C,ts,hK,e,h64,hts,hnd,p⟩:=h
  refine Sim.of ?_;intros fz s ok r Q E q
  rw [show (ts.map fun t=>Val.ref t.1)=(ts.map (·.1)).map Val.ref by rw [List.map_map];rfl]at e
  obtain ⟨rfl,g1,vs,n,a1,a2⟩:=(r.listsV h1 e)
  have hvs:=a2.refs
  subst hvs
  have hlen:((ts.map (·.1)).map fun l=>Value.ref (Λ.f l)).length=ts.length:=by simp
  have hlt:∀t∈ts,t.1 < Λ.n:=fun t ht=>by rw [r.nn];exact (hts t ht).1
  have fin:∀(us:List (Nat×Int×List Val)) (h':Heap) (tk:Nat),us.Perm ts->us.Pairwise (fun x y=>x.2.1 < y.2.1)->Rel c fz env.locals Λ (σ.upd l (.list (us.map fun t=>.ref t.1))) {s with heap:=h',toks:=tk}->Q .none {s with heap:=h',toks:=tk} :=
   fun us h' tk hp hs r'=>q Λ _ .none .none _ (.refl _) (p us hp hs) rfl r'
  have orl:∀(us:List (Nat×Int×List Val)) e,us.Perm ts->OR c.prog c.w Λ (.list (us.map fun t=>.ref t.1)) (W.listOf ((us.map (·.1)).map fun l=>Value.ref (Λ.f l)).toArray e):=fun us e hp =>
   ⟨_,e,rfl,by
    rw [show (us.map fun t=>Val.ref t.1)=(us.map (·.1)).map Val.ref by rw [List.map_map];rfl]
    refine VRs.of_refs ?_
    intros l hl
    obtain ⟨t,ht,rfl⟩:=(List.mem_map.mp hl)
    exact hlt t (hp.mem_iff.mp ht)⟩
  by_cases h2:ts.length < 2
  ·refine Jt a1 (by rw [hlen];exact h2) ?_;intros h' e hk hget
   refine fin ts h' s.toks (.refl _) ?_ (r.upd (tk:=s.toks) g1 hk hget (orl ts e (.refl _)))
   exact M5 h2
  ·obtain ⟨m,F,_⟩:=r.fr
   have hne:∀t∈ts,Λ.f t.1≠Λ.f l:=by
    intros t ht q
    have:=r.inj _ _ (hlt t ht) (by rw [r.nn];exact g1) q
    have h3:=(hts t ht).2
    rw [this,e]at h3;cases h3
   have hob:∀ {h:Heap} {X:List (Addr×Obj)} (N:News c.g env.locals h (X++Db c.g env.locals s.heap (Λ.f l))) (t) (ht:t∈ts),∃vs n d tk,h.get? (Λ.f t.1)=some {cls:=.ref C,dict:=d,data:=.seq (.int t.2.1 tk::vs).toArray n}:=fun N t ht=>by
    refine ew1 (r.ob t.1 (hlt t ht)) fun o yq6h=>?_;refine an2 yq6h fun ho hor=>?_;clear yq6h
    rw [(hts t ht).2]at hor
    obtain (⟨vs,n,d,rfl,hv⟩):=hor
    cases hv with
    | cons h1 h2 =>
     obtain (⟨tk,rfl⟩):=h1
     have hm:=BS.mp (r.mem (hlt t ht) ho)
     exact ⟨_,n,d,tk,(N _ (List.mem_append_right _ (CF.mpr ⟨hne t ht,hm.1,hm.2.1,ho⟩))).1⟩
   have hty:∀ {h:Heap} {X:List (Addr×Obj)} (N:News c.g env.locals h (X++Db c.g env.locals s.heap (Λ.f l))),∀v∈((ts.map (·.1)).map fun l=>Value.ref (Λ.f l)),Looks (model c.prog c.w) h (typeOf v) (.ref C):=fun N v hv=>by
    refine ew1 (List.mem_map.mp hv) fun x yq6i=>?_;refine an2 yq6i fun hx yq6j=>?_;obtain rfl:=yq6j;clear yq6i
    refine ew1 (List.mem_map.mp hx) fun t yq6k=>?_;refine an2 yq6k fun ht yq6l=>?_;obtain rfl:=yq6l;clear yq6k
    refine ew4 (hob N t ht) fun vs n d tk hg=>?_
    exact (Looks.ld hg).andThen .now
   have he:((ts.map (·.1)).map fun l=>Value.ref (Λ.f l)).toArray.toList=((ts.map (·.1)).map fun l=>Value.ref (Λ.f l)):=by simp
   refine kas_lsort F (r.ledAt g1 a1) (.head Dp) he (by rw [hlen];exact acO h2) (by rw [hlen];exact h64) (T:=.ref C) (fun e1 h' F' N'=>hty (X:=[(Λ.f l,seqObj "list" #[] e1)]) N') ?_ ?_
   ·have:(Value.ref C == Value.ref C)=true:=by simp
    rw [this];rfl
   ·intros e1 h' F' N'
    let rk:Nat->Int:=fun i=>(ts.getD i (0,0,[])).2.1
    have hrk:∀i j,i < ts.length->j < ts.length->rk i=rk j->i=j:=by
     intros i j hi hj e
     have hi':i < (ts.map (·.2.1)).length:=by simpa using hi
     have hj':j < (ts.map (·.2.1)).length:=by simpa using hj
     refine (List.getElem_inj (h₀:=hi') (h₁:=hj') hnd).mp ?_
     simpa [rk,List.getD_eq_getElem?_getD,hi,hj] using e
    obtain ⟨p',hrun,gp,chn⟩:=(MP (n:=ts.length) (r:=rk) hrk (by exact acN h2))
    rw [hlen]
    refine hrun.wp (I:=fun s'=>s'={s with heap:=h'}) ?_ ?_ _ rfl
    ·intros i j C' s' hi hj hij hI hC
     subst hI
     have gi:∀i,i < ts.length->((ts.map (·.1)).map fun l=>Value.ref (Λ.f l)).getD i Value.none=.ref (Λ.f (ts.getD i (0,0,[])).1)/\ts.getD i (0,0,[])∈ts:=by
      intros i hi
      constructor
      ·simp [List.getD_eq_getElem?_getD,hi]
      ·rw [List.getD_eq_getElem?_getD,List.getElem?_eq_getElem hi];exact List.getElem_mem hi
     obtain ⟨ei,mi⟩:=gi i hi
     obtain ⟨ej,mj⟩:=gi j hj
     unfold kas_ask
     rw [ei,ej]
     obtain ⟨xs,n1,d1,t1,b1⟩:=(hob (X:=[(Λ.f l,seqObj "list" #[] e1)]) N' _ mi)
     obtain ⟨ys,n2,d2,t2,b2⟩:=(hob (X:=[(Λ.f l,seqObj "list" #[] e1)]) N' _ mj)
     have hX:c.K.In h':=hc.inK.keeps F'.keep
     exact JQ (s:={s with heap:=h'}) (show A.in1.units < cLine from (by have:=hA.units;show A.units+_ < _;exact acM this)) hX hK b1 rfl rfl b2 rfl rfl (fun q=>hij (hrk i j hi hj q)) (hC _ rfl)
    ·intros s' hI
     subst hI
     have hsz:=gp.size
     let us:=p'.toList.map fun i=>ts.getD i (0,0,[])
     have hperm:us.Perm ts:=by
      refine (gp.map _).trans (List.Perm.of_eq ?_)
      refine List.ext_getElem (by simp) ?_;intros i h1 h2
      simp at h1
      simp [List.getD_eq_getElem?_getD,h1]
     have hsort:us.Pairwise (fun x y=>x.2.1 < y.2.1):=by
      rw [List.pairwise_iff_getElem]
      intros i j hi hj hij
      simp only [us,List.length_map,Array.length_toList]at hi hj
      have:=chn i j hij (by exact acL hsz hj)
      simpa [us,RP,rk,Array.getD_eq_getD_getElem?,hi,hj] using this
     have hmap:(p'.toList.map fun i=>((ts.map (·.1)).map fun l=>Value.ref (Λ.f l)).getD i Value.none)=(us.map (·.1)).map fun l=>Value.ref (Λ.f l):=by
      simp only [us,List.map_map]
      refine List.map_congr_left ?_;intros i hi
      have hi':i < ts.length:=by have:=gp.mem_iff.mp hi;simpa using this
      simp [List.getD_eq_getElem?_getD,hi']
     rw [hmap]
     refine KasFin.intro F' N' (.head Dp) ?_;intros h'' c' F'' N''
     exact fin us h'' s.toks hperm hsort (r.turned (tk:=s.toks) g1 F F'' N'' (orl us c' hperm))
end
end Mini
end
section
open PySem PySem.W PySem.Calls PyProof.Rows
namespace Mini
noncomputable def KG (args:List Val):PT Val:=fun σ P=>on2 args fun fv a=>Ai a fun l=>Af (σ.hp l) fun xs=>P (.ref (σ.nx+2)) (((σ.alloc (.liter l 0)).alloc (.tuple [.ref σ.nx])).alloc (.mapo fv (σ.nx+1)))
noncomputable def Nb (K:Frag) (args:List Val):PT Val:=fun σ P=>on1 args fun a=>Ai a fun l=>Cq (σ.hp l) fun C xs=>Du K C=true/\D0 K C=true/\xs.length<=sizeLine/\0 < xs.length/\P (.ref σ.nx) (σ.alloc (.tuple xs))
noncomputable def Ta (K:Frag) (args:List Val):PT Val:=fun σ P=>on1 args fun v=>TR v σ P\/Ai v fun l=>Cq (σ.hp l) fun C xs=>D0 K C=true/\xs.length<=sizeLine/\P (.int xs.length) σ
noncomputable def Ek (cal:Av) (m tl il l:Nat) (fv:Val) (xs:List Val):List Val->Nat->List Val->PT (List Val)
 | [],i,acc=>fun σ P=>(σ.hp m=.mapo fv tl/\σ.hp tl=.tuple [.ref il]/\σ.hp il=.liter l i/\σ.hp l=.list xs)/\P acc (σ.upd il .any)
 | x::r,i,acc=>fun σ P=>(σ.hp m=.mapo fv tl/\σ.hp tl=.tuple [.ref il]/\σ.hp il=.liter l i/\σ.hp l=.list xs) /\
   cal fv [x] (σ.upd il (.liter l (i+1))) fun v σ'=>Ek cal m tl il l fv xs r (i+1) (acc++[v]) σ' P
noncomputable def FE (cal:Av) (m:Nat) (fv:Val) (tl:Nat):PT Val:=fun σ P =>
 ∃il l xs,xs.length<=sizeLine/\Ek cal m tl il l fv xs xs 0 [] σ fun vs σ'=>P (.ref σ'.nx) (σ'.alloc (.list vs))
section
variable {c:Cx} {A:Around} {env:Env} {fm:Fm} {Λ:Lab} {σ:St}
mutual
theorem Ju {Xc:QC QU} {as:QC QI} {P:QU->St->Prop} (ha:VRs Λ Xc as) (h:KG Xc σ P):Zt c A X1 fm Λ (Q0Q (.Qk "map") as) VR σ P:=by
 injections c A X1 fm Λ σ Xc as P _ _
 refine QCb ha h ?_;intros fv v a b h1 h2 h;refine Q1Y h ?_;intros l ev h;subst ev
 refine Q4u h ?_;intros xs e h
 ··refine Zq ?_;intros fz s ok r Q E q
   obtain ⟨QA,g1,vs,n,a1,a2⟩:=(Q0w h2 e)
   have z1:(Dy QV (Xs l)).YT=QD+1:=Q0x ..
   have z2:(FM QV (Xs l)).YT=QD+2:=by rw [Q0x,z1]
   have e1:=XN Λ QD
   have r1:=Q9P (tk:=Y6) (o:=.Q8z l 0) (co:={cls:=.Qk "list_iterator",YC:=.Xp #[.QQ (Xs l),.Qm 0 0]}) ⟨QP h2.1 e1.1,QA,by rw [e1.2 l h2.1];rfl⟩ QA
   have e2:=XN (Z9 QD) (Dy QV (Xs l)).YT
   have v1:VR (Z9 QD) (.QQ QO) (.QQ QD):=Q1l _ Q3i
   have r2:=QA2 (tk:=Y6) (o:=.YM [.QQ QO]) (co:={cls:=.Qk "tuple",YC:=.seq #[.QQ QD]}) ⟨[.QQ QD],0,QA,.Xx (v1.ext e2) .Zo⟩ QA
   have e3:=XN ((Z9 QD).Q6G (Dy QV (Xs l)).YT) (FM QV (Xs l)).YT
   have hn2:(Z9 QD).n=(Qw (.Q8z l 0)).nx:=QHX
   have v2:VR ((Z9 QD).Q6G (Dy QV (Xs l)).YT) (.QQ (QO+1)) (.QQ (Dy QV (Xs l)).YT):=Q1l _ hn2
   have r3:=r2.push (tk:=Y6) (o:=.QEL fv (QO+1)) (co:={cls:=.Qk "map",YC:=.Xp #[.QQ (Dy QV (Xs l)).YT,a]}) ⟨QP v2.1 e3.1,a,by
    rw [e3.2 _ v2.1,<- v2.2],((h1.ext e1).ext e2).ext e3⟩ QA
   refine N2 (Al a1) ?_
   have v3:VR _ (.QQ (QO+2)) (.QQ (FM QV (Xs l)).YT):=Q1l (σ:=(Qw (.Q8z l 0)).Q9A (.YM [.QQ QO])) (FM QV (Xs l)).YT QHV
   rw [<- z2]
   exact q _ _ _ _ _ ((Ye e2).QR e3) h v3 r3
theorem Lk (hc:Q3S) (hA:AOk A) {Xc:QC QU} {as:QC QI} {P:QU->St->Prop} (ha:VRs Λ Xc as) (h:Nb c.K Xc σ P):Zt c A X1 fm Λ (Q0Q (.Qk "tuple") as) VR σ P:=by
 injections c A X1 fm Λ σ _ _ Xc as P _ _
 refine Q71 ha h ?_;intros v a h1 h;refine Q1Y h ?_;intros l ev h;subst ev
 refine Cq.el h ?_;intros C xs e h
 ··obtain ⟨k1,k2,k3,k4,p⟩:=h
   refine Zq ?_;intros fz s ok r Q E q
   obtain ⟨o,ho,hor⟩:=(Q3C l h1.1)
   rw [e]at hor
   obtain ⟨vs,n,d,QA,hv⟩:=hor
   have hl:=QB6
   rw [h1.2]
   refine HB Q0c (ZR Q0K) k1 k2 ho (by simpa [<- hl] using k3) (by simpa [<- hl] using k4) ?_;intros h' tk hk
   have r1:Rel c fz Qo Λ σ {s with YO:=h',Q0T:=tk}:=Q6H (tk:=tk) (dr:=Q1I) hk
   exact q _ _ _ _ _ (XN _ _) p (Q1l _ Q3i) (QA2 (tk:=tk) ⟨vs,0,QA,QAq (XN _ _)⟩ QA)
theorem MV (hc:Q3S) {Xc:QC QU} {as:QC QI} {P:QU->St->Prop} (ha:VRs Λ Xc as) (h:Ta c.K Xc σ P):Zt c A X1 fm Λ (Q0Q (.Qd "len") as) VR σ P:=by
 refine Q71 ha h fun v a h1 h=>Qy (fun h=>Kz h1 h) fun h=>Q1Y h fun l ev h=>?_;subst ev
 refine Cq.el h fun C xs e h=>?_
 ··refine an3 h fun k1 k2 p=>?_
   refine Zq fun fz s ok r Q E q=>?_
   refine ew1 (Q3C l h1.1) fun o yq6N=>?_;refine an2 yq6N fun ho hor=>?_;clear yq6N
   rw [e]at hor
   obtain (⟨vs,n,d,QA,hv⟩):=hor
   have hl:=QB6
   rw [h1.2]
   refine KT (ZR Q0K) k1 ho QA QA (He k2 (hl.trans Q23)) fun tk tk'=>?_
   exact q Λ _ _ _ σ (.Q1J _) p ⟨tk,by simp [hl]⟩ (Q9N (tk:=tk'))
theorem Ek.keep {YX:Av} {m tl il l:QH} {fv:QU} {xs:QC QU}:∀ {r:QC QU} {i:QH} {acc:QC QU} {σ:St} {P:QC QU->St->Prop},Ek YX m tl il l fv xs r i acc σ P->QS m=.QEL fv tl/\QS tl=.YM [.QQ il]/\QS il=.Q8z l i/\QS l=.Qs xs
 | [],_,_,_,_,h=>h.1
 | _::_,_,_,_,_,h=>h.1
theorem Rel.mapAt {fz:Qq->QW ZG} {L:Qq} {s:QZ} (r:Rel c fz L Λ σ s) {m tl il l i:QH} {fv:QU} {xs:QC QU} (hm:m < Xi) (k:QS m=.QEL fv tl/\QS tl=.YM [.QQ il]/\QS il=.Q8z l i/\QS l=.Qs xs) :
  ∃fc vs,tl < Xi/\il < Xi/\l < Xi/\VR Λ fv fc/\QAR QV (Xs m) (Xs tl) (Xs il) (Xs l) fc i/\Q2M (Xs l) (Q75 vs)/\VRs Λ xs vs:=by
 injections c Λ σ fz L s _ m tl il l i fv xs _ _
 obtain ⟨k1,k2,k3,k4⟩:=k
 obtain ⟨o,ho,hor⟩:=(Q3C m hm)
 rw [k1]at hor
 obtain ⟨htl,fc,QA,hfc⟩:=hor
 obtain ⟨ot,hot,hort⟩:=(Q3C tl htl)
 rw [k2]at hort
 obtain ⟨vs,n,QA,hv⟩:=hort
 cases hv with | Xx h1 h2 =>
 cases h2
 have hil:=h1.1
 rw [h1.2]at hot
 obtain ⟨oi,hoi,hori⟩:=(Q3C il hil)
 rw [k3]at hori
 obtain ⟨hl,hc1,hd1⟩:=hori
 obtain ⟨vs,n',hob,hvs⟩:=(r.lists (by rw [<- Q3i];exact hl) k4)
 exact ⟨fc,vs,htl,hil,hl,hfc,⟨⟨_,ho,QA,QA⟩,⟨_,n,hot,QA⟩,⟨oi,hoi,hc1,hd1⟩⟩,Al hob,hvs⟩
theorem VR.fn {Λ:Lab} {v:QU} {a b:QI} (h:VR Λ v a) (hr:∀l,v≠.QQ l->Yn) (k:VR Λ v b):a=b:=by
 cases v with
 | QQ l=>rw [h.2,k.2]
 | QG=>exact (hr 0 (by simp)).Q2m
 | Ys _=>exact (hr 0 (by simp)).Q2m
 | Qm _=>exact (hr 0 (by simp)).Q2m
 | Xt _=>exact (hr 0 (by simp)).Q2m
 | imm _=>exact (hr 0 (by simp)).Q2m
theorem Room.by3 {d:QH} (hA:Q8u (d+1) A):Q8u d A.in1.in1.in1:=⟨Q0c,by
  have:=Q7v
  exact acE this,by
  have:=Q5Z
  exact SN this⟩
theorem Iv {YX:Av} {d:QH} (hA:Q8u (d+1) A) (hcal:∀A',Q8u d A'->∀X1 fm fv Λ σ P vs as x,VR Λ fv x->VRs Λ vs as->YX fv vs σ P->Zt c A' X1 fm Λ (Q0Q x as) VR σ P)
  {m tl:QH} {fv:QU} {x:QI} {P:QU->St->Prop} (hx:VR Λ (.QQ m) x) (h:FE YX m fv tl σ P):Zt c A X1 fm Λ (Q0Q (.Qk "list") [x]) VR σ P:=by
 injections c A X1 fm Λ σ YX d _ _ m tl fv x P _ _
 obtain ⟨il,l,xs,Q2Y,h⟩:=h
 refine Zq ?_;intros fz s ok r Q E q
 have hm:=hx.1
 rw [hx.2]
 obtain ⟨fc0,vs0,htl,hil,hl,hfc0,hM0,_,_⟩:=(r.mapAt hm h.keep)
 have sfz:=Q5F
 have sL:=Q89
 have slab:∀k,k < Xi->Xs k≠QD:=fun k hk e=>Q5W k hk (by rw [e];exact .Zf _)
 refine IU hM0 (J:=fun k acc s'=>∃Zd XH i Q78,Q0C Zd/\Rel c fz Qo Zd XH s'/\(∀l,l < QDi->Q4d l∉[QD])/\(∃c,Q3x QD=QB {cls:=.Qk "list",YC:=.seq acc c})/\VRs Zd Q78 Q4J/\i+k=Qn/\accv.length=i/\Ek YX m tl il l fv xs (Q7C i) i Q78 XH fun vs XH=>P (.QQ Xh) (QEG (.Qs vs))) Qn ?_ ?_ ?_
 ·intros h' c' hk hS
  exact ⟨Λ,σ,0,[],.Q1J _,Q6H (tk:=Y6) (dr:=Q1I) hk,fun k hk' hb=>slab k hk' (Qe hb),⟨c',hS⟩,.Zo,by exact acD,QA,by simpa using h⟩
 ·intros k acc s' Q2X E'
  obtain ⟨Zd,XH,i,Q78,ext,r',hlab,⟨c',hS⟩,QBn,hik,hai,hgo⟩:=Q2X
  have hm':=QP hm ext.1
  obtain ⟨fc,vs,htl',hil',hl',hfc,hM,hL,hvs⟩:=(r'.mapAt hm' QGS)
  have Q8N:=QGS
  rw [ext.2 m hm]at hM
  have hi:i < Qn:=by exact Sm hik
  have Q6d:Q7C i=xs[i]::Q7C (i+1):=YP hi
  rw [Q6d]at hgo
  obtain ⟨cx,hcx,hvx⟩:=(hvs.get (i:=i) (v:=xs[i]) (by simp [hi]))
  have ne1:Xs m≠Q4d il:=by
   intros q
   rw [<- ext.2 m hm]at q
   have:=QGq _ _ hm' hil' q
   rw [this,Q8N.2.2.1]at Q8N;cases Q8N.1
  have ne2:Q4d tl≠Q4d il:=by
   intros q
   have:=QGq _ _ htl' hil' q
   rw [this,Q8N.2.2.1]at Q8N;cases Q8N.2.1
  refine Nn hM ne1 ne2 hL (x:=cx) (by simpa using hcx) ?_;intros h2 hM2 hs2 E2
  have sS:QD≠Q4d il:=fun q=>hlab il hil' (by rw [<- q];exact .Zf _)
  have r2:Rel c fz Qo Zd (QEs il (.Q8z l (i+1))) {s' with YO:=h2,Q0T:=QAK}:=by
   obtain ⟨oi,hoi,hc1,hd1⟩:=hM2.iter
   exact r'.upd (by rw [<- r'.nn];exact hil') (fun b o hb e=>(hs2.2 b hb).QR e) hoi ⟨hl',hc1,hd1⟩
  have hS2:QHf QD=QB {cls:=.Qk "list",YC:=.seq acc c'}:=(hs2.2 _ sS).QR hS
  have own1:∀b∈[QD],fz b=QG:=fun b hb=>by rw [Qe hb];exact sfz
  have r3:=r2.hold own1 sL hlab
  refine hcal _ hA.by3 X1 fm fv Zd _ _ [xs[i]] [cx] fc hfc (.Xx hvx .Zo) hgo.2 _ _ _ E2 (Yq ext) r3 ?_;intros Λ3 s3 v a σ3 e3 hP hv r4
  obtain ⟨r5,hk5,hd5⟩:=r4.free Q9Z own1 (fun b hb=>by rw [Qe hb];exact ⟨_,hS2⟩)
  have hS3:=hk5 _ (.Zf _) _ hS2
  have hsz:Q4j=i:=by have:=hacc.length;rw [hai]at this;simpa using this.symm
  refine ⟨a,QA,⟨c',hS3⟩,by exact acC Q2Y hi hsz,Λ3,σ3,i+1,Q78++[v],QDq e3,?_,hd5,⟨_,XS _ hS3 QA⟩,?_,by exact Sk hik,by simp [hai],hP⟩
  ·exact r5.growOwn (own:=[QD]) (tk:=s3.toks) (dr:=s3.drawn) own1 sL hd5 fun b o hb e=>(Yw _ _ (fun q=>hb (by rw [<- q];exact .Zf _))).QR e
  ·rw [Q3s];exact (QAP e3).Q7z (.Xx hv .Zo)
 ·intros acc s' Q6r E'
  obtain ⟨Zd,XH,i,Q78,ext,r',hlab,⟨c',hS⟩,QBn,hik,hai,hgo⟩:=Q6r
  have hm':=QP hm ext.1
  obtain ⟨fc,vs,htl',hil',hl',hfc,hM,hL,hvs⟩:=(r'.mapAt hm' QGS)
  rw [ext.2 m hm]at hM
  have hi:i=Qn:=by omega
  subst hi
  rw [Q4O]at hgo
  refine Pa (A:=Q5H) Q0c hM hL (by rw [QCv];simp) ?_;intros h2 he2 hio;refine ⟨QA,?_⟩
  have sS:QD≠Q4d il:=fun q=>hlab il hil' (by rw [<- q];exact .Zf _)
  have hS2:QHf QD=QB {cls:=.Qk "list",YC:=.seq acc c'}:=he2 _ _ sS hS
  obtain ⟨o',ho'⟩:=hio
  have r3:Rel c fz Qo Zd (QEs il .any) {s' with YO:=h2,Q0T:=QAK}:=r'.upd (by rw [<- r'.nn];exact hil') (fun b o hb e=>he2 b o hb e) ho' ZQ
  have QDM:=XN Zd QD
  have r4:=r3.label (o:=.Qs Q78) hS2 (QHe (fun q=>sL (by rw [q];exact .Zf _))) sfz QE4 (fun k hk q=>hlab k hk (by rw [q];exact .Zf _)) ⟨Q4J,c',by simp [Q4e],QAP QDM⟩
  exact q _ _ _ _ _ (QDq QDM) hgo.2 (Q1l _ r3.nn) r4
end
end
end Mini
end
section
open PySem
set_option maxRecDepth 100000
set_option maxHeartbeats 1000000
namespace Mini
mutual
def AI:XP QH:=#[14,4,0,0,4294967295,24,9,0,4294967295,13,4,8,12,0,1,23,15,0,1,16,35,24,9,0,4294967295,13,4,8,12,0,1,18,6,5,1]
abbrev Q7 (t:XP QH) (pc XJ h:QH) (L:XP QCz) (I:QW QH) (F:QC Q5I) (a:QW Qu) (se:QD0) :Q51 :=
 {Q0s:=AI,QDN:=t,lim:=YI,QFT:=0,pc,XJ,handed:=h,marks:=#[],loops:=L,inner:=I,frames:=F,weight:=Zn,answer:=a,Q7d:=se}
def kp (b:Qu):Sre.Kept:={whole:=b}
def frG (pc XJ:QH) (c:X4) (b:Qu):Q5I:={wait:=.QGT,pc,XJ,QBF:=QM,count:=c,kept:=kp b}
def frC (XJ:QH):Q5I:={wait:=.closeLoop,pc:=15,XJ,QBF:=QM,loop:=0}
def frM (XJ:QH):Q5I:={wait:=.maxMore,pc:=32,XJ,QBF:=QM,count:=0,kept:=kp QM,loop:=0}
def frT (XJ:QH) (c:X4):Q5I:={wait:=.maxTail,pc:=32,XJ,QBF:=QM,count:=c,kept:=kp QJ,loop:=0}
def lpS (c:X4) (b:QW QH):XP QCz:=#[{pc:=15,count:=c,began:=b,outer:=QG}]
def Hy (t:XP QH):QH->QH->QH
 | 0,_=>0
 | n+1,p=>if Qr (Q2g p 0) then Hy t n (p+1)+1 else 0
theorem Ee (t:XP QH) (n p:QH):Hy t (n+1) p=if Qr (Q2g p 0) then Hy t n (p+1)+1 else 0:=QA
theorem UG (i:QH) (hi:i=9\/i=25) (c:QH) (se:QD0):∃se',Q4k AI i c se=.ok (Qr c,se'):=by
 injections i _ c se
 rcases hi with QA | QA
 ·have e:Q4k AI 9 c se=(do if <- Q7D 12 c then ZX (QM,((Z7 8).add 67)) else Sre.inSet AI c 34 13 QM ((Z7 8).add 67)):=QA
  rw [e]
  have k:Q7D 12 c=.ok (Qr c != QJ):=QA
  rw [k]
  cases Qr c with
  | QM=>exact ⟨_,QA⟩
  | QJ=>exact ⟨_,QA⟩
 ·have e:Q4k AI 25 c se=(do if <- Q7D 12 c then ZX (QM,((Z7 8).add 67)) else Sre.inSet AI c 34 29 QM ((Z7 8).add 67)):=QA
  rw [e]
  have k:Q7D 12 c=.ok (Qr c != QJ):=QA
  rw [k]
  cases Qr c with
  | QM=>exact ⟨_,QA⟩
  | QJ=>exact ⟨_,QA⟩
theorem Jx {t:XP QH} (i:QH) (hi:i=9\/i=25):∀n p f se,∃se',QC3 AI t i n p f se=.ok (f+Hy t n p,se')
 | 0,p,f,se=>⟨se,QA⟩
 | n+1,p,f,se=>by
  obtain (⟨se1,h1⟩):=UG i hi (Q2g p 0) se
  unfold QC3
  rw [h1,Ee]
  cases hc:Qr (Q2g p 0) with
  | QM =>
   obtain (⟨se2,h2⟩):=Jx i hi n (p+1) (f+1) se1
   refine ⟨se2,?_⟩
   show QC3 AI t i n (p+1) (f+1) se1=_
   rw [h2];simp;exact Ff
  | QJ=>exact ⟨se1,QA⟩
end
variable {t:Array Nat} {pc pos h:Nat} {L:Array Sre.Loop} {I:Option Nat} {F:List Sre.Frame} {se:Sre.Seen}
mutual
def A9 (t:XP QH) (p:QH):QH:=Hy t (YI - p) p
theorem Kx (t:XP QH):∀n p,Hy t n p<=n
 | 0,p=>Qh _
 | n+1,p=>by rw [Ee];split;have:=Kx t n (p+1);exact zq2 this;exact aec
theorem s5 (hF:Zn < 1000) (hp:XJ<=YI) (hz:YI < 4294967295):∃se',(Q7 t 5 XJ h #[] QG F QG se).Q3y=Q7 t 15 (XJ+A9 t XJ) (XJ+A9 t XJ) #[] QG (frG 5 (XJ+A9 t XJ) (A9 t XJ) QJ::F) QG se':=by
 injections t XJ h F se _ _ _
 have hr:¬((0:X4) > ((YI:X4) - XJ)):=MD hp
 have hm:min 4294967295 ((YI:X4) - XJ).Q1Z=YI - XJ:=KP (X7 hz)
 obtain ⟨se2,hrun⟩:=Jx (t:=t) 9 (.inl QA) (YI - XJ) XJ 0 ((Z7 24).add 13)
 have e2:(Q7 t 5 XJ h #[] QG F QG se).Q3y=(if (0:X4) > ((YI:X4) - XJ) then (Q7 t 5 XJ h #[] QG F QG (Z7 24)).say QJ else
   match QC3 AI t 9 (min 4294967295 ((YI:X4) - XJ).Q1Z) XJ 0 ((Z7 24).add 13) with
   | .Q83 why=>(Q7 t 5 XJ h #[] QG F QG (Z7 24)).stick why
   | .ok (n,Q7d)=>if n < 0 then (Q7 t 5 XJ h #[] QG F QG Q7d).say QJ else (Q7 t 5 (XJ+n) h #[] QG F QG Q7d).afterRun .QGT n ((Q7 t 5 (XJ+n) h #[] QG F QG Q7d).Q4c QJ)):=QA
 rw [e2,QN hr,hm,hrun]
 dsimp only
 rw [QN (YR _),Q1D]
 refine ⟨se2,?_⟩
 unfold QD1 Q0L
 rw [QN (by show ¬(Zn+1+0 > 16777216);exact Dt hF)]
 rfl
theorem s21 (hF:Zn < 1000) (hp:XJ<=YI) (hz:YI < 4294967295):∃se',(Q7 t 21 XJ h L (QB 0) F QG se).Q3y=Q7 t 31 (XJ+A9 t XJ) (XJ+A9 t XJ) L (QB 0) (frG 21 (XJ+A9 t XJ) (A9 t XJ) QM::F) QG se':=by
 injections t XJ h L F se _ _ _
 have hr:¬((0:X4) > ((YI:X4) - XJ)):=MD hp
 have hm:min 4294967295 ((YI:X4) - XJ).Q1Z=YI - XJ:=KP (X7 hz)
 obtain ⟨se2,hrun⟩:=Jx (t:=t) 25 (.inr QA) (YI - XJ) XJ 0 ((Z7 24).add 13)
 have e2:(Q7 t 21 XJ h L (QB 0) F QG se).Q3y=(if (0:X4) > ((YI:X4) - XJ) then (Q7 t 21 XJ h L (QB 0) F QG (Z7 24)).say QJ else
   match QC3 AI t 25 (min 4294967295 ((YI:X4) - XJ).Q1Z) XJ 0 ((Z7 24).add 13) with
   | .Q83 why=>(Q7 t 21 XJ h L (QB 0) F QG (Z7 24)).stick why
   | .ok (n,Q7d)=>if n < 0 then (Q7 t 21 XJ h L (QB 0) F QG Q7d).say QJ else (Q7 t 21 (XJ+n) h L (QB 0) F QG Q7d).afterRun .QGT n ((Q7 t 21 (XJ+n) h L (QB 0) F QG Q7d).Q4c QM)):=QA
 rw [e2,QN hr,hm,hrun]
 dsimp only
 rw [QN (YR _),Q1D]
 refine ⟨se2,?_⟩
 unfold QD1 Q0L
 rw [QN (by show ¬(Zn+1+0 > 16777216);exact Dt hF)]
 rfl
theorem s15 (hF:Zn < 1000):(Q7 t 15 XJ h #[] QG F QG se).Q3y=Q7 t 31 XJ XJ (lpS (-1) QG) (QB 0) (frC XJ::F) QG (Z7 23):=by
 have e2:(Q7 t 15 XJ h #[] QG F QG se).Q3y=(Q7 t 15 XJ h (lpS (-1) QG) (QB 0) F QG (Z7 23)).Q7E (frC XJ) 31 XJ QM:=QA
 rw [e2]
 unfold Q0L
 rw [QN (by show ¬(Zn+1+0 > 16777216);exact Dt hF)]
 rfl
theorem ahL (hF:Zn < 1000):(Q7 t 31 XJ h (lpS (-1) QG) (QB 0) F QG se).Q3y=Q7 t 19 XJ XJ (lpS 0 (QB XJ)) (QB 0) (frM XJ::F) QG (Z7 18):=by
 have e2:(Q7 t 31 XJ h (lpS (-1) QG) (QB 0) F QG se).Q3y=(Q7 t 32 XJ h (lpS 0 (QB XJ)) (QB 0) F QG (Z7 18)).Q7E (frM XJ) 19 XJ QM:=QA
 rw [e2]
 unfold Q0L
 rw [QN (by show ¬(Zn+1+0 > 16777216);exact Dt hF)]
 rfl
theorem aeO {q:QH} (hF:Zn < 1000):(Q7 t 31 XJ h (lpS 0 (QB q)) (QB 0) F QG se).Q3y=Q7 t 32 XJ XJ (lpS 0 (QB q)) QG (frT XJ 1::F) QG (Z7 18):=by
 have e2:(Q7 t 31 XJ h (lpS 0 (QB q)) (QB 0) F QG se).Q3y=(Q7 t 32 XJ h (lpS 0 (QB q)) QG F QG (Z7 18)).Q7E (frT XJ 1) 32 XJ QM:=QA
 rw [e2]
 unfold Q0L
 rw [QN (by show ¬(Zn+1+0 > 16777216);exact Dt hF)]
 rfl
theorem ahM (hp:XJ >= YI):(Q7 t 19 XJ h L I F QG se).Q3y=Q7 t 19 XJ h L I F (QB QJ) (Z7 16):=by
 have e2:(Q7 t 19 XJ h L I F QG se).Q3y=(if XJ >= YI then (Q7 t 19 XJ h L I F QG (Z7 16)).say QJ else
  match Q4k AI 19 (Q2g XJ 0) (Z7 16) with
  | .Q83 why=>(Q7 t 19 XJ h L I F QG (Z7 16)).stick why
  | .ok (QJ,Q7d)=>(Q7 t 19 XJ h L I F QG Q7d).say QJ
  | .ok (QM,Q7d)=>Q7 t 21 (XJ+1) h L I F QG Q7d):=QA
 rw [e2,QY hp];rfl
theorem s19 (hp:¬XJ >= YI):(Q7 t 19 XJ h L I F QG se).Q3y=(if (Q2g XJ 0 == 35)=QM then Q7 t 21 (XJ+1) h L I F QG (Z7 16) else Q7 t 19 XJ h L I F (QB QJ) (Z7 16)):=by
 injections t XJ h L I F se _
 have e2:(Q7 t 19 XJ h L I F QG se).Q3y=(if XJ >= YI then (Q7 t 19 XJ h L I F QG (Z7 16)).say QJ else
  match Q4k AI 19 (Q2g XJ 0) (Z7 16) with
  | .Q83 why=>(Q7 t 19 XJ h L I F QG (Z7 16)).stick why
  | .ok (QJ,Q7d)=>(Q7 t 19 XJ h L I F QG Q7d).say QJ
  | .ok (QM,Q7d)=>Q7 t 21 (XJ+1) h L I F QG Q7d):=QA
 have e3:Q4k AI 19 (Q2g XJ 0) (Z7 16)=.ok (Q2g XJ 0 == 35,Z7 16):=QA
 rw [e2,QN hp,e3]
 cases Q2g XJ 0 == 35 <;> rfl
def CL (t:XP QH) (p:QH):Qu:=p == YI || (p+1 == YI&&Q2g p 0 == 10)
theorem s32:(Q7 t 32 XJ h L I F QG se).Q3y=(if CL t XJ=QM then Q7 t 34 XJ h L I F QG ((Z7 6).add 48) else Q7 t 32 XJ h L I F (QB QJ) ((Z7 6).add 48)):=by
 have e2:(Q7 t 32 XJ h L I F QG se).Q3y=(if CL t XJ=QM then {Q7 t 32 XJ h L I F QG ((Z7 6).add 48) with pc:=34} else (Q7 t 32 XJ h L I F QG ((Z7 6).add 48)).say QJ):=QA
 rw [e2];rfl
theorem s34:(Q7 t 34 XJ h L I F QG se).Q3y=Q7 t 34 XJ XJ L I F (QB QM) (Z7 1):=QA
theorem rT {p:QH} {c:X4} {b:Qu}:(Q7 t pc XJ h L I (frT p c::F) (QB b) se).Q3y=Q7 t 32 p h L (QB 0) F (QB b) se:=QA
theorem rGt {pf p:QH} {c:X4} {w:Qu}:(Q7 t pc XJ h L I (frG pf p c w::F) (QB QM) se).Q3y=Q7 t pf p h L I F (QB QM) se:=QA
theorem rG0 {pf p:QH} {w:Qu} (hpf:pf=5\/pf=21):(Q7 t pc XJ h L I (frG pf p 0 w::F) (QB QJ) se).Q3y=Q7 t pf p h L I F (QB QJ) se:=by
 rcases hpf with QA | QA <;> cases w <;> rfl
theorem rGs {pf p c:QH} {w:Qu} (hF:Zn < 1000) (hpf:pf=5\/pf=21):(Q7 t pc XJ h L I (frG pf p ((c+1:QH):X4) w::F) (QB QJ) se).Q3y=Q7 t (pf+10) (p - 1) (p - 1) L I (frG pf (p - 1) c w::F) QG se:=by
 have hc:((c+1:QH):X4) - 1=(c:X4):=by exact ia1 (Kg)
 have hn:¬((c:X4) < (0:QH)):=by omega
 rcases hpf with QA | QA
 all_goals
  cases w
  all_goals
   first
   | (
    have e2:(Q7 t pc XJ h L I (frG 5 p ((c+1:QH):X4) QJ::F) (QB QJ) se).Q3y=(if ((c+1:QH):X4) - 1 < (0:QH) then Q7 t 5 p h L I F (QB QJ) se else (Q7 t 5 (p - 1) h L I F QG se).Q7E (frG 5 (p - 1) (((c+1:QH):X4) - 1) QJ) 15 (p - 1) QM):=QA
    rw [e2,hc,QN hn]
    unfold Q0L
    rw [QN (by show ¬(Zn+1+0 > 16777216);exact Dt hF)]
    rfl)
   | (
    have e2:(Q7 t pc XJ h L I (frG 5 p ((c+1:QH):X4) QM::F) (QB QJ) se).Q3y=(if ((c+1:QH):X4) - 1 < (0:QH) then Q7 t 5 p h L I F (QB QJ) se else (Q7 t 5 (p - 1) h L I F QG se).Q7E (frG 5 (p - 1) (((c+1:QH):X4) - 1) QM) 15 (p - 1) QM):=QA
    rw [e2,hc,QN hn]
    unfold Q0L
    rw [QN (by show ¬(Zn+1+0 > 16777216);exact Dt hF)]
    rfl)
   | (
    have e2:(Q7 t pc XJ h L I (frG 21 p ((c+1:QH):X4) QJ::F) (QB QJ) se).Q3y=(if ((c+1:QH):X4) - 1 < (0:QH) then Q7 t 21 p h L I F (QB QJ) se else (Q7 t 21 (p - 1) h L I F QG se).Q7E (frG 21 (p - 1) (((c+1:QH):X4) - 1) QJ) 31 (p - 1) QM):=QA
    rw [e2,hc,QN hn]
    unfold Q0L
    rw [QN (by show ¬(Zn+1+0 > 16777216);exact Dt hF)]
    rfl)
   | (
    have e2:(Q7 t pc XJ h L I (frG 21 p ((c+1:QH):X4) QM::F) (QB QJ) se).Q3y=(if ((c+1:QH):X4) - 1 < (0:QH) then Q7 t 21 p h L I F (QB QJ) se else (Q7 t 21 (p - 1) h L I F QG se).Q7E (frG 21 (p - 1) (((c+1:QH):X4) - 1) QM) 31 (p - 1) QM):=QA
    rw [e2,hc,QN hn]
    unfold Q0L
    rw [QN (by show ¬(Zn+1+0 > 16777216);exact Dt hF)]
    rfl)
theorem rMt {p q:QH}:(Q7 t pc XJ h (lpS 0 (QB q)) I (frM p::F) (QB QM) se).Q3y=Q7 t 32 p h (lpS 0 QG) I F (QB QM) se:=QA
theorem rMf {p q:QH} (hF:Zn < 1000):(Q7 t pc XJ h (lpS 0 (QB q)) I (frM p::F) (QB QJ) se).Q3y=Q7 t 32 p p (lpS (-1) QG) QG (frT p 0::F) QG se:=by
 have e2:(Q7 t pc XJ h (lpS 0 (QB q)) I (frM p::F) (QB QJ) se).Q3y=(Q7 t 32 p h (lpS (-1) QG) QG F QG se).Q7E (frT p 0) 32 p QM:=QA
 rw [e2]
 unfold Q0L
 rw [QN (by show ¬(Zn+1+0 > 16777216);exact Dt hF)]
 rfl
theorem rC {p:QH} {c:X4} {b':QW QH} {b:Qu}:(Q7 t pc XJ h (lpS c b') I (frC p::F) (QB b) se).Q3y=Q7 t 15 p h #[] QG F (QB b) se:=QA
end
end Mini
end
section
open PySem
set_option maxHeartbeats 1000000
namespace Mini
variable {t:Array Nat} {pc pos h:Nat} {L:Array Sre.Loop} {I:Option Nat} {F:List Sre.Frame} {se:Sre.Seen}
mutual
def RR (K:QH) (m m':Q51):Prop:=∃k,k<=K/\∀n,Yx (n+k) m=Yx n m'
theorem RR.one {m:Q51} (h:QEH=QG):RR 1 m QF8:=⟨1,Qh _,fun n=>by
 conv=>lhs;unfold Yx
 rw [h];rfl⟩
theorem RR.refl {m:Q51}:RR 0 m m:=⟨0,Qh _,fun n=>QA⟩
theorem RR.trans {a b:QH} {m m' m'':Q51} (x:RR a m m') (y:RR b m' m''):RR (a+b) m m'':=by
 obtain (⟨k,hk,h1⟩):=x
 obtain (⟨l,hl,h2⟩):=y
 refine ⟨k+l,by exact aeb hk hl,fun n=>?_⟩
 rw [show n+(k+l)=(n+l)+k by exact aea,h1,h2]
theorem RR.mono {a b:QH} {m m':Q51} (x:RR a m m') (h:a<=b):RR b m m':=let ⟨k,hk,r⟩:=x;⟨k,Qz hk h,r⟩
theorem RR.step {K:QH} {m m1 m2:Q51} (h:QEH=QG) (e:QF8=m1) (r:RR K m1 m2):RR (K+1) m m2:=by
 have:=(RR.one h)
 rw [e]at this
 exact (this.trans r).QBs (by exact ad9)
def Ans (t:XP QH) (K:QH) (m:Q51) (b:Qu) (L:XP QCz) (I:QW QH) (F:QC Q5I):Prop:=∃pc XJ h se,RR K m (Q7 t pc XJ h L I F (QB b) se)
theorem Yp {K:QH} {m m1:Q51} {b:Qu} (h:QEH=QG) (e:QF8=m1) (r:Ans t K m1 b L I F):Ans t (K+1) m b L I F:=let ⟨pc,XJ,h',se,r⟩:=r;⟨pc,XJ,h',se,RR.step h e r⟩
theorem Ans.go {K K':QH} {m:Q51} {b b':Qu} {L':XP QCz} {I':QW QH} {F':QC Q5I} (x:Ans t K m b L I F) (y:∀pc XJ h se,Ans t K' (Q7 t pc XJ h L I F (QB b) se) b' L' I' F'):Ans t (K+K') m b' L' I' F':=by
 injections t L I F K K' m b b' L' I' F' _ _
 obtain ⟨pc,XJ,h,se,r⟩:=x
 obtain ⟨pc',QAT,h',se',r'⟩:=y pc XJ h se
 exact ⟨pc',QAT,h',se',r.trans r'⟩
theorem QAU {K K':QH} {m:Q51} {b:Qu} (x:Ans t K m b L I F) (h:K<=K'):Ans t K' m b L I F:=let ⟨pc,XJ,h',se,r⟩:=x;⟨pc,XJ,h',se,r.mono h⟩
theorem Ans.here {b:Qu}:Ans t 0 (Q7 t pc XJ h L I F (QB b) se) b L I F:=⟨pc,XJ,h,se,.Q1J⟩
theorem Jo:Ans t 2 (Q7 t 32 XJ h L I F QG se) (CL t XJ) L I F:=by
 cases e:CL t XJ with
 | QM =>
  refine Yp QA (m1:=Q7 t 34 XJ h L I F QG ((Z7 6).add 48)) (by rw [s32,QY e]) ?_
  exact Yp QA s34 .QBt
 | QJ =>
  exact (Yp QA (m1:=Q7 t 32 XJ h L I F (QB QJ) ((Z7 6).add 48)) (by rw [s32,QN (by rw [e];simp)]) .QBt).QBs (by exact Vd)
def Gx (t:XP QH) (p:QH):QH->Qu
 | 0=>CL t p
 | c+1=>CL t p || Gx t (p - 1) c
theorem b1 {q:QH} (hF:Zn+2 < 1000):∀c XJ h se,Ans t (6*(c+1)) (Q7 t 31 XJ h (lpS 0 (QB q)) (QB 0) (frG 21 XJ c QM::F) QG se) (Gx t XJ c) (lpS 0 (QB q)) (QB 0) F
 | 0,XJ,h,se=>by
  have A:Ans t 4 (Q7 t 31 XJ h (lpS 0 (QB q)) (QB 0) (frG 21 XJ (0:QH) QM::F) QG se) (CL t XJ) (lpS 0 (QB q)) (QB 0) (frG 21 XJ (0:QH) QM::F):=by
   refine (Yp QA (aeO (by simp;exact SK hF)) ((Jo).go fun pc XJ h se=>Yp (K:=0) QA rT .QBt)).QBs (by exact SJ)
  refine (A.go (K':=1) fun pc' QAT h' se'=>?_).QBs (by exact Vc)
  unfold Gx
  cases e:CL t XJ with
  | QM=>exact Yp QA rGt .QBt
  | QJ=>exact Yp QA (rG0 (.inr QA)) .QBt
 | c+1,XJ,h,se=>by
  have A:Ans t 4 (Q7 t 31 XJ h (lpS 0 (QB q)) (QB 0) (frG 21 XJ ((c+1:QH):X4) QM::F) QG se) (CL t XJ) (lpS 0 (QB q)) (QB 0) (frG 21 XJ ((c+1:QH):X4) QM::F):=by
   refine (Yp QA (aeO (by simp;exact SK hF)) ((Jo).go fun pc XJ h se=>Yp (K:=0) QA rT .QBt)).QBs (by exact SJ)
  refine (A.go (K':=6*(c+1)+1) fun pc' QAT h' se'=>?_).QBs (by exact ad8)
  unfold Gx
  cases e:CL t XJ with
  | QM=>exact (Yp (K:=0) QA rGt .QBt).QBs (by exact ad7)
  | QJ =>
   simp only [Q2J]
   exact Yp QA (rGs (by exact ad6 hF) (.inr QA)) (b1 hF c (XJ - 1) _ _)
def E0 (t:XP QH) (p:QH):Qu:=(XY (p < YI)&&(Q2g p 0 == 35)&&Gx t (p+1+A9 t (p+1)) (A9 t (p+1))) || CL t p
theorem Hv (t:XP QH) (p:QH):A9 t p<=YI - p:=Kx t _ _
theorem b2 (hF:Zn+5 < 1000) (hz:YI < 4294967295) (hp:XJ<=YI):Ans t (6*(YI+1)+12) (Q7 t 15 XJ h #[] QG F QG se) (E0 t XJ) #[] QG F:=by
 injections t XJ h F se _ _ _
 have fin:∀pc' QAT h' se',Ans t 3 (Q7 t pc' QAT h' (lpS 0 (QB XJ)) (QB 0) (frM XJ::frC XJ::F) (QB QM) se') QM #[] QG F:=fun pc' QAT h' se' =>
  (Yp QA rMt (Yp (K:=0) QA rC .QBt)).QBs (by exact Vb)
 have back:∀pc' QAT h' se',Ans t 5 (Q7 t pc' QAT h' (lpS 0 (QB XJ)) (QB 0) (frM XJ::frC XJ::F) (QB QJ) se') (CL t XJ) #[] QG F:=by
  intros pc' QAT h' se'
  refine (Yp QA (rMf (by simp;exact SI hF)) ((Jo).go (K':=2) fun pc XJ h se=>Yp (K:=1) QA rT (Yp (K:=0) QA rC .QBt))).QBs (by exact Va)
 refine QAU (K:=(6*(YI+1)+9)+1+1) (Yp QA (s15 (by exact ad5 hF)) (Yp QA (ahL (by simp;exact SI hF)) ?_)) (by exact ad4)
 unfold E0
 by_cases hp2:XJ >= YI
 ·rw [show XY (XJ < YI)=QJ from Yl (by exact ad3 hp2)]
  simp only [Q7t,Q2J]
  exact (Yp QA (ahM hp2) (back _ _ _ _)).QBs (by exact SH)
 ·rw [show XY (XJ < YI)=QM from Yz (by exact Tm hp2)]
  cases hc:Q2g XJ 0 == 35 with
  | QJ =>
   simp only [QCW,Q7t,Q2J]
   exact (Yp QA (by rw [s19 hp2,QN (by rw [hc];simp)]) (back _ _ _ _)).QBs (by exact SH)
  | QM =>
   simp only [Bool.true_and]
   have hw:=Hv t (XJ+1)
   obtain ⟨se2,e21⟩:=s21 (t:=t) (XJ:=XJ+1) (h:=XJ) (L:=lpS 0 (QB XJ)) (F:=frM XJ::frC XJ::F) (se:=((Z7 23).add 18).add 16) (by simp;exact ad1 hF) (by exact ad0 hp2) hz
   refine QAU (K:=(6*(A9 t (XJ+1)+1)+5)+1+1) (Yp QA (m1:=Q7 t 21 (XJ+1) XJ (lpS 0 (QB XJ)) (QB 0) (frM XJ::frC XJ::F) QG (((Z7 23).add 18).add 16)) (by rw [s19 hp2,QY hc]) (Yp QA e21 ((b1 (by simp;exact adZ hF) _ _ _ _).go ?_))) (by exact adY hp2 hw);intros pc' QAT h' se'
   cases hb:Gx t (XJ+1+A9 t (XJ+1)) (A9 t (XJ+1)) with
   | QM=>exact (fin pc' QAT h' se').QBs (by exact U9)
   | QJ=>simp only [Q2J];exact back pc' QAT h' se'
def FT (t:XP QH) (p:QH):QH->Qu
 | 0=>E0 t p
 | c+1=>E0 t p || FT t (p - 1) c
theorem b3 (hF:Zn+6 < 1000) (hz:YI < 4294967295):∀c XJ h se,XJ<=YI->Ans t ((6*(YI+1)+14)*(c+1)) (Q7 t 15 XJ h #[] QG (frG 5 XJ c QJ::F) QG se) (FT t XJ c) #[] QG F
 | 0,XJ,h,se,hp=>by
  refine QAU ((b2 (by simp;exact hF) hz hp).go (K':=1) fun pc' QAT h' se'=>?_) (Qz (Q0N _) (Q20 (Nat.mul_one _).Q37))
  unfold FT
  cases e:E0 t XJ with
  | QM=>exact Yp QA rGt .QBt
  | QJ=>exact Yp QA (rG0 (.inl QA)) .QBt
 | c+1,XJ,h,se,hp=>by
  refine QAU ((b2 (by simp;exact hF) hz hp).go (K':=(6*(YI+1)+14)*(c+1)+1) fun pc' QAT h' se'=>?_) (by
   rw [show (6*(YI+1)+14)*(c+1+1)=(6*(YI+1)+14)*(c+1)+(6*(YI+1)+14) from Nat.mul_succ ..];exact Qz (Q20 (Nat.add_left_comm ..)) (Q4v (Q0N _) _))
  unfold FT
  cases e:E0 t XJ with
  | QM=>exact (Yp (K:=0) QA rGt .QBt).QBs (Q4D (XQ _))
  | QJ =>
   simp only [Q2J]
   exact Yp QA (rGs (by exact adX hF) (.inl QA)) (b3 hF hz c (XJ - 1) _ _ (by exact adW hp))
def rxJ (t:XP QH):Qu:=FT t (A9 t 0) (A9 t 0)
theorem OX (hz:YI < 1000000):∃pc XJ h se k,k<=20000000000000/\∀n,Yx (n+k) (QAV AI t 0 0 YI QJ QJ)={Q7 t pc XJ h #[] QG [] (QB (rxJ t)) se with outcome:=QB (if rxJ t then .matched else .failed)}:=by
 injections t _
 have e0:QAV AI t 0 0 YI QJ QJ=Q7 t 5 0 0 #[] QG [] QG (({}:QD0).add 14):=QA
 rw [e0]
 have hw:=Hv t 0
 obtain ⟨se2,e5⟩:=s5 (t:=t) (XJ:=0) (h:=0) (F:=[]) (se:=(({}:QD0).add 14)) (by simp) (XQ _) (by exact SG hz)
 rw [Q1D]at e5
 obtain ⟨pc,XJ,h,se,r⟩:=Yp QA e5 (b3 (by simp) (by exact SG hz) (A9 t 0) (A9 t 0) _ _ hw)
 have r2:=r.trans (RR.one (m:=Q7 t pc XJ h #[] QG [] (QB (FT t (A9 t 0) (A9 t 0))) se) QA)
 obtain ⟨k,hk,hr⟩:=r2
 have hb:(6*(YI+1)+14)*(A9 t 0+1)<=(6*1000000+14)*1000000:=Nat.mul_le_mul (by exact adV hz) (by exact adU hz hw)
 refine ⟨pc,XJ,h,se,k,Qz hk (Qz (Q8O hb 2) (YB QA)),?_⟩;intros n
 rw [hr n]
 have e:(Q7 t pc XJ h #[] QG [] (QB (FT t (A9 t 0) (A9 t 0))) se).Q3y={Q7 t pc XJ h #[] QG [] (QB (rxJ t)) se with outcome:=QB (if rxJ t then .matched else .failed)}:=QA
 rw [e]
 cases n with
 | Q1x=>rfl
 | Q1y n=>rfl
def Ws (l:QC QH):Prop:=∀c∈l,Qr c=QM
def Op (l:QC QH):Prop:=Ws l\/∃a b,Ws a/\Ws b/\l=a++35::b
theorem Hw (t:XP QH):∀n p,(∀i,i < n->Qr (Q2g (p+i) 0)=QM)->Hy t n p=n
 | 0,p,_=>QA
 | n+1,p,h=>by
  rw [Ee,QY (by simpa using h 0 (by exact Mc)),Hw t n (p+1) fun i hi=>by have:=h (i+1) (by exact SF hi);rwa [show p+1+i=p+(i+1) by exact Ff]]
theorem GS (t:XP QH):∀n p k,k < n->(∀i,i < k->Qr (Q2g (p+i) 0)=QM)->Qr (Q2g (p+k) 0)=QJ->Hy t n p=k
 | n+1,p,0,_,_,h=>by rw [Ee,QN (by rw [Q0j]at h;rw [h];simp)]
 | n+1,p,k+1,hk,h,hs=>by
  rw [Ee,QY (by simpa using h 0 (by exact Mc)),GS t n (p+1) k (by exact SE hk) (fun i hi=>by have:=h (i+1) (by exact SF hi);rwa [show p+1+i=p+(i+1) by exact Ff]) (by rwa [show p+1+k=p+(k+1) by exact Ff])]
theorem Hx (t:XP QH):∀n p i,i < Hy t n p->Qr (Q2g (p+i) 0)=QM
 | 0,p,i,h=>XF h (YR _)
 | n+1,p,i,h=>by
  rw [Ee]at h
  split at h
  ·cases i with
   | Q1x=>rw [Q0j];assumption
   | Q1y i=>have:=Hx t n (p+1) i (by exact SE h);rwa [show p+(i+1)=p+1+i by exact Me]
  ·exact XF h (YR _)
theorem Hj {t:XP QH}:∀c p,Gx t p c=QM->∃q,q<=p/\p<=q+c/\CL t q=QM
 | 0,p,h=>⟨p,Qh _,by exact SD,h⟩
 | c+1,p,h=>by
  unfold Gx at h
  cases e:CL t p with
  | QM=>exact ⟨p,Qh _,by exact Ks,e⟩
  | QJ=>rw [e]at h;refine ew1 (Hj c (p - 1) (by simpa using h)) fun q yq5A=>?_;refine an3 yq5A fun h1 h2 h3=>?_;clear yq5A;exact ⟨q,by exact SC h1,by exact SA h2,h3⟩
theorem Hg {t:XP QH}:∀c p,FT t p c=QM->∃q,q<=p/\p<=q+c/\E0 t q=QM
 | 0,p,h=>⟨p,Qh _,by exact SD,h⟩
 | c+1,p,h=>by
  unfold FT at h
  cases e:E0 t p with
  | QM=>exact ⟨p,Qh _,by exact Ks,e⟩
  | QJ=>rw [e]at h;refine ew1 (Hg c (p - 1) (by simpa using h)) fun q yq5B=>?_;refine an3 yq5B fun h1 h2 h3=>?_;clear yq5B;exact ⟨q,by exact SC h1,by exact SA h2,h3⟩
theorem K1 {t:XP QH} {p:QH} (h:CL t p=QM):p<=YI/\∀i,p<=i->i < YI->Qr (Q2g i 0)=QM:=by
 injections t p _
 unfold CL at h
 simp only [Q2D,ZM,X9]at h
 rcases h with h | zR
 ·exact ⟨by exact Mb h,fun i a b=>XF b (YW (h▸a))⟩
 ·obtain ⟨h1,h2⟩:=zR
  refine ⟨by exact adS h1,?_⟩;intros i a b
  have:i=p:=by exact adR h1 a b
  subst this
  rw [h2];decide +XD
theorem MZ {l:QC QH} (h:rxJ Q2N=QM):Op l:=by
 refine ew1 (Hg _ _ h) fun q yq5C=>?_;refine an3 yq5C fun h1 _ h2=>?_;clear yq5C
 have hw:∀i,i < A9 Q2N 0->Qr (Q8P i 0)=QM:=fun i hi=>by simpa using Hx Q2N _ 0 i hi
 have hle:=Hv Q2N 0
 have gd:∀i (hi:i < ZJ),Q8P i 0=l[i]:=fun i hi=>by simp [XB,hi]
 unfold E0 at h2
 simp only [Q2D,X9,Xm,ZM]at h2
 rcases h2 with ⟨⟨h3,h4⟩,h5⟩ | h3
 ·right
  refine ew1 (Hj _ _ h5) fun e yq5D=>?_;refine an3 yq5D fun e1 _ e2=>?_;clear yq5D
  obtain (⟨e3,e4⟩):=K1 e2
  have hql:q < ZJ:=by simpa using h3
  refine ⟨l.take q,l.drop (q+1),?_,?_,?_⟩
  ·intro c hc
   obtain (⟨i,hi,QA⟩):=Zg hc
   rw [Xo]at hi
   rw [Q5p,<- gd i (QP hi (Q0E _ _))]
   exact hw i (QP hi (Qz (Q7L _ _) h1))
  ·intro c hc
   obtain (⟨i,hi,QA⟩):=Zg hc
   rw [Q1j]at hi
   rw [Q5o,<- gd (q+1+i) (by exact Sz hi)]
   by_cases hi2:i < A9 Q2N (q+1)
   ·exact Hx Q2N _ (q+1) i hi2
   ·exact e4 _ (by exact adP e1 hi2) (by simp;exact Sz hi)
  ·have:l.drop q=35::l.drop (q+1):=by rw [YP hql,<- gd q hql,h4]
   rw [<- this,List.take_append_drop]
 ·left
  obtain (⟨e3,e4⟩):=K1 h3
  intro c hc
  obtain (⟨i,hi,QA⟩):=Zg hc
  rw [<- gd i hi]
  by_cases hi2:i < A9 Q2N 0
  ·exact hw i hi2
  ·exact e4 i (by exact adO h1 hi2) (by simpa using hi)
theorem Pk {t:XP QH} {p:QH} (h:CL t p=QM):∀c,Gx t p c=QM
 | 0=>h
 | c+1=>by unfold Gx;rw [h];rfl
theorem KY {t:XP QH} {p:QH} (h:E0 t p=QM):∀c,FT t p c=QM
 | 0=>h
 | c+1=>by unfold FT;rw [h];rfl
theorem TL {l:QC QH} (h:Op l):rxJ Q2N=QM:=by
 injections l _
 have gd:∀i (hi:i < ZJ),Q8P i 0=l[i]:=fun i hi=>by simp [XB,hi]
 have fin:CL Q2N ZJ=QM:=by unfold CL;simp
 rcases h with h | zR
 ·have e:A9 Q2N 0=ZJ:=by
   unfold A9
   rw [Hw Q2N _ 0 fun i hi=>by
    rw [Q1D,gd i (by simpa using hi)];exact h _ (Q0H _)]
   simp
  unfold rxJ
  rw [e]
  refine KY ?_ _
  unfold E0
  rw [fin,Bool.or_true]
 ·obtain ⟨a,b,ha,hb,QA⟩:=zR
  have h35:Qr 35=QJ:=by decide +XD
  have e:A9 (a++35::b).Xe 0=ZI:=by
   refine GS _ _ 0 ZI (by simp) ?_ ?_
   ·intros i hi
    rw [Q1D,gd i (by simp;exact adN hi)]
    rw [List.getElem_append_left hi];exact ha _ (Q0H _)
   ·rw [Q1D,gd ZI (by simp)]
    simp [h35]
  have e2:A9 (a++35::b).Xe (ZI+1)=Q3z:=by
   unfold A9
   rw [Hw _ _ _ fun i hi=>by
    have hi':i < Q3z:=by simp at hi;exact adM hi
    rw [gd (ZI+1+i) (by simp;exact adL hi')]
    rw [List.getElem_append_right (by exact adK)]
    have:ZI+1+i - ZI=i+1:=by exact adJ
    simp only [this,Q6v]
    exact hb _ (Q0H _)]
   simp;exact adI
  unfold rxJ
  rw [e]
  refine KY ?_ _
  unfold E0
  rw [e2]
  have h1:XY (ZI < (a++35::b).QAW)=QM:=by simp
  have h2:((a++35::b).toArray.getD ZI 0 == 35)=QM:=by rw [gd ZI (by simp)];simp
  rw [h1,h2,Pk (by rw [show ZI+1+Q3z=(a++35::b).ZT by simp;exact Ff];exact fin)]
  rfl
end
end Mini
end
section
open PySem PySem.W PySem.Calls PyProof.Rows
set_option maxRecDepth 100000
set_option maxHeartbeats 1000000
namespace Mini
mutual
theorem Cc {m:Q51} (h:QBG=QM):∀n,Yx n m=m
 | 0=>QA
 | n+1=>QY h
theorem DE:∀a b (m:Q51),Yx (a+b) m=Yx b (Yx a m)
 | 0,b,m=>by rw [Q1D];rfl
 | a+1,b,m=>by
  by_cases h:QBG=QM
  ·rw [Cc h,Cc h,Cc h]
  ·have e:∀c,Yx (c+1) m=Yx c QF8:=fun c=>QN h
   rw [show a+1+b=(a+b)+1 by exact adH,e,e]
   exact DE a b QF8
end
section
variable {prog:Program} {w:World} {A:Around} {E:Value->Shared->Prop} {s:Shared}
mutual
theorem Ge {mf:Q51} (hf:mf.outcome.isSome=QM) {Q:Q51->QZ->Prop} (hq:Q mf s) (QGU:QH):∀k (m:Q51),1<=QGU->k<=4*QGU->(∀n,Yx (n+k) m=mf)->Qp (Qi XE w) A (Builtin.Re.reDrive QGU m) Q E s:=by
 induction QGU with
 | Q1x=>intro k m h1;exact XF h1 (by decide)
 | Q1y QGU ih =>
  intro k m _ hk h
  show Qp _ _ (if (Yx Q0k m).Q8Q=QM then _ else _) _ _ _
  by_cases ho:(Yx Q0k m).Q8Q=QM
  ·rw [QY ho]
   have e:Yx Q0k m=mf:=by
    rw [<- h Q0k,DE,Cc ho]
   rw [e]
   exact QF hq
  ·rw [QN ho]
   refine Q9 (Q0b ?_)
   have h4:4 < k:=by
    rcases Q3t 4 k with q | q
    ·exact q
    ·exfalso
     have:Yx 4 m=mf:=by rw [<- h (4 - k),Q9i q]
     exact ho (by show (Yx 4 m).Q8Q=QM;rw [this];exact hf)
   refine ih (k - 4) _ (by exact adG hk h4) (by exact adF hk h4) fun n=>?_
   rw [show Q0k=4 from QA,<- DE,show 4+(n+(k - 4))=n+k by exact adE h4]
   exact h n
theorem C5 {p:QH->Qu} {g:QH->XC} {Q:PUnit->QZ->Prop} (hq:Q ⟨⟩ s):∀(l:QC QH),Qp (Qi XE w) A (QGH l QD2 fun i _=>if p i=QM then (do rule (g i);ZX (ZZ QD2)) else ZX (ZZ QD2)) Q E s
 | []=>by rw [Q2e];exact QF hq
 | i::l=>by
  rw [Q1A]
  refine Q9 ?_
  cases p i with
  | QM=>rw [QY QA];exact Q9 (Q0b (QF (C5 hq l)))
  | QJ=>rw [QN Qj];exact QF (C5 hq l)
theorem OY {t:XP QH} (hz:YI < 1000000) {Q:QW Q51->QZ->Prop} (h1:rxJ t=QM->∀m,m.start=0->m.lastmark=-1->Q (QB m) s) (h0:rxJ t=QJ->Q QG s) :
  Qp (Qi XE w) A (Q7e (QAV AI t 0 0 YI QJ QJ)) Q E s:=by
 injections XE w A E s t _ Q _ _
 obtain ⟨pc,XJ,h,se,k,hk,hr⟩:=(OX hz)
 unfold Q7e
 refine Q9 (Ge QA ?_ (2 ^ 64) k _ (by exact U8) (by exact Vq hk) hr)
 refine Q9 (C5 ?_ _)
 dsimp only
 cases hj:rxJ t with
 | QM=>exact QF (h1 hj _ QA QA)
 | QJ=>exact QF (h0 hj)
theorem TZ (v:QI):Builtin.Re.reNamed "re.Pattern.match" "match" ["string","pos","endpos"] 1 [v] []=ZX [QB v,QG,QG]:=by with_unfolding_all rfl
theorem Q1t {x:X8} {t:Tok} {p ct:Qq} {pt fl f3 f4:QI} {u1 u2:Tok} {its:XP QI} {n:QH} {op oc:ZG} {Q:Builtin.Re.ReTarget->QZ->Prop}
  (hp:Qc p=QB op) (hpd:QF9=.Xp #[pt,fl,.Qm 0 u1,f3,f4,.QQ ct,.Qm 0 u2]) (hc:Qc ct=QB oc) (hcd:QHg=.seq its n) (hi:(QFA Q3b).map (·.Q1Z)=AI)
  (h:Q {pattern:=.QQ p,string:=.Xt x t,Q0s:=AI,QDN:=Q94,kind:=0,groups:=0,XJ:=0,lim:=Q1W} s) (hz:Q1W < 1000000) :
  Qp (Qi XE w) A (Q8x "re.Pattern.match" "match" ⟨[.QQ p,.Xt x t],[]⟩) Q E s:=by
 injections XE w A E s x t p ct pt fl f3 f4 u1 u2 its n op oc Q _ _ _ _ _ _ _
 unfold Q8x
 dsimp only
 refine Q9 (Zl (TZ _) ?_)
 dsimp only
 refine Q9 (QF (Q9 (QF ?_)))
 refine Q9 (Q8B hp hpd ?_)
 refine Q9 (m:=Builtin.Re.reTextOf (.Xt x t)) (Zl (a:=(Q94,0)) QA ?_)
 dsimp only
 have e6:Builtin.Re.reRawNat ((#[pt,fl,.Qm 0 u1,f3,f4,.QQ ct,.Qm 0 u2]:XP QI).Q4m 6 .QG)=0:=QA
 rw [e6,QN (show ¬(((0:QH) == 0&&(0:QH) == 1)=QM) by decide),QN (show ¬(((0:QH) == 1&&(0:QH) == 0)=QM) by decide)]
 refine Q9 (m:=Builtin.Re.reNoCollectionInside (.Xt x t) 0) (Zl (a:=()) QA ?_)
 unfold Builtin.Re.reRawItems
 refine Q9 (Q9 (m:=QEE (.QQ ct)) (Z0 hc hcd (QF ?_)))
 refine QF ?_
 have e1:min (Int.toNat 0) Q1W=0:=Nat.zero_min _
 have e2:min (2 ^ 63 - 1:X4).Q1Z Q1W=Q1W:=Q4C (Qz (X7 hz) (YB QA))
 rw [e1,e2]
 show Q {pattern:=.QQ p,string:=.Xt x t,Q0s:=(QFA Q3b).map (·.Q1Z),QDN:=Q94,kind:=0,groups:=0,XJ:=0,lim:=Q1W} s
 rw [hi]
 exact h
theorem JN {x:X8} {t:Tok} {p ct:Qq} {pt fl f3 f4:QI} {u1 u2:Tok} {its:XP QI} {n:QH} {op oc:ZG} {R:Q2t->QZ->Prop}
  (hp:Qc p=QB op) (hpd:QF9=.Xp #[pt,fl,.Qm 0 u1,f3,f4,.QQ ct,.Qm 0 u2]) (hc:Qc ct=QB oc) (hcd:QHg=.seq its n) (hi:(QFA Q3b).map (·.Q1Z)=AI)
  (hz:Q1W < 1000000) (h1:rxJ Q94=QM->∀(h':ZS) (co:ZG),(∀b o,Qc b=QB o->ZB b=QB o)->QCJ=QJ->R (.Q55 (.ret (.QQ Q0h))) {s with YO:=Q8h co}) (h0:rxJ Q94=QJ->R (.Q55 (.ret .QG)) s) :
  Qp (Qi XE w) A (Builtin.«re.Pattern.match» ⟨[.QQ p,.Xt x t],[]⟩) R E s:=by
 unfold Builtin.«re.Pattern.match»
 refine Q9 (Q1t hp hpd hc hcd hi ?_ hz)
 unfold Builtin.Re.reAnswer
 dsimp only
 refine Q9 (OY hz (fun hj m hm1 hm2=>?_) (fun hj=>QF (h0 hj)))
 dsimp only
 unfold Builtin.Re.reNewMatch
 dsimp only [List.range_zero]
 simp only [List.any_nil,XU,Zi,QBB]
 refine Q9 (Q9 ?_)
 delta QAG
 refine Xl ?_ (by size_fits)
 exact Xl (QF (h1 hj _ _ (fun b o e=>Qa _ e) QA)) (by size_fits)
theorem NO:Q3q QA7 "re.Pattern.match"=QB Builtin.«re.Pattern.match»:=Q2r (by kernel_rfl)
theorem M6:QBx "re.Pattern.match"=QM:=by decide +XD
theorem Fn:Q6a (.Qk "re.Pattern") (.Qk "module")=ZX QJ:=by rw [YY];kernel_rfl
theorem Uk {p:Qq} {x:X8} {t:Tok} {op:ZG} {Q:Yb->QZ->Prop} (hp:Qc p=QB op) (hc:op.cls=.Qk "re.Pattern") {vs:XP QI} (hd:QF9=.Xp vs) (h:Q () s):Qp (Qi XE w) A (Q1r "re.Pattern.match" ⟨[.QQ p,.Xt x t],[]⟩) Q E s:=by
 injections XE w A E s p x t op Q _ _ vs _ _
 obtain ⟨hh,g,d,tk,os⟩:=s
 obtain ⟨c1,d1,dt1,sl1⟩:=op
 replace hc:c1=.Qk "re.Pattern":=hc
 replace hd:dt1=.Xp vs:=hd
 subst hc hd
 have hT:(⟨hh,g,d,tk,os⟩:QZ).QAv (.QQ p) "re.Pattern":=⟨_,hp,QA⟩
 have f1:=Fn
 unfold Q1r
 repeat (any_goals (first | assumption | wp_step))
theorem Pp {u p ct:Qq} {x:X8} {t:Tok} {o op oc:ZG} {pt fl f3 f4:QI} {u1 u2:Tok} {its:XP QI} {n:QH} {R:Q87->QZ->Prop}
  (hu:Qc u=QB o) (hob:o={cls:=.Qk "builtin_function_or_method",YC:=.Xp #[.Qd "re.Pattern.match",.QQ p]}) (hp:Qc p=QB op) (hpc:op.cls=.Qk "re.Pattern")
  (hpd:QF9=.Xp #[pt,fl,.Qm 0 u1,f3,f4,.QQ ct,.Qm 0 u2]) (hc:Qc ct=QB oc) (hcd:QHg=.seq its n) (hi:(QFA Q3b).map (·.Q1Z)=AI)
  (hz:Q1W < 1000000) (h1:rxJ Q94=QM->∀(h':ZS) (co:ZG),(∀b o,Qc b=QB o->ZB b=QB o)->QCJ=QJ->R (.ok (.ret (.QQ Q0h))) {s with YO:=Q8h co}) (h0:rxJ Q94=QJ->R (.ok (.ret .QG)) s) :
  Q1L (Qi XE w) A (.Q0Q (.QQ u) ⟨[.Xt x t],[]⟩) R s:=by
 refine HY (Q1g:=.QQ p) (Q2I M6 _) hu (.inl hob) (fun A Q hq=>Uk hp hpc hpd hq) (ZY NO ?_)
 exact JN hp hpd hc hcd hi hz h1 h0
end
end
end Mini
end
section
open PySem PySem.W PySem.Calls PyProof.Rows
namespace Mini
noncomputable def aeP (K:Frag) (u:Addr):Prop:=∃p ct pt fl f3 f4 u1 u2 its n op oc,K.lookup u=some {cls:=.type "builtin_function_or_method",data:=.fields #[.builtin "re.Pattern.match",.ref p]} /\
 K.lookup p=some op/\op.cls=.type "re.Pattern"/\op.data=.fields #[pt,fl,.int 0 u1,f3,f4,.ref ct,.int 0 u2]/\K.lookup ct=some oc/\oc.data=.seq its n/\(its.map Builtin.Re.reRawOf).map (·.toNat)=AI
noncomputable def pRx (K:Frag) (u:Addr) (args:List Val):PT Val:=fun σ P=>on1 args fun a=>EI a fun x=>aeP K u/\x.cps.size < 1000000/\(rxJ x.cps=true->P (.ref σ.nx) (σ.alloc .any))/\(rxJ x.cps=false->P .none σ)
section
variable {c:Cx} {A:Around} {Λ:Lab} {σ:St}
theorem NR (hc:c.Ok) {L:Addr} {u:Addr} {args:List Val} {as:List Value} {P:Val->St->Prop} (ha:VRs Λ args as) (h:pRx c.K u args σ P):Bz c A L Λ (.ref u) as σ P:=fun fz s R r q=>by
 refine on1.el ha h fun v a h1 h=>EI.el h fun x ev h=>?_;subst ev;obtain (⟨t,rfl⟩):=h1
 ·skip
  refine an4 h fun yq5I hz h1 h0=>?_;obtain (⟨p,ct,pt,fl,f3,f4,u1,u2,its,n,op,oc,k1,k2,k3,k4,k5,k6,k7⟩):=yq5I
  have X:=hc.inK.keeps r.gkeep
  refine Pp (X _ _ k1) rfl (X _ _ k2) k3 k4 (X _ _ k5) k6 k7 hz (fun hj h' co hk hf=>?_) (fun hj=>q Λ s _ _ σ (.refl _) (h0 hj) rfl r)
  have r1:Rel c fz L Λ σ {s with heap:=h',toks:=s.toks}:=r.grow (tk:=s.toks) (dr:=s.drawn) hk
  exact q _ _ (.ref σ.nx) _ _ (Lab.push_ext _ _) (h1 hj) (VR.new _ r.nn) (r1.push (tk:=s.toks) (o:=.any) (co:=co) trivial hf)
end
end Mini
end
section
open PySem PySem.W PySem.Calls PyProof.Rows
namespace Mini
noncomputable def AD (G:Pg):Av:=fun f args σ P=>match f with
 | .imm u=>(match u with
  | .builtin id=>if id="tuple.__new__" then KE G.K args σ P else if id="sum" then ae4 args σ P else if id="len" then Ta G.K args σ P else if id="list.sort" then S8 G.K args σ P else pB id args σ P
  | .type T=>if T="map" then KG args σ P else if T="tuple" then Nb G.K args σ P else pTy T args σ P
  | _=>False)
 | .ref l=>FH (σ.hp l) fun id self=>pBm id (self::args) σ P
 | _=>False
noncomputable def Ti (G:Pg) (rec:Av):Av:=fun f args σ P=>match f with
 | .imm u=>(match u with
  | .ref a=>pFn G rec a args σ P\/TQ G rec a args σ P\/Nd G rec a args σ P\/JG G rec none a args σ P\/pRx G.K a args σ P
  | .type T=>(T="list"/\on1 args fun a=>Ai a fun m=>DF (σ.hp m) fun fv tl=>FE rec m fv tl σ P)\/AD G (.imm (.type T)) args σ P
  | u=>AD G (.imm u) args σ P)
 | .ref l=>(CE (σ.hp l) fun f C=>pFn G rec f (.imm (.ref C)::args) σ P)\/(Cr (σ.hp l) fun _ _=>IK G rec l args σ P)\/AD G (.ref l) args σ P
 | f=>AD G f args σ P
noncomputable def Ae (G:Pg):Nat->Av
 | 0=>AD G
 | d+1=>Ti G (Ae G d)
section
variable {c:Cx} {G:Pg}
mutual
theorem Cm (hc:Q3S) (hK:G.K=c.K) {A:Q2z} (hA:AOk A) {X1:Env} {fm:Fm} {fv:QU} {Λ:Lab} {σ:St} {P:QU->St->Prop} {vs:QC QU} {as:QC QI} {x:QI} (hx:VR Λ fv x) (ha:VRs Λ vs as) (h:AD G fv vs σ P):Zt c A X1 fm Λ (Q0Q x as) VR σ P:=by
 injections c G _ _ A _ X1 fm fv Λ σ P vs as x _ _ _
 cases fv with
 | imm u =>
  injections u zI
  cases u
  case Qd id =>
   cases hx
   refine Q0g h ?_ ?_
   ·intros e k
    subst e;rw [hK]at k;exact (Jc hc ha k).sim
   intros h;refine Q0g h ?_ ?_
   ·intros e k
    subst e;exact OL hA ha k
   intros h;refine Q0g h ?_ ?_
   ·intros e k
    subst e;rw [hK]at k;exact MV hc ha k
   intros h;refine Q0g h ?_ fun h=>aeN ha h
   ·intros e k
    subst e;rw [hK]at k;exact MT hc hA ha k
  case Qk T =>
   cases hx
   refine Q0g h ?_ ?_
   ·intros e k
    subst e;exact Ju ha k
   intros h;refine Q0g h ?_ fun h=>Tw hA ha h
   ·intros e k
    subst e;rw [hK]at k;exact Lk hc hA ha k
  all_goals exact Qy
 | QQ l=>exact FH.el h fun id Q1g e h=>TG hx e ha h
 | _=>exact Qy
theorem Eg (hc:Q3S) (hK:G.K=c.K) (hg:GlOk c QGV):∀(d:QH) {A:Q2z} (_:Q8u d A) {X1:Env} {fm:Fm} (fv:QU) (Λ:Lab) (σ:St) (P:QU->St->Prop) (vs:QC QU) (as:QC QI) (x:QI),VR Λ fv x->VRs Λ vs as->Ae G d fv vs σ P->Zt c A X1 fm Λ (Q0Q x as) VR σ P
 | 0,A,hA,X1,fm,fv,Λ,σ,P,vs,as,x,hx,ha,h=>Cm hc hK QFB hx ha h
 | d+1,A,hA,X1,fm,fv,Λ,σ,P,vs,as,x,hx,ha,h=>by
  have S:∀A' Q2V fm' n,Q8u d A'->Snd c A' Q2V fm' G (Ae G d) n:=fun A' Q2V fm' n hA'=>S5 hc hA'.aok hK hg (fun X1 fm fv Λ σ P vs as x hx ha h=>Eg hc hK hg d hA' fv Λ σ P vs as x hx ha h) n Q2V fm'
  replace h:Ti G (Ae G d) fv vs σ P:=h
  cases fv with
  | imm u =>
   cases u
   case QQ a =>
    cases hx
    refine Q6s h (fun h=>?_) fun h=>Qy (fun h=>?_) fun h=>Qy (fun h=>?_) fun h=>Qy (fun h=>?_) fun h=>?_
    ·exact (Fc hc hK (by have:=Q5Z;exact Ie this) (fun Q2V fm' n=>S _ Q2V fm' n (Q8i Q2V)) ha h).sim
    ·exact (NS hc hK hA S ha h).sim
    ·exact (LD hc hK hA S ha h).sim
    ·exact (NU hc hK (by have:=Q5Z;exact Ie this) (fun Q2V fm' n=>S _ Q2V fm' n (Q8i Q2V)) ha (fun P l h=>by cases h) h).sim
    ·rw [hK]at h;exact (NR hc ha h).sim
   case Qk T =>
    refine Q6s h (fun h=>?_) fun h=>Cm hc hK QFB hx ha h
    obtain (⟨eT,k⟩):=h
    subst eT
    cases hx
    refine Q71 ha k fun v a h1 h=>Q1Y h fun m ev h=>?_;subst ev
    refine DF.el h fun fv tl e3 h=>?_
    exact Iv hA (fun A' hA' X1 fm fv Λ σ P vs as x hx ha h=>Eg hc hK hg d hA' fv Λ σ P vs as x hx ha h) h1 h
   all_goals exact Cm hc hK QFB hx ha h
  | QQ l =>
   refine Q6s h (fun h=>CE.el h fun f C e h=>?_) fun h=>Qy (fun h=>Cr.el h fun _ _ e h=>?_) fun h=>Cm hc hK QFB hx ha h
   ·refine Bz.sim (fun fz s R r q=>?_)
    refine ew1 (Q3C _ hx.1) fun o yq3E=>?_;refine an2 yq3E fun ho hor=>?_;clear yq3E
    rw [e]at hor
    rw [hx.2]
    exact method_call (by rw [ho,hor]) (Fc hc hK (by have:=Q5Z;exact Ie this) (fun Q2V fm' n=>S _ Q2V fm' n (Q8i Q2V)) (.Xx (show VR Λ (.imm (.QQ C)) (.QQ C) from QA) ha) h fz s R r q)
   ·exact (NT hc (by have:=Q5Z;exact Ie this) (fun Q2V fm' n=>S _ Q2V fm' n (Q8i Q2V)) hx ha h).sim
  | _=>exact Cm hc hK QFB hx ha h
end
end
end Mini
end
section
open PySem PySem.W PySem.Calls PyProof.Rows
namespace Mini
section
variable {G:Pg} {cal:Av} {n:Nat} {fm:Fm} {σ:Mini.St}
mutual
theorem Fb {k:Const} {u:QH} {p:Pos} {P:QU->QE->Prop} (h:JH k σ P):ev G YX (n+1) fm (.Q4h k u p) σ P:=h
theorem JW {x:X8} {p:Pos} {P:QU->QE->Prop} (h1:(x == ("__debug__":X8))=QJ) (h2:(x == ("__classdict__":X8))=QJ) (h:BI QGV fm x σ P):ev G YX (n+1) fm (.Q0y x p) σ P:=⟨h1,h2,h⟩
theorem ajt {l r:Qf} {op:Q6Y} {p:Pos} {P:QU->QE->Prop} (h:ev G YX n fm l σ fun a σ=>ev G YX n fm r σ fun b σ=>CP op a b σ P):ev G YX (n+1) fm (.BinOp l op r p) σ P:=h
theorem af5 {l r:Qf} {op:QHE} {p:Pos} {P:QU->QE->Prop} (hm:Q6M op r=QJ) (h:ev G YX n fm l σ fun a σ=>ev G YX n fm r σ fun b σ=>BK op a b σ P):ev G YX (n+1) fm (.Q8f l [op] [r] p) σ P:=⟨hm,h⟩
theorem agD {es:QC Qf} {k:QH} {p:Pos} {P:QU->QE->Prop} (hs:Am es=QM) (h:A6 (ev G YX n fm) es σ fun vs σ=>Q0U<=Xb/\P (.QQ QO) (Qw (.YM vs))):ev G YX (n+1) fm (.Zs es k p) σ P:=⟨hs,h⟩
theorem aiT {es:QC Qf} {p:Pos} {P:QU->QE->Prop} (hs:Am es=QM) (h:A6 (ev G YX n fm) es σ fun vs σ=>Q0U<=Xb/\P (.QQ QO) (Qw (.Qs vs))):ev G YX (n+1) fm (.QC es p) σ P:=⟨hs,h⟩
theorem agF {p:Pos} {P:QU->QE->Prop} (h:P (.QQ QO) (Qw (.Q04 []))):ev G YX (n+1) fm (.Dict [] [] p) σ P:=h
theorem aiY {o:Qf} {a:X8} {p:Pos} {P:QU->QE->Prop} (h0:BY o=QM) (h:ev G YX n fm o σ fun v σ=>BB G.K v a σ P):ev G YX (n+1) fm (.Q1u o a p) σ P:=⟨h0,h⟩
theorem agE {v:Qf} {lo hi st:QW Qf} {q p:Pos} {P:QU->QE->Prop} (h:ev G YX n fm v σ fun a σ=>EY (ev G YX n fm) lo σ fun x σ=>EY (ev G YX n fm) hi σ fun y σ=>EY (ev G YX n fm) st σ fun z σ=>Bs a x y z σ P):ev G YX (n+1) fm (.Q2K v (.QBY lo hi st q) p) σ P:=h
theorem S3 {P:Fl->QE->Prop} (h:P .YE σ):exs G YX (n+1) fm [] σ P:=h
theorem Ar {s:Yc} {r:QC Yc} {P:Fl->QE->Prop} (h:ex1 G YX n fm s σ (Fx (exs G YX n fm r) P)):exs G YX (n+1) fm (s::r) σ P:=h
theorem ahx {v:Qf} {p:Pos} {P:Fl->QE->Prop} (hc:A3 v=QJ) (h:ev G YX n fm v σ fun _ σ=>P .YE σ):ex1 G YX (n+1) fm (.Qf v p) σ P:=⟨hc,h⟩
theorem ajb {e:Qf} {p:Pos} {P:Fl->QE->Prop} (h:ev G YX n fm e σ fun v σ=>P (.ret v) σ):ex1 G YX (n+1) fm (.Return (QB e) p) σ P:=h
theorem ahw {p:Pos} {P:Fl->QE->Prop} (h:P (.ret .QG) σ):ex1 G YX (n+1) fm (.Return QG p) σ P:=h
theorem ajJ {t:Qf} {b o:QC Yc} {p:Pos} {P:Fl->QE->Prop} (h:tst G YX n fm t σ fun c σ=>(c=QM->exs G YX n fm b σ P)/\(c=QJ->exs G YX n fm o σ P)):ex1 G YX (n+1) fm (.If t b o p) σ P:=h
theorem DL {t:Qf} {b:QC Yc} {p:Pos} {P:Fl->QE->Prop} (k:QH) (h:CZ (tst G YX n fm t) (exs G YX n fm b) k σ P):ex1 G YX (n+1) fm (.While t b [] p) σ P:=⟨k,h⟩
theorem ajc {t it:Qf} {b:QC Yc} {p:Pos} {P:Fl->QE->Prop} (h:IJ QGV fm (ev G YX n fm) it σ fun src σ=>Gl (asg G YX n fm t) (exs G YX n fm b) t src σ P):ex1 G YX (n+1) fm (.For t it b [] p) σ P:=h
theorem ajf {x:Qf} {p:Pos} {P:Qu->QE->Prop} (h:tst G YX n fm x σ fun b σ=>P (!b) σ):tst G YX (n+1) fm (.QEu .Not x p) σ P:=h
theorem ahE {op:QEq} {vs:QC Qf} {p:Pos} {P:Qu->QE->Prop} (h:BL (tst G YX n fm) op vs σ P):tst G YX (n+1) fm (.QEq op vs p) σ P:=h
theorem ajg {l r:Qf} {op:QHE} {p:Pos} {P:Qu->QE->Prop} (hm:Q6M op r=QJ) (h:ev G YX n fm l σ fun a σ=>ev G YX n fm r σ fun b σ=>BK op a b σ fun v σ=>AC G.K v σ P):tst G YX (n+1) fm (.Q8f l [op] [r] p) σ P:=⟨hm,h⟩
theorem ahC {x:X8} {p:Pos} {P:Qu->QE->Prop} (h:ev G YX n fm (.Q0y x p) σ fun v σ=>AC G.K v σ P):tst G YX (n+1) fm (.Q0y x p) σ P:=h
theorem ahD {f:Qf} {as:QC Qf} {kw:QC QEo} {p:Pos} {P:Qu->QE->Prop} (h:ev G YX n fm (.QB3 f as kw p) σ fun v σ=>AC G.K v σ P):tst G YX (n+1) fm (.QB3 f as kw p) σ P:=h
theorem ahF {o:Qf} {a:X8} {p:Pos} {P:Qu->QE->Prop} (h:ev G YX n fm (.Q1u o a p) σ fun v σ=>AC G.K v σ P):tst G YX (n+1) fm (.Q1u o a p) σ P:=h
theorem Om {x:X8} {p:Pos} {v:QU} {P:Yb->QE->Prop} (h:Br fm x v σ P):asg G YX (n+1) fm (.Q0y x p) v σ P:=h
theorem PK {es:QC Qf} {k:QH} {p:Pos} {v:QU} {P:Yb->QE->Prop} (hs:Am es=QM) (h:AR G.K v QAt σ fun vs σ=>EH (asg G YX n fm) es vs σ P):asg G YX (n+1) fm (.Zs es k p) v σ P:=⟨hs,h⟩
theorem aja {o:Qf} {a:X8} {p:Pos} {v:QU} {P:Yb->QE->Prop} (h:ev G YX n fm o σ fun ov σ=>Co G.K ov a v σ P):asg G YX (n+1) fm (.Q1u o a p) v σ P:=h
theorem ajH {o i:Qf} {p:Pos} {v:QU} {P:Yb->QE->Prop} (h:ev G YX n fm o σ fun ov σ=>ev G YX n fm i σ fun iv σ=>C0 ov iv v σ P):asg G YX (n+1) fm (.Q2K o i p) v σ P:=h
end
end
end Mini
end
section
open PySem PySem.W PySem.Calls PyProof.Rows
namespace Mini
section
variable {gl:Str->Option Value} {fm:Fm} {bs:List (Str×Val)} {hp:Nat->Ob} {nx:Nat} {x:Str}
theorem T3 {v:Val} {l:Nat} {P:Val->Mini.St->Prop} {σ:Mini.St} (h:fm.sc.names.lookup x=some .cell\/fm.sc.names.lookup x=some .free) (h1:fm.cl.lookup x=some l) (h2:σ.hp l=.cell (some v)) (k:P v σ):BI gl fm x σ P:=by
 unfold BI
 rcases h with h | h <;> rw [h] <;> show Ad (fm.cl.lookup x) _ <;> rw [h1] <;> refine BD.mk h2 ?_ <;> exact k
end
end Mini
end
section
open PySem PySem.W PySem.Calls PyProof.Rows
namespace Mini
theorem A8 (a b:String):(Str.ofString a=Str.ofString b)=(a=b):=by
 apply propext
 constructor
 ·intro h
  rw [Str.ofString_eq_toList,Str.ofString_eq_toList]at h
  have h2:a.toList.map Char.toNat=b.toList.map Char.toNat:=by
   have:=congrArg (fun s=>s.cps.toList) h
   simpa using this
  have h3:a.toList=b.toList:=(List.map_inj_right fun x y e=>Char.toNat_inj.mp e).mp h2
  exact String.toList_inj.mp h3
 ·intro h;rw [h]
section
variable {σ:Mini.St} {x y:Str} {v:Val} {o:Ob} {k l:Nat}
mutual
theorem AT:(Q5P x v).loc y=if y=x then QB v else Xy y:=QA
theorem Ah:(Q5P x v).nx=QO:=QA
theorem DN:(Qw o).loc=Xy:=QA
theorem Ab:(Qw o).nx=QO+1:=QA
theorem CC:(Yy l o).loc=Xy:=QA
theorem Ac:(Yy l o).nx=QO:=QA
theorem Bp:(Yy l o).hp k=if k=l then o else QS k:=QA
end
end
noncomputable def Nr (sc:Scope) (x:Str):Bool:=!(x == ("__debug__":Str))&&!(x == ("__classdict__":Str))&&(sc.names.lookup x == some .local)
noncomputable def HO (sc:Scope) (x:Str):Bool:=!(x == ("__debug__":Str))&&!(x == ("__classdict__":Str))&&(sc.names.lookup x == some .globalImplicit)
section
variable {G:Pg} {cal:Av} {n:Nat} {fm:Fm} {σ:Mini.St} {x:Str} {p:Pos}
mutual
theorem af3 {v:QU} {P:QU->QE->Prop} (h:Nr Zr x=QM) (h2:Xy x=QB v) (k:P v σ):ev G YX (n+1) fm (.Q0y x p) σ P:=by
 simp only [Nr,X9,ZD,ZM]at h
 refine JW h.1.1 h.1.2 ?_
 unfold BI
 rw [h.2];dsimp only;rw [h2];exact k
theorem aiV {v:QI} {P:QU->QE->Prop} (h:HO Zr x=QM) (h2:QGV x=QB v) (k:P (.imm v) σ):ev G YX (n+1) fm (.Q0y x p) σ P:=by
 simp only [HO,X9,ZD,ZM]at h
 refine JW h.1.1 h.1.2 ?_
 unfold BI
 rw [h.2];dsimp only;rw [h2];exact k
theorem ajI {v:QU} {P:Yb->QE->Prop} (h:(ZL x == QB .Q63)=QM) (k:P () (Q5P x v)):asg G YX (n+1) fm (.Q0y x p) v σ P:=by
 refine Om ?_
 unfold Br
 rw [Z4 h];exact k
theorem Mh {ts:QC Qf} {e:Qf} {P:Fl->QE->Prop} (hc:A3 e=QJ) (key:(A3 e=QJ/\Am ts=QM/\Bg ts e=QJ)/\ev G YX n fm e σ fun v σ=>(match BV Zr ts e with
   | QB Q48=>AR G.K v Q2w σ fun vs σ=>AH fm Q4a Q3Y σ fun _ σ=>P .YE σ
   | QG=>A7 (asg G YX n fm) v ts σ fun _ σ=>P .YE σ)):ex1 G YX (n+1) fm (.Q77 ts e p) σ P:=by
 injections G YX n fm σ p ts e P _ _
 rcases ts with _ | ⟨t,_ | ⟨t2,r⟩⟩
 ·exact key
 ·cases e
  case ZF=>cases hc
  all_goals exact key
 ·exact key
theorem aeJ {ts:QC Qf} {e:Qf} {P:Fl->QE->Prop} (h1:(A3 e=QJ/\Am ts=QM/\Bg ts e=QJ)) (h2:BV Zr ts e=QG) (h:ev G YX n fm e σ fun v σ=>A7 (asg G YX n fm) v ts σ fun _ σ=>P .YE σ):ex1 G YX (n+1) fm (.Q77 ts e p) σ P:=by
 have key:(A3 e=QJ/\Am ts=QM/\Bg ts e=QJ)/\ev G YX n fm e σ fun v σ=>(match BV Zr ts e with
   | QB Q48=>AR G.K v Q2w σ fun vs σ=>AH fm Q4a Q3Y σ fun _ σ=>P .YE σ
   | QG=>A7 (asg G YX n fm) v ts σ fun _ σ=>P .YE σ):=⟨h1,by rw [h2];exact h⟩
 exact Mh h1.1 key
theorem Mg {ts:QC Qf} {e:Qf} {Q48:QC X8} {P:Fl->QE->Prop} (h1:(A3 e=QJ/\Am ts=QM/\Bg ts e=QJ)) (h2:BV Zr ts e=QB Q48) (h:ev G YX n fm e σ fun v σ=>AR G.K v Q2w σ fun vs σ=>AH fm Q4a Q3Y σ fun _ σ=>P .YE σ):ex1 G YX (n+1) fm (.Q77 ts e p) σ P:=by
 have key:(A3 e=QJ/\Am ts=QM/\Bg ts e=QJ)/\ev G YX n fm e σ fun v σ=>(match BV Zr ts e with
   | QB Q48=>AR G.K v Q2w σ fun vs σ=>AH fm Q4a Q3Y σ fun _ σ=>P .YE σ
   | QG=>A7 (asg G YX n fm) v ts σ fun _ σ=>P .YE σ):=⟨h1,by rw [h2];exact h⟩
 exact Mh h1.1 key
theorem aeI {op:Q6Y} {e:Qf} {q:Pos} {P:Fl->QE->Prop} (h1:(x == ("__classdict__":X8))=QJ) (h:BI QGV fm x σ fun a σ=>ev G YX n fm e σ fun b σ=>Oj fm x op P a b σ):ex1 G YX (n+1) fm (.QE7 (.Q0y x q) op e p) σ P:=by
 exact ⟨h1,h⟩
theorem Tn {tg elt:Qf} {g:Qx} {gs:QC Qx} {Qv:Q0M} {q:Pos} {P:Fl->QE->Prop} (h1:B2 tg=QJ) (cl:QC (X8×QH))
  (h:Hb fm Qv cl (ev G YX n fm) (ev G YX n ⟨Aj Qv Zr,cl,Q2R,Q2S⟩) (tst G YX n ⟨Aj Qv Zr,cl,Q2R,Q2S⟩) (asg G YX n ⟨Aj Qv Zr,cl,Q2R,Q2S⟩) elt g gs σ fun v σ=>asg G YX n fm tg v σ fun _ σ=>P .YE σ) :
  ex1 G YX (n+1) fm (.Q77 [tg] (.ZF elt (g::gs) Qv q) p) σ P:=⟨h1,cl,h⟩
theorem ajd {o i:Qf} {q:Pos} {P:Fl->QE->Prop} (h:ev G YX n fm o σ fun ov σ=>ev G YX n fm i σ fun iv σ=>C1 ov iv σ fun _ σ=>P .YE σ):ex1 G YX (n+1) fm (.Delete [.Q2K o i q] p) σ P:=h
theorem ahy {P:Fl->QE->Prop} (h:P .QAy σ):ex1 G YX (n+1) fm (.Continue p) σ P:=h
theorem aje {P:Fl->QE->Prop} (h:P .brk σ):ex1 G YX (n+1) fm (.Break p) σ P:=h
theorem NP {t b o:Qf} {P:QU->QE->Prop} (h:tst G YX n fm t σ fun c σ=>(c=QM->ev G YX n fm b σ P)/\(c=QJ->ev G YX n fm o σ P)):ev G YX (n+1) fm (.IfExp t b o p) σ P:=h
theorem NQ {elt:Qf} {g:Qx} {gs:QC Qx} {Qv:Q0M} {P:QU->QE->Prop} (cl:QC (X8×QH))
  (h:Hb fm Qv cl (ev G YX n fm) (ev G YX n ⟨Aj Qv Zr,cl,Q2R,Q2S⟩) (tst G YX n ⟨Aj Qv Zr,cl,Q2R,Q2S⟩) (asg G YX n ⟨Aj Qv Zr,cl,Q2R,Q2S⟩) elt g gs σ P):ev G YX (n+1) fm (.ZF elt (g::gs) Qv p) σ P:=⟨cl,h⟩
theorem af4 {Xc:Q5C} {Yf:Qf} {Qv:Q0M} {P:QU->QE->Prop} (h:TS G.K fm Xc Yf Qv p σ P):ev G YX (n+1) fm (.Lambda Xc Yf Qv p) σ P:=h
theorem aiU {v i:Qf} {P:QU->QE->Prop} (hs:Cf i=QJ) (h:ev G YX n fm v σ fun a σ=>ev G YX n fm i σ fun b σ=>FF a b σ P):ev G YX (n+1) fm (.Q2K v i p) σ P:=by
 cases i
 case QBY=>cases hs
 all_goals exact ⟨hs,h⟩
theorem aiX {f:Qf} {Xc:QC Qf} {P:QU->QE->Prop} (hf:T7 f=QJ) (hs:Am Xc=QM) (h:ev G YX n fm f σ fun v σ=>A6 (ev G YX n fm) Xc σ fun vs σ=>Bw G.K σ v/\YX v vs σ P):ev G YX (n+1) fm (.QB3 f Xc [] p) σ P:=by
 cases f
 case Q1u=>cases hf
 all_goals exact ⟨hs,h⟩
theorem aiS {o:Qf} {Q1z:X8} {apos:Pos} {Xc:QC Qf} {P:QU->QE->Prop} (hs:(BY o=QM/\Am Xc=QM/\Q4i < 30/\(QEv == p.line)=QM))
  (h:ev G YX n fm o σ fun v σ=>DW G.K v Q1z σ fun q σ=>A6 (ev G YX n fm) Xc σ fun vs σ=>Bw G.K σ q.1/\YX q.1 (q.2++vs) σ P):ev G YX (n+1) fm (.QB3 (.Q1u o Q1z apos) Xc [] p) σ P:=⟨hs,h⟩
end
end
end Mini
end
section
open PySem PySem.W PySem.Calls PyProof.Rows
set_option maxRecDepth 100000
set_option maxHeartbeats 2000000
namespace Mine01
open Mini
mutual
def fdO (o:ZG):QGG:=match Q21 with
 | .Q7j fd=>fd
 | _=>kla_fn "" "" Zv (.Q0y "" Zv) Zv [] .QG .QG .QG
def Ub (K:Q1B) (x:X8):QW QI:=match nsIn K Q3e x with
 | QB (QB v)=>QB v
 | QB QG=>if x="__name__" then QG else bootBuiltins x
 | QG=>QG
theorem aiH {α:Type} {l:QC α} (h:ZJ=0):l=[]:=Zx h
theorem Nv {α:Type} {l:QC α} {n:QH} (h:ZJ=n+1):∃a r,l=a::r/\Q7n=n:=by
 cases l with
 | Zo=>cases h
 | Xx a r=>exact ⟨a,r,QA,QES h⟩
theorem IV {α:Type} {l:QC α} (h:ZJ=1):∃a0,l=[a0]:=by
 refine ew2 (Nv h) fun x r yq7R=>?_;refine an2 yq7R fun e k=>?_;clear yq7R
 rw [aiH k]at e
 exact ⟨x,e⟩
theorem Nw {α:Type} {l:QC α} (h:ZJ=2):∃a0 a1,l=[a0,a1]:=by
 refine ew2 (Nv h) fun x r yq7S=>?_;refine an2 yq7S fun e k=>?_;clear yq7S
 obtain (⟨a1,f⟩):=IV k
 rw [f]at e
 exact ⟨x,a1,e⟩
theorem Pb {α:Type} {l:QC α} (h:ZJ=3):∃a0 a1 a2,l=[a0,a1,a2]:=by
 refine ew2 (Nv h) fun x r yq7T=>?_;refine an2 yq7T fun e k=>?_;clear yq7T
 refine ew2 (Nw k) fun a1 a2 f=>?_
 rw [f]at e
 exact ⟨x,a1,a2,e⟩
theorem afN {α:Type} {l:QC α} (h:ZJ=4):∃a0 a1 a2 a3,l=[a0,a1,a2,a3]:=by
 refine ew2 (Nv h) fun x r yq7U=>?_;refine an2 yq7U fun e k=>?_;clear yq7U
 refine ew3 (Pb k) fun a1 a2 a3 f=>?_
 rw [f]at e
 exact ⟨x,a1,a2,a3,e⟩
theorem afM {α:Type} {l:QC α} (h:ZJ=5):∃a0 a1 a2 a3 a4,l=[a0,a1,a2,a3,a4]:=by
 refine ew2 (Nv h) fun x r yq7V=>?_;refine an2 yq7V fun e k=>?_;clear yq7V
 refine ew4 (afN k) fun a1 a2 a3 a4 f=>?_
 rw [f]at e
 exact ⟨x,a1,a2,a3,a4,e⟩
def G (P:Ql):Pg:=⟨K P,Ub (K P)⟩
theorem FV (P:Ql):Q8E (K P) 99 (fdO (o99 P)) (fnB (sub (st 4) 4)) ["_cls","a","b","size"] [] where
 at':=⟨_,_,_,QA⟩
 Q0s:=by kernel_rfl
 co:=by kernel_rfl
 gen:=by kernel_rfl
 Yf:=by kernel_rfl
 clo:=by kernel_rfl
 gl:=by kernel_rfl
 bl:=by kernel_rfl
 kd:=by kernel_rfl
 QAN:=fun S as h=>by
  refine ew4 (afN h) fun a0 a1 a2 a3 yq7W=>?_;obtain QA:=yq7W
  kernel_rfl
theorem FU (P:Ql):Q8E (K P) 106 (fdO (aiA P)) (fnB (sub (st 4) 5)) ["cls","iterable"] [] where
 at':=⟨_,_,_,QA⟩
 Q0s:=by kernel_rfl
 co:=by kernel_rfl
 gen:=by kernel_rfl
 Yf:=by kernel_rfl
 clo:=by kernel_rfl
 gl:=by kernel_rfl
 bl:=by kernel_rfl
 kd:=by kernel_rfl
 QAN:=fun S as h=>by
  refine ew2 (Nw h) fun a0 a1 yq7X=>?_;obtain QA:=yq7X
  kernel_rfl
theorem B7 (P:Ql):Q8E (K P) 177 (fdO (aiz P)) (fnB (sub (st 6) 1)) ["self","isjunk","a","b","autojunk"] [] where
 at':=⟨_,_,_,QA⟩
 Q0s:=by kernel_rfl
 co:=by kernel_rfl
 gen:=by kernel_rfl
 Yf:=by kernel_rfl
 clo:=by kernel_rfl
 gl:=by kernel_rfl
 bl:=by kernel_rfl
 kd:=by kernel_rfl
 QAN:=fun S as h=>by
  refine ew5 (afM h) fun a0 a1 a2 a3 a4 yq7Y=>?_;obtain QA:=yq7Y
  kernel_rfl
theorem BN (P:Ql):Q8E (K P) 184 (fdO (aiy P)) (fnB (sub (st 6) 2)) ["self","a","b"] [] where
 at':=⟨_,_,_,QA⟩
 Q0s:=by kernel_rfl
 co:=by kernel_rfl
 gen:=by kernel_rfl
 Yf:=by kernel_rfl
 clo:=by kernel_rfl
 gl:=by kernel_rfl
 bl:=by kernel_rfl
 kd:=by kernel_rfl
 QAN:=fun S as h=>by
  refine ew3 (Pb h) fun a0 a1 a2 yq7Z=>?_;obtain QA:=yq7Z
  kernel_rfl
theorem BP (P:Ql):Q8E (K P) 191 (fdO (aix P)) (fnB (sub (st 6) 3)) ["self","a"] [] where
 at':=⟨_,_,_,QA⟩
 Q0s:=by kernel_rfl
 co:=by kernel_rfl
 gen:=by kernel_rfl
 Yf:=by kernel_rfl
 clo:=by kernel_rfl
 gl:=by kernel_rfl
 bl:=by kernel_rfl
 kd:=by kernel_rfl
 QAN:=fun S as h=>by
  refine ew2 (Nw h) fun a0 a1 yq80=>?_;obtain QA:=yq80
  kernel_rfl
theorem BO (P:Ql):Q8E (K P) 198 (fdO (aiw P)) (fnB (sub (st 6) 4)) ["self","b"] [] where
 at':=⟨_,_,_,QA⟩
 Q0s:=by kernel_rfl
 co:=by kernel_rfl
 gen:=by kernel_rfl
 Yf:=by kernel_rfl
 clo:=by kernel_rfl
 gl:=by kernel_rfl
 bl:=by kernel_rfl
 kd:=by kernel_rfl
 QAN:=fun S as h=>by
  refine ew2 (Nw h) fun a0 a1 yq81=>?_;obtain QA:=yq81
  kernel_rfl
theorem BF (P:Ql):Q8E (K P) 205 (fdO (aiv P)) (fnB (sub (st 6) 5)) ["self"] [] where
 at':=⟨_,_,_,QA⟩
 Q0s:=by kernel_rfl
 co:=by kernel_rfl
 gen:=by kernel_rfl
 Yf:=by kernel_rfl
 clo:=by kernel_rfl
 gl:=by kernel_rfl
 bl:=by kernel_rfl
 kd:=by kernel_rfl
 QAN:=fun S as h=>by
  obtain (⟨a0,QA⟩):=IV h
  kernel_rfl
theorem AY (P:Ql):Q8E (K P) 213 (fdO (aiu P)) (fnB (sub (st 6) 6)) ["self","alo","ahi","blo","bhi"] [] where
 at':=⟨_,_,_,QA⟩
 Q0s:=by kernel_rfl
 co:=by kernel_rfl
 gen:=by kernel_rfl
 Yf:=by kernel_rfl
 clo:=by kernel_rfl
 gl:=by kernel_rfl
 bl:=by kernel_rfl
 kd:=by kernel_rfl
 QAN:=fun S as h=>by
  refine ew5 (afM h) fun a0 a1 a2 a3 a4 yq82=>?_;obtain QA:=yq82
  kernel_rfl
theorem AU (P:Ql):Q8E (K P) 220 (fdO (ait P)) (fnB (sub (st 6) 7)) ["self"] [] where
 at':=⟨_,_,_,QA⟩
 Q0s:=by kernel_rfl
 co:=by kernel_rfl
 gen:=by kernel_rfl
 Yf:=by kernel_rfl
 clo:=by kernel_rfl
 gl:=by kernel_rfl
 bl:=by kernel_rfl
 kd:=by kernel_rfl
 QAN:=fun S as h=>by
  obtain (⟨a0,QA⟩):=IV h
  kernel_rfl
theorem E1 (P:Ql):Q8E (K P) 277 (fdO (ais P)) (fnB (st 8)) ["line"] [("pat",.QQ 269)] where
 at':=⟨_,_,_,QA⟩
 Q0s:=by kernel_rfl
 co:=by kernel_rfl
 gen:=by kernel_rfl
 Yf:=by kernel_rfl
 clo:=by kernel_rfl
 gl:=by kernel_rfl
 bl:=by kernel_rfl
 kd:=by kernel_rfl
 QAN:=fun S as h=>by
  obtain (⟨a0,QA⟩):=IV h
  kernel_rfl
theorem HR (P:Ql):Q8E (K P) 284 (fdO (air P)) (fnB (st 10)) ["d"] [] where
 at':=⟨_,_,_,QA⟩
 Q0s:=by kernel_rfl
 co:=by kernel_rfl
 gen:=by kernel_rfl
 Yf:=by kernel_rfl
 clo:=by kernel_rfl
 gl:=by kernel_rfl
 bl:=by kernel_rfl
 kd:=by kernel_rfl
 QAN:=fun S as h=>by
  obtain (⟨a0,QA⟩):=IV h
  kernel_rfl
theorem Gu (P:Ql):Q8E (K P) 289 (fdO (aiq P)) (fnB (st 11)) ["isjunk","first","second"] [] where
 at':=⟨_,_,_,QA⟩
 Q0s:=by kernel_rfl
 co:=by kernel_rfl
 gen:=by kernel_rfl
 Yf:=by kernel_rfl
 clo:=by kernel_rfl
 gl:=by kernel_rfl
 bl:=by kernel_rfl
 kd:=by kernel_rfl
 QAN:=fun S as h=>by
  refine ew3 (Pb h) fun a0 a1 a2 yq83=>?_;obtain QA:=yq83
  kernel_rfl
theorem CI (P:Ql):Q8E (K P) 294 (fdO (aip P)) (fnB (st 12)) ["blocks","first","second"] [] where
 at':=⟨_,_,_,QA⟩
 Q0s:=by kernel_rfl
 co:=by kernel_rfl
 gen:=by kernel_rfl
 Yf:=by kernel_rfl
 clo:=by kernel_rfl
 gl:=by kernel_rfl
 bl:=by kernel_rfl
 kd:=by kernel_rfl
 QAN:=fun S as h=>by
  refine ew3 (Pb h) fun a0 a1 a2 yq84=>?_;obtain QA:=yq84
  kernel_rfl
theorem Ud (P:Ql):Q8E (K P) 299 (fdO (AO P)) (fnB (st 13)) ["script"] [] where
 at':=⟨_,_,_,QA⟩
 Q0s:=by kernel_rfl
 co:=by kernel_rfl
 gen:=by kernel_rfl
 Yf:=by kernel_rfl
 clo:=by kernel_rfl
 gl:=by kernel_rfl
 bl:=by kernel_rfl
 kd:=by kernel_rfl
 QAN:=fun S as h=>by
  obtain (⟨a0,QA⟩):=IV h
  kernel_rfl
end
end Mine01
end
section
open PySem PySem.W PySem.Calls PyProof.Rows
set_option maxRecDepth 100000
set_option maxHeartbeats 2000000
namespace Mine01
open Mini
mutual
theorem Ts (P:Ql):TupK (K P) 152 153 99 (.Qk "type") where
 obj:=⟨_,_,_,_,QA,by kernel_rfl⟩
 Q0Q:=fun S=>by kernel_rfl
 typ:=fun S=>by kernel_rfl
 mro:=⟨[.QQ 152,.Qk "tuple",.Qk "object"],QA,fun S=>by kernel_rfl⟩
 made:=fun S=>by kernel_rfl
 QBt:=fun S=>by kernel_rfl
 isT:=fun S=>by kernel_rfl
 sub:=fun S=>by kernel_rfl
 Q1g:=fun S=>by kernel_rfl
 top:=fun S=>by kernel_rfl
 init:=fun S=>by kernel_rfl
 check:=fun S t=>by kernel_rfl
 reads:=by kernel_rfl
 new:=by kernel_rfl
 sm:=by kernel_rfl
theorem afX (P:Ql):(G P).gl "tuple"=QB (.Qk "tuple"):=by kernel_rfl
theorem aiP (P:Ql):(G P).gl "len"=QB (.Qd "len"):=by kernel_rfl
theorem afY (P:Ql):(G P).gl "range"=QB (.Qk "range"):=by kernel_rfl
theorem aiN (P:Ql):(G P).gl "set"=QB (.Qk "set"):=by kernel_rfl
theorem agB (P:Ql):(G P).gl "list"=QB (.Qk "list"):=by kernel_rfl
theorem aiO (P:Ql):(G P).gl "map"=QB (.Qk "map"):=by kernel_rfl
theorem Ph (P:Ql):(G P).gl "enumerate"=QB (.Qk "enumerate"):=by kernel_rfl
theorem aiM (P:Ql):(G P).gl "sum"=QB (.Qd "sum"):=by kernel_rfl
theorem aiQ (P:Ql):(G P).gl "chr"=QB (.Qd "chr"):=by kernel_rfl
theorem af1 (P:Ql):(G P).gl "Match"=QB (.QQ 152):=by kernel_rfl
theorem ajs (P:Ql):(G P).gl "SequenceMatcher"=QB (.QQ 259):=by kernel_rfl
theorem aiR (P:Ql):(G P).gl "IS_LINE_JUNK"=QB (.QQ 277):=by kernel_rfl
theorem af0 (P:Ql):(G P).gl "_law_dress"=QB (.QQ 284):=by kernel_rfl
theorem UJ (P:Ql):(G P).gl "_law_blocks"=QB (.QQ 289):=by kernel_rfl
theorem Ua (P:Ql):(G P).gl "_law_goes_no_further"=QB (.QQ 294):=by kernel_rfl
theorem Np (P:Ql):makesIn (K P) 259=QM:=by kernel_rfl
theorem TK (P:Ql):aeP (K P) 269:=⟨268,267,_,_,_,_,_,_,_,_,_,_,QA,QA,QA,QA,QA,QA,by kernel_rfl⟩
theorem agv (P:Ql):Ch (G P).K 259 "set_seqs" 184=QM:=by kernel_rfl
theorem agx (P:Ql):Ch (G P).K 259 "set_seq1" 191=QM:=by kernel_rfl
theorem agw (P:Ql):Ch (G P).K 259 "set_seq2" 198=QM:=by kernel_rfl
theorem afJ (P:Ql):Ch (G P).K 259 "_SequenceMatcher__chain_b" 205=QM:=by kernel_rfl
theorem aiC (P:Ql):Ch (G P).K 259 "find_longest_match" 213=QM:=by kernel_rfl
theorem aiB (P:Ql):Ch (G P).K 259 "get_matching_blocks" 220=QM:=by kernel_rfl
end
end Mine01
end
section
open PySem PySem.W PySem.Calls PyProof.Rows
set_option genInjectivity false
set_option genSizeOf false
namespace Mini
mutual
structure Gro (σ XH:QE):Prop where
 nx:QO<=Xh
 loc:YA=Xy
 hp:∀l,l < QO->X5 l=QS l
structure QGW (X:QC QH) (σ XH:QE):Prop where
 nx:QO<=Xh
 loc:YA=Xy
 hp:∀l,l < QO->l∉X->X5 l=QS l
structure YU (X:QC QH) (σ XH:QE):Prop where
 nx:QO<=Xh
 hp:∀l,l < QO->l∉X->X5 l=QS l
theorem GroH.refl {X:QC QH} {σ:QE}:YU X σ σ:=⟨Qh _,fun _ _ _=>QA⟩
theorem Q2h {X:QC QH} {a b d:QE} (h:YU X a b) (k:YU X b d):YU X a d:=⟨Qz QFC k.nx,fun l hl hx=>(k.hp l (QP hl QFC) hx).QR (h.hp l hl hx)⟩
theorem GroH.mono {X Y:QC QH} {a b:QE} (h:YU X a b) (s:∀l∈X,l∈Y):YU Y a b:=⟨QFC,fun l hl hx=>h.hp l hl fun q=>hx (s l q)⟩
theorem GroH.set {X:QC QH} {a b:QE} (h:YU X a b) {x:X8} {v:QU}:YU X a (b.set x v):=⟨QFC,h.hp⟩
theorem GroH.alloc {X:QC QH} {a b:QE} (h:YU X a b) {o:Ob}:YU X a (b.alloc o):=⟨Q64 QFC,fun l hl hx=>(QN (Xv (QP hl QFC))).QR (h.hp l hl hx)⟩
theorem GroH.upd {X:QC QH} {a b:QE} (h:YU X a b) {l:QH} {o:Ob} (hl:l∈X\/a.nx<=l):YU X a (b.upd l o):=⟨QFC,fun k hk hx=>(QN (fun q=>by subst q;rcases hl with r | r;exact hx r;exact acB hk r)).QR (h.hp k hk hx)⟩
theorem GroH.loc {X:QC QH} {a b:QE} (h:YU X a b) {f g:X8->QW QU}:YU X {a with loc:=f} {b with loc:=g}:=⟨QFC,h.hp⟩
end
section
variable {G:Pg} {cal:Av} {n:Nat} {fm:Fm} {σ:Mini.St} {x:Str} {p:Pos}
mutual
theorem AE {a:Qq} {Xc:QC QU} {fd:QGG} {Yf:QC Yc} {xs:QC X8} {dv:QC (X8×QI)} {P:QU->QE->Prop} (F:Q8E G.K a fd Yf xs dv) (hl:Q4i=Qn) (h1:Fa Q1O=QM) (h2:D9 Q1O (xs++QB8 (·.1))=QM) (n:QH)
  (h:∀σ1:QE,Q2A=QS->YD=QO->(∀x v,(AK xs Xc dv).reverse.lookup x=QB v->Za x=QB v)->exs G YX n ⟨Q1O,[],QAM,QG⟩ Yf σ1 fun fl XH=>P (Lo fl) {XH with loc:=Xy}):pFn G YX a Xc σ P :=
 ⟨fd,Yf,xs,dv,n,F,hl,h1,h2,h _ QA QA fun x v e=>e⟩
theorem BQ {d:QH} {a:Qq} {Xc:QC QU} {P:QU->QE->Prop} (h:pFn G (Ae G d) a Xc σ P):Ae G (d+1) (.imm (.QQ a)) Xc σ P:=.inl h
theorem LJ {d:QH} {a:Qq} {Xc:QC QU} {P:QU->QE->Prop} (h:Nd G (Ae G d) a Xc σ P):Ae G (d+1) (.imm (.QQ a)) Xc σ P:=.inr (.inr (.inl h))
theorem N1 {d:QH} {a:Qq} {Xc:QC QU} {P:QU->QE->Prop} (h:TQ G (Ae G d) a Xc σ P):Ae G (d+1) (.imm (.QQ a)) Xc σ P:=.inr (.inl h)
theorem N4 {d:QH} {a:Qq} {Xc:QC QU} {P:QU->QE->Prop} (h:JG G (Ae G d) QG a Xc σ P):Ae G (d+1) (.imm (.QQ a)) Xc σ P:=.inr (.inr (.inr (.inl h)))
theorem Pw {d:QH} {a:Qq} {Xc:QC QU} {P:QU->QE->Prop} (h:pRx G.K a Xc σ P):Ae G (d+1) (.imm (.QQ a)) Xc σ P:=.inr (.inr (.inr (.inr h)))
theorem A0 {d:QH} {id:XC} {Xc:QC QU} {P:QU->QE->Prop} (h:AD G (.imm (.Qd id)) Xc σ P):Ae G d (.imm (.Qd id)) Xc σ P:=by cases d <;> exact h
theorem D6 {d:QH} {T:XC} {Xc:QC QU} {P:QU->QE->Prop} (hT:T≠"list") (h:AD G (.imm (.Qk T)) Xc σ P):Ae G d (.imm (.Qk T)) Xc σ P:=by
 cases d with
 | Q1x=>exact h
 | Q1y d =>
  exact YJ h
theorem Ug {i:X4} {u:QH} {P:QU->QE->Prop} (h:P (.Qm i) σ):ev G YX (n+1) fm (.Q4h (.Qm i) u p) σ P:=Fb h
theorem Uf {y:X8} {u:QH} {P:QU->QE->Prop} (h:P (.Xt y) σ):ev G YX (n+1) fm (.Q4h (.Xt y) u p) σ P:=Fb h
theorem agI {b:Qu} {u:QH} {P:QU->QE->Prop} (h:P (.Ys b) σ):ev G YX (n+1) fm (.Q4h (.Ys b) u p) σ P:=Fb h
theorem agG {u:QH} {P:QU->QE->Prop} (h:P .QG σ):ev G YX (n+1) fm (.Q4h .QG u p) σ P:=Fb h
theorem ahO {f:Qf->PT QU} {P:QC QU->QE->Prop} (h:P [] σ):A6 f [] σ P:=h
theorem agr {f:Qf->PT QU} {e:Qf} {es:QC Qf} {P:QC QU->QE->Prop} (h:f e σ fun v σ=>A6 f es σ fun vs σ=>P (v::vs) σ):A6 f (e::es) σ P:=h
theorem ags {a:Qf->QU->PT Yb} {v:QU} {P:Yb->QE->Prop} (h:P () σ):A7 a v [] σ P:=h
theorem ae3 {a:Qf->QU->PT Yb} {v:QU} {t:Qf} {ts:QC Qf} {P:Yb->QE->Prop} (h:a t v σ fun _ σ=>A7 a v ts σ P):A7 a v (t::ts) σ P:=h
theorem O1 {a:Qf->QU->PT Yb} {vs:QC QU} {P:Yb->QE->Prop} (h:P () σ):EH a [] vs σ P:=by cases vs <;> exact h
theorem II {a:Qf->QU->PT Yb} {v:QU} {vs:QC QU} {t:Qf} {ts:QC Qf} {P:Yb->QE->Prop} (h:a t v σ fun _ σ=>EH a ts vs σ P):EH a (t::ts) (v::vs) σ P:=h
theorem agl {vs:QC QU} {P:Yb->QE->Prop} (h:P () σ):AH fm [] vs σ P:=h
theorem aeS {v:QU} {vs:QC QU} {xs:QC X8} {P:Yb->QE->Prop} (hx:(ZL x == QB .Q63)=QM) (h:AH fm xs vs (Q5P x v) P):AH fm (x::xs) (v::vs) σ P:=by
 show Br fm x v σ _
 unfold Br
 rw [Z4 hx];exact h
theorem AB {k:PT Fl} {P:Fl->QE->Prop} (h:k σ P):Fx k P .YE σ:=h
theorem TI {k:PT Fl} {v:QU} {P:Fl->QE->Prop} (h:P (.ret v) σ):Fx k P (.ret v) σ:=h
theorem agk {k:PT Fl} {P:Fl->QE->Prop} (h:P .QAy σ):Fx k P .QAy σ:=h
theorem ahJ {k:PT Fl} {P:Fl->QE->Prop} (h:P .brk σ):Fx k P .brk σ:=h
theorem agC {K:Q1B} {l d:QH} {C:Qq} {Y5:QC (X8×QU)} {u:QU} {P:QU->QE->Prop} (h1:QS l=.Q5L C d) (h2:QS d=.Q1X Y5) (h3:KJ K C x=QM) (h4:BJ Y5 x=QB u) (h5:Bf u=QM) (h:P u σ):BB K (.QQ l) x σ P:=by
 refine Q01 (Q01 ?_);refine Bt.mk h1 ?_;refine AX.mk h2 ?_;refine ⟨h3,?_⟩;rw [h4]
 exact ⟨h5,h⟩
theorem OW {K:Q1B} {l d:QH} {C:Qq} {Y5:QC (X8×QU)} {u:QU} {P:Yb->QE->Prop} (h1:QS l=.Q5L C d) (h2:QS d=.Q1X Y5) (h3:IA K C x=QM) (h4:Yu<=900) (h:P () (Yy d (.Q1X (BC x u Y5)))):Co K (.QQ l) x u σ P:=by
 refine Bt.mk h1 ?_;refine AX.mk h2 ?_
 exact ⟨h3,h4,h⟩
theorem agz {K:Q1B} {l d:QH} {C f:Qq} {Y5:QC (X8×QU)} {P:QU×QC QU->QE->Prop} (h1:QS l=.Q5L C d) (h2:QS d=.Q1X Y5) (h3:Ch K C x f=QM) (h4:BJ Y5 x=QG) (h:P (.imm (.QQ f),[.QQ l]) σ):DW K (.QQ l) x σ P:=by
 refine Q01 (Q01 ?_);refine Bt.mk h1 ?_;refine AX.mk h2 ?_
 exact ⟨f,h3,h4,h⟩
theorem Uc {K:Q1B} {l:QH} {Y5:QC (Yh×QU)} {P:QU->QE->Prop} (h1:QS l=.Q04 Y5) (h:P (.QQ QO) (Qw (.bm "dict.get" (.QQ l)))):BB K (.QQ l) "get" σ P:=by
 refine Q01 (YJ (Q01 ?_));refine Q9s h1 ?_;exact ⟨QA,h⟩
theorem UK {K:Q1B} {l:QH} {xs:QC Yh} {P:QU->QE->Prop} (h1:QS l=.set xs) (h:P (.QQ QO) (Qw (.bm "set.__contains__" (.QQ l)))):BB K (.QQ l) "__contains__" σ P:=by
 refine Q01 (YJ (YJ ?_));refine QFX h1 ?_;exact ⟨QA,h⟩
theorem agy {K:Q1B} {l:QH} {xs:QC QU} {b:BM} {P:QU×QC QU->QE->Prop} (h1:QS l=.Qs xs) (hb:F5 "list" x=QB b) (h:P (.imm (.Qd QEh),[.QQ l]) σ):DW K (.QQ l) x σ P:=by
 refine Q01 (YJ (Q01 ?_));refine Q46 h1 ?_;show Ad (F5 _ _) _;rw [hb];exact h
theorem agA {K:Q1B} {l:QH} {xs:QC (Yh×QU)} {b:BM} {P:QU×QC QU->QE->Prop} (h1:QS l=.Q04 xs) (hb:F5 "dict" x=QB b) (h:P (.imm (.Qd QEh),[.QQ l]) σ):DW K (.QQ l) x σ P:=by
 refine Q01 (YJ (YJ (Q01 ?_)));refine Q9s h1 ?_;show Ad (F5 _ _) _;rw [hb];exact h
theorem aiL {K:Q1B} {l:QH} {xs:QC Yh} {b:BM} {P:QU×QC QU->QE->Prop} (h1:QS l=.set xs) (hb:F5 "set" x=QB b) (h:P (.imm (.Qd QEh),[.QQ l]) σ):DW K (.QQ l) x σ P:=by
 refine Q01 (YJ (YJ (YJ ?_)));refine QFX h1 ?_;show Ad (F5 _ _) _;rw [hb];exact h
theorem ajK {a b:X4} {P:QU->QE->Prop} (h:P (.Ys (XY (a < b))) σ):BK .Lt (.Qm a) (.Qm b) σ P:=h
theorem ajL {a b:X4} {P:QU->QE->Prop} (h:P (.Ys (XY (a<=b))) σ):BK .LtE (.Qm a) (.Qm b) σ P:=h
theorem ai2 {a b:X4} {P:QU->QE->Prop} (h:P (.Ys (XY (b < a))) σ):BK .Gt (.Qm a) (.Qm b) σ P:=h
theorem ajM {a b:X4} {P:QU->QE->Prop} (h:P (.Ys (XY (b<=a))) σ):BK .GtE (.Qm a) (.Qm b) σ P:=h
theorem Tj {a b:X4} {P:QU->QE->Prop} (h:P (.Ys (a == b)) σ):BK .Eq (.Qm a) (.Qm b) σ P:=h
theorem ajz {a b:X4} {P:QU->QE->Prop} (h:P (.Ys (a != b)) σ):BK .QHD (.Qm a) (.Qm b) σ P:=h
theorem OD {K:Q1B} {b:Qu} {P:Qu->QE->Prop} (h:P b σ):AC K (.Ys b) σ P:=YJ (YJ h)
theorem ahB {K:Q1B} {i:X4} {P:Qu->QE->Prop} (h:P (i != 0) σ):AC K (.Qm i) σ P:=YJ (YJ h)
theorem agj {K:Q1B} {P:Qu->QE->Prop} (h:P QJ σ):AC K .QG σ P:=YJ (YJ h)
theorem ajG {a b:X4} {P:QU->QE->Prop} (h:P (.Qm (a+b)) σ):CP .Add (.Qm a) (.Qm b) σ P:=h
theorem ajF {a b:X4} {P:QU->QE->Prop} (h:P (.Qm (a - b)) σ):CP .Sub (.Qm a) (.Qm b) σ P:=h
theorem BE {c:Qu} {A B:Prop} (h1:c=QM->A) (h2:c=QJ->B):(c=QM->A)/\(c=QJ->B):=⟨h1,h2⟩
end
end
end Mini
end
section
open PySem PySem.W PySem.Calls PyProof.Rows
namespace Mini
mutual
theorem Ax {α:Type} {Q3J:QE->Prop} {Q9X:α->PT Fl} {xs:QC α} {σ:QE} {P:Fl->QE->Prop} (I:QH->QE->Prop) (B:QE->Prop) (V:QU->QE->Prop)
  (h0:I 0 σ) (hs:∀t σ,I t σ->Q3J σ)
  (ht:∀t x σ,xs[t]?=QB x->I t σ->∀R:Fl->QE->Prop,(∀XH,I (t+1) XH->R .YE XH)->(∀XH,I (t+1) XH->R .QAy XH)->(∀XH,B XH->R .brk XH)->(∀v XH,V v XH->R (.ret v) XH)->Q9X x σ R)
  (he:∀XH,I Qn XH->P .YE XH) (hb:∀XH,B XH->P .YE XH) (hv:∀v XH,V v XH->P (.ret v) XH):AS Q3J Q9X xs σ P:=by
 have key:∀(r:QC α) (t:QH) (σ:QE),Q7C t=r->t+Q7n=Qn->I t σ->AS Q3J Q9X r σ P:=by
  intro r
  induction r with
  | Zo=>intro t σ e el h;exact ⟨hs t σ h,he σ (by rw [<- el];exact h)⟩
  | Xx x r ih =>
   intro t σ e el h
   have hx:xs[t]?=QB x:=by rw [<- List.head?_drop,e];rfl
   have hr:Q7C (t+1)=r:=by rw [<- List.tail_drop,e];rfl
   have hl:t+1+Q7n=Qn:=by rw [<- el,Xg];exact Ff
   exact ⟨hs t σ h,ht t x σ hx h _ (fun XH k=>ih (t+1) XH hr hl k) (fun XH k=>ih (t+1) XH hr hl k) (fun XH k=>hb XH k) (fun v XH k=>hv v XH k)⟩
 exact key xs 0 σ QA (by simp) h0
theorem BX {t:PT Qu} {b:PT Fl} {n:QH} {σ:QE} {P:Fl->QE->Prop} (I:QH->QE->Prop) (E:QE->Prop) (h0:I n σ)
  (ht:∀n σ,I n σ->∀(R:Fl->QE->Prop) (Q:QE->Prop),(∀m XH,m < n->I m XH->R .YE XH)->(∀m XH,m < n->I m XH->R .QAy XH)->(∀XH,E XH->Q XH)->t σ fun c σ=>(c=QM->b σ R)/\(c=QJ->Q σ))
  (he:∀XH,E XH->P .YE XH):CZ t b (n+1) σ P:=by
 have key:∀k n σ,n < k->I n σ->CZ t b k σ P:=by
  intro k
  induction k with
  | Q1x=>intro n σ h;omega
  | Q1y k ih =>
   intro n σ h hI
   exact ht n σ hI _ _ (fun m XH hm k=>ih m XH (by exact Kp h hm) k) (fun m XH hm k=>ih m XH (by exact Kp h hm) k) he
 exact key (n+1) n σ (by exact Hq) h0
end
section
variable {G:Pg} {cal:Av} {n:Nat} {fm:Fm} {σ:Mini.St} {x:Str} {p:Pos}
mutual
theorem Na {t:Qf->PT Qu} {op:QEq} {e:Qf} {r:QC Qf} {P:Qu->QE->Prop} (h:t e σ fun b σ=>match op,b with
   | .And,QJ=>P QJ σ
   | .Or,QM=>P QM σ
   | _,_=>BL t op r σ P):BL t op (e::r) σ P:=h
def IL (t:Qf->PT Qu) (r:QC Qf) (P:Qu->QE->Prop):Qu->QE->Prop:=fun b σ=>(b=QM->BL t .And r σ P)/\(b=QJ->P QJ σ)
theorem ae2 {t:Qf->PT Qu} {e:Qf} {r:QC Qf} {P:Qu->QE->Prop} (h:t e σ (IL t r P)):BL t .And (e::r) σ P:=by
 refine Na ?_
 have:(fun b σ=>match BoolOp.And,b with
   | .And,QJ=>P QJ σ
   | .Or,QM=>P QM σ
   | _,_=>BL t .And r σ P)=IL t r P:=by
  funext b σ
  apply QFD
  cases b
  ·exact ⟨fun h=>⟨fun q=>(by cases q),fun _=>h⟩,fun h=>h.2 QA⟩
  ·exact ⟨fun h=>⟨fun _=>h,fun q=>(by cases q)⟩,fun h=>h.1 QA⟩
 rw [this];exact h
theorem Aw {t:Qf->PT Qu} {r:QC Qf} {b:Qu} {P:Qu->QE->Prop} (h1:b=QM->BL t .And r σ P) (h2:b=QJ->P QJ σ):IL t r P b σ:=⟨h1,h2⟩
theorem ajm {t:Qf->PT Qu} {r:QC Qf} {P:Qu->QE->Prop} (h2:P QJ σ):IL t r P QJ σ:=⟨fun q=>(by cases q),fun _=>h2⟩
theorem ajl {t:Qf->PT Qu} {r:QC Qf} {P:Qu->QE->Prop} (h2:BL t .And r σ P):IL t r P QM σ:=⟨fun _=>h2,fun q=>(by cases q)⟩
theorem ae0 {t:Qf->PT Qu} {P:Qu->QE->Prop} (h:P QM σ):BL t .And [] σ P:=h
def NF (e:Qf):Qu:=(Dl e).QAk
theorem ajh {l:QH} {P:Src->QE->Prop} (h:P (.seq l) σ):Tu P (.QQ l) σ:=h
theorem aji {l:QH} {xs:QC QU} {P:Src->QE->Prop} (e:QS l=.Qs xs) (h:P (.enum l) σ):Tv P (.QQ l) σ:=by
 exact h
theorem ahI {e:Qf} {t:Qf->PT QU} {P:Src->QE->Prop} (he:NF e=QJ) (hs:Bv e=QJ) (h:t e σ (Tu P)):IJ QGV fm t e σ P:=by
 unfold IJ
 cases e2:Dl e with
 | QG=>exact ⟨hs,h⟩
 | QB x=>unfold NF at he;rw [e2]at he;cases he
theorem aeL {e:Qf} {q:Pos} {t:Qf->PT QU} {P:Src->QE->Prop} (hs:B2 e=QJ) (hx:HO Zr "enumerate"=QM) (hg:QGV "enumerate"=QB (.Qk "enumerate"))
  (h:t e σ (Tv P)):IJ QGV fm t (.QB3 (.Q0y "enumerate" p) [e] [] q) σ P:=by
 unfold IJ
 rw [show Dl (.QB3 (.Q0y "enumerate" p) [e] [] q)=QB e from (show (if ("enumerate":X8)="enumerate" then QB e else QG)=QB e from QY QA)]
 refine ⟨hs,?_⟩
 simp only [HO,X9,ZD,ZM]at hx
 unfold BI
 rw [hx.2];dsimp only;rw [hg]
 exact ⟨QA,h⟩
theorem ago {asg:QU->PT Yb} {bod:PT Fl} {tg:Qf} {l:QH} {xs:QC QU} {P:Fl->QE->Prop} (h:QS l=.Qs xs) (k:AS (fun σ=>QS l=.Qs xs) (fun x σ P=>asg x σ fun _ σ=>bod σ P) xs σ P):Gl asg bod tg (.seq l) σ P:=by
 refine Q01 ?_;refine Q46 h ?_;exact k
theorem M7 {asg:QU->PT Yb} {bod:PT Fl} {tg:Qf} {l:QH} {a b s:X4} {P:Fl->QE->Prop} (h:QS l=.Q7K a b s) (h1:Q0f a b s=QM) (h2:0<=XI a b s) (k:AS (fun _=>Q44) (fun x σ P=>asg x σ fun _ σ=>bod σ P) ((Ay a b s).map .Qm) σ P):Gl asg bod tg (.seq l) σ P:=by
 refine YJ (YJ (Q01 ?_));refine By.mk h ?_;exact ⟨h1,h2,k⟩
theorem agq {asg:QU->PT Yb} {bod:PT Fl} {tg:Qf} {l:QH} {xs:QC QU} {P:Fl->QE->Prop} (h:QS l=.Qs xs) (ht:Td tg=QM) (k:AS (fun σ=>QS l=.Qs xs) (fun (p:QH×QU) σ P=>asg (.QQ QO) (Qw (.YM [.Qm p.1,p.2])) fun _ σ=>bod σ P) (Cw xs) σ P):Gl asg bod tg (.enum l) σ P:=by
 refine Q46 h ?_;exact ⟨ht,k⟩
theorem ahN {asg:QU->PT Yb} {bod:PT Fl} {tg:Qf} {l:QH} {xs:QC Yh} {P:Fl->QE->Prop} (h:QS l=.set xs) (k:S9 asg bod l xs σ P):Gl asg bod tg (.seq l) σ P:=by
 refine YJ (YJ (YJ (YJ (Q01 ?_))));refine QFX h ?_;exact k
theorem agp {asg:QU->PT Yb} {bod:PT Fl} {tg:Qf} {l d:QH} {Y5:QC (Yh×QU)} {P:Fl->QE->Prop} (h:QS l=.QCC d) (hd:d < QO) (h2:QS d=.Q04 Y5) (k:Nf asg bod d Y5 σ P):Gl asg bod tg (.seq l) σ P:=by
 refine YJ (YJ (YJ (YJ (YJ ?_))));exact CD.mk h ⟨hd,Q9s h2 k⟩
theorem DQ {k n:QH} (h:k < n):Q4G (k:X4) n=QB k:=by
 unfold Q4G
 dsimp only
 rw [QN (show ¬(k:X4) < 0 by omega),QY (by simp;omega)]
 simp
theorem Ao {l:QH} {xs:QC QU} {i:X4} {k:QH} {v:QU} {P:QU->QE->Prop} (h:QS l=.Qs xs) (hi:i=k) (hv:xs[k]?=QB v) (hs:k < 2 ^ 63) (p:P v σ):FF (.QQ l) (.Qm i) σ P:=by
 subst hi
 have hk:k < Qn:=(QX hv).1
 refine Q01 ⟨⟨by omega,by omega⟩,Q01 ?_⟩;refine Q46 h ?_
 exact ⟨k,v,DQ hk,hv,p⟩
theorem Bu (k:Yh):Bn Q90=QB k:=by cases k <;> rfl
def KS:Yh->Yh->Qu
 | .i _,.i _=>QM
 | .s _,.s _=>QM
 | _,_=>QJ
theorem K6 {a b:Yh} {P:QU->QE->Prop} (hk:KS a b=QM) (h:P (.Ys (XY (a=b))) σ):BK .Eq a.val b.val σ P:=by
 cases a with
 | i x=>cases b with
  | i y =>
   have:XY (Key.i x=Key.i y)=(x == y):=by by_cases e:x=y <;> simp [e]
   rw [this]at h;exact h
  | s y=>exact XF hk Qj
 | s x=>cases b with
  | i y=>exact XF hk Qj
  | s y =>
   have:XY (Q8R x=Q8R y)=(x == y):=by by_cases e:x=y <;> simp [e]
   rw [this]at h;exact h
theorem F3 {l:QH} {xs:QC QU} {d:QH} {P:QU->QE->Prop} (h:QS l=.Qs xs) (hl:Qn<=Xb) (p:P (.Qm Qn) σ):Ae G d (.imm (.Qd "len")) [.QQ l] σ P:=by
 refine A0 ?_
 unfold AD;dsimp only
 rw [QN (by decide),QN (by decide),QY QA]
 refine ⟨QA,.inl ?_⟩
 refine YJ (Q01 ?_);refine Q46 h ?_;exact ⟨hl,p⟩
theorem Bc {l:QH} {xs:QC QU} {v:QU} {d:QH} {P:QU->QE->Prop} (h:QS l=.Qs xs) (hl:Qn<=Xb) (p:P .QG (Yy l (.Qs (xs++[v])))):Ae G d (.imm (.Qd "list.append")) [.QQ l,v] σ P:=by
 refine A0 ?_
 unfold AD;dsimp only
 rw [QN (by decide),QN (by decide),QN (by decide),QN (by decide)]
 unfold pB
 rw [QN (by decide),QY QA]
 refine ⟨QA,?_⟩;refine Q46 h ?_;exact ⟨hl,p⟩
theorem Um {l:QH} {ys:QC QU} {y:QU} {d:QH} {P:QU->QE->Prop} (h:QS l=.Qs (ys++[y])) (hl:(ys++[y]).ZT<=Xb) (p:P y (Yy l (.Qs ys))):Ae G d (.imm (.Qd "list.pop")) [.QQ l] σ P:=by
 refine A0 ?_
 unfold AD;dsimp only
 rw [QN (by decide),QN (by decide),QN (by decide),QN (by decide)]
 unfold pB
 rw [QN (by decide),QN (by decide),QY QA]
 refine ⟨QA,?_⟩;refine Q46 h ?_;exact ⟨hl,ys,y,QA,p⟩
theorem Uo {l:QH} {Y5:QC (Yh×QU)} {kv v:QU} {k:Yh} {d:QH} {P:QU->QE->Prop} (h:QS l=.Q04 Y5) (hk:kv=Q90) (p:P ((Ak Y5 k).Q4m v) σ):Ae G d (.imm (.Qd "dict.get")) [.QQ l,kv,v] σ P:=by
 subst hk
 refine A0 ?_
 unfold AD;dsimp only
 rw [QN (by decide),QN (by decide),QN (by decide),QN (by decide)]
 unfold pB
 rw [QN (by decide),QN (by decide),QN (by decide),QY QA]
 refine ⟨QA,?_⟩;refine Q9s h ?_;show Ad (Bn _) _;rw [Bu];exact p
theorem GB {l:QH} {Y5:QC (Yh×QU)} {kv v:QU} {k:Yh} {d:QH} {P:QU->QE->Prop} (h:QS l=.Q04 Y5) (hk:kv=Q90) (hl:Yu<=Xb)
  (p1:∀u,Ak Y5 k=QB u->P u σ) (p2:Ak Y5 k=QG->P v (Yy l (.Q04 (Ce Y5 k v)))):Ae G d (.imm (.Qd "dict.setdefault")) [.QQ l,kv,v] σ P:=by
 subst hk
 refine A0 ?_
 unfold AD;dsimp only
 rw [QN (by decide),QN (by decide),QN (by decide),QN (by decide)]
 unfold pB
 rw [QN (by decide),QN (by decide),QN (by decide),QN (by decide),QY QA]
 refine ⟨QA,?_⟩;refine Q9s h ?_;show Ad (Bn _) _;rw [Bu]
 refine ⟨hl,?_⟩
 cases e:Ak Y5 k with
 | QG=>exact p2 e
 | QB u=>exact p1 u e
theorem Up {l:QH} {xs:QC Yh} {kv:QU} {k:Yh} {d:QH} {P:QU->QE->Prop} (h:QS l=.set xs) (hk:kv=Q90) (hl:Qn+1 < Q4E) (p:P .QG (Yy l (.set (if k∈xs then xs else xs++[k])))):Ae G d (.imm (.Qd "set.add")) [.QQ l,kv] σ P:=by
 subst hk
 refine A0 ?_
 unfold AD;dsimp only
 rw [QN (by decide),QN (by decide),QN (by decide),QN (by decide)]
 unfold pB
 rw [QN (by decide),QN (by decide),QN (by decide),QN (by decide),QN (by decide),QY QA]
 refine ⟨QA,?_⟩;refine QFX h ?_;show Ad (Bn _) _;rw [Bu];exact ⟨hl,p⟩
theorem Pv {l:QH} {Y5:QC (Yh×QU)} {d:QH} {P:QU->QE->Prop} (h:QS l=.Q04 Y5) (p:P (.QQ QO) (Qw (.QCC l))):Ae G d (.imm (.Qd "dict.keys")) [.QQ l] σ P:=by
 refine A0 ?_
 unfold AD;dsimp only
 rw [QN (by decide),QN (by decide),QN (by decide),QN (by decide)]
 unfold pB
 rw [QN (by decide),QN (by decide),QN (by decide),QN (by decide),QN (by decide),QN (by decide),QN (by decide),QY QA]
 refine ⟨QA,?_⟩;refine Q9s h ?_;exact p
theorem Ps {l:QH} {C:Qq} {ts:QC (QH×X4×QC QU)} {d:QH} {P:QU->QE->Prop} (hC:Nq G.K C=QM) (h:QS l=.Qs (QCr fun t=>.QQ t.1)) (hl:Q2v < 64) (ho:∀t∈ts,t.1 < QO/\QS t.1=.sub C (.Qm t.2.1::t.2.2)) (hn:(QCr (·.2.1)).QED)
  (p:∀us:QC (QH×X4×QC QU),QF6 ts->Q8L (fun x y=>x.2.1 < y.2.1)->P .QG (Yy l (.Qs (QF7 fun t=>.QQ t.1)))):Ae G d (.imm (.Qd "list.sort")) [.QQ l] σ P:=by
 refine A0 ?_
 unfold AD;dsimp only
 rw [QN (by decide),QN (by decide),QN (by decide),QY QA]
 exact ⟨QA,C,ts,hC,h,hl,ho,hn,p⟩
theorem N0 {l m:QH} {Y5:QC (Yh×QU)} {kv v:QU} {k:Yh} {d:QH} {P:QU->QE->Prop} (hm:QS m=.bm "dict.get" (.QQ l)) (h:QS l=.Q04 Y5) (hk:kv=Q90) (p:P ((Ak Y5 k).Q4m v) σ):Ae G d (.QQ m) [kv,v] σ P:=by
 subst hk
 have:AD G (.QQ m) [Q90,v] σ P:=by
  refine FH.mk hm ?_;show pBm _ _ _ _
  unfold pBm
  rw [QY QA]
  refine ⟨QA,?_⟩;refine Q9s h ?_;show Ad (Bn _) _;rw [Bu];exact p
 cases d with
 | Q1x=>exact this
 | Q1y d=>exact YJ (YJ this)
theorem HW {l m:QH} {xs:QC Yh} {kv:QU} {k:Yh} {d:QH} {P:QU->QE->Prop} (hm:QS m=.bm "set.__contains__" (.QQ l)) (h:QS l=.set xs) (hk:kv=Q90) (p:P (.Ys (XY (k∈xs))) σ):Ae G d (.QQ m) [kv] σ P:=by
 subst hk
 have:AD G (.QQ m) [Q90] σ P:=by
  refine FH.mk hm ?_;show pBm _ _ _ _
  unfold pBm
  rw [QN (by decide),QY QA]
  refine ⟨QA,?_⟩;refine QFX h ?_;show Ad (Bn _) _;rw [Bu];exact p
 cases d with
 | Q1x=>exact this
 | Q1y d=>exact YJ (YJ this)
theorem Ho {C t p0 fN:QH} {mc:QI} {xs:QC QU} {d:QH} {P:QU->QE->Prop} (T:TupK G.K C p0 fN mc) (h:QS t=.YM xs) (hl:Qn<=Xb) (p:P (.QQ QO) (Qw (.sub C xs))):Ae G d (.imm (.Qd "tuple.__new__")) [.imm (.QQ C),.QQ t] σ P:=by
 refine A0 ?_
 unfold AD;dsimp only
 rw [QY QA]
 exact ⟨QA,Cs.mk QA (QBA ⟨p0,fN,mc,T⟩ (Q01 ⟨xs,h,hl,p⟩))⟩
theorem af6 {a b:X4} {d:QH} {P:QU->QE->Prop} (p:P (.QQ QO) (Qw (.Q7K a b 1))):Ae G d (.imm (.Qk "range")) [.Qm a,.Qm b] σ P:=by
 refine D6 (by decide) ?_
 unfold AD;dsimp only
 rw [QN (by decide),QN (by decide)]
 unfold pTy;rw [QY QA];exact .inr ⟨QA,p⟩
theorem UL {a:X4} {d:QH} {P:QU->QE->Prop} (p:P (.QQ QO) (Qw (.Q7K 0 a 1))):Ae G d (.imm (.Qk "range")) [.Qm a] σ P:=by
 refine D6 (by decide) ?_
 unfold AD;dsimp only
 rw [QN (by decide),QN (by decide)]
 unfold pTy;rw [QY QA];exact .inl ⟨QA,p⟩
theorem aiZ {d:QH} {P:QU->QE->Prop} (p:P (.QQ QO) (Qw (.set []))):Ae G d (.imm (.Qk "set")) [] σ P:=by
 refine D6 (by decide) ?_
 unfold AD;dsimp only
 rw [QN (by decide),QN (by decide)]
 unfold pTy;rw [QN (by decide),QY QA];exact p
theorem UI {K:Q1B} {P:QU×QC QU->QE->Prop} (p:P (.imm (.Qd "tuple.__new__"),[]) σ):DW K (.imm (.Qk "tuple")) "__new__" σ P:=by
 exact YJ (JI.mk QA ⟨QA,QA,p⟩)
theorem ajr {K:Q1B} {id:XC} {A:Prop} (h:A):Bw K σ (.imm (.Qd id))/\A:=⟨ZQ,h⟩
theorem ajo {K:Q1B} {T:XC} {A:Prop} (h:A):Bw K σ (.imm (.Qk T))/\A:=⟨ZQ,h⟩
theorem ajp {K:Q1B} {a:Qq} {A:Prop} (k:keepIn K (.QQ a)=QM) (h:A):Bw K σ (.imm (.QQ a))/\A:=⟨.inl k,h⟩
theorem ajq {K:Q1B} {l:QH} {id:XC} {s:QU} {A:Prop} (k:QS l=.bm id s) (h:A):Bw K σ (.QQ l)/\A:=⟨Q01 (FH.mk k ZQ),h⟩
theorem Ms {K:Q1B} {l n:QH} {xs:QC QU} {P:QC QU->QE->Prop} (h:QS l=.YM xs) (hn:Qn=n) (p:P xs σ):AR K (.QQ l) n σ P:=by
 refine Q01 ?_;refine Cp.mk h ?_;exact ⟨hn,p⟩
theorem Mt {K:Q1B} {l n:QH} {C:Qq} {xs:QC QU} {P:QC QU->QE->Prop} (h:QS l=.sub C xs) (hs:Du K C=QM) (hn:Qn=n) (p:P xs σ):AR K (.QQ l) n σ P:=by
 refine YJ ?_;refine Cq.mk h ?_;exact ⟨hs,hn,p⟩
theorem OU {l:QH} {Y5:QC (Yh×QU)} {kv v:QU} {k:Yh} {P:Yb->QE->Prop} (h:QS l=.Q04 Y5) (hk:kv=Q90) (hl:Yu<=Xb) (p:P () (Yy l (.Q04 (Ce Y5 k v)))):C0 (.QQ l) kv v σ P:=by
 subst hk
 refine Q9s h ?_;show Ad (Bn _) _;rw [Bu];exact ⟨hl,p⟩
theorem Pm {l:QH} {Y5:QC (Yh×QU)} {kv:QU} {k:Yh} {P:Yb->QE->Prop} (h:QS l=.Q04 Y5) (hk:kv=Q90) (hl:Yu<=Xb) (hh:(Ak Y5 k).QAk=QM) (p:P () (Yy l (.Q04 (EL Y5 k)))):C1 (.QQ l) kv σ P:=by
 subst hk
 refine Q9s h ?_;show Ad (Bn _) _;rw [Bu];exact ⟨hl,hh,p⟩
theorem ajA {l:QH} {P:QU->QE->Prop} (p:P (.Ys QJ) σ):BK .Is (.QQ l) .QG σ P:=p
theorem ai0 {P:QU->QE->Prop} (p:P (.Ys QM) σ):BK .Is .QG .QG σ P:=p
theorem ai1 {i:X4} {P:QU->QE->Prop} (p:P (.Ys QJ) σ):BK .Is (.Qm i) .QG σ P:=p
theorem ajx {P:QU->QE->Prop} (p:P (.Ys QJ) σ):BK .QFh .QG .QG σ P:=p
theorem ajw {l:QH} {P:QU->QE->Prop} (p:P (.Ys QM) σ):BK .QFh (.QQ l) .QG σ P:=p
theorem ajy {a b:Qu} {P:QU->QE->Prop} (p:P (.Ys (!(a == b))) σ):BK .QFh (.Ys a) (.Ys b) σ P:=p
theorem OC {K:Q1B} {l:QH} {xs:QC QU} {P:Qu->QE->Prop} (h:QS l=.Qs xs) (hl:Qn<=Xb) (p:P (!xs.isEmpty) σ):AC K (.QQ l) σ P:=by
 refine YJ (YJ ?_)
 refine Q01 ?_;refine Q46 h ?_;exact ⟨hl,p⟩
def UC (x:X8) (a:X4) (P:Fl->QE->Prop):QU->QE->Prop:=fun v σ=>Bi v fun j=>P .YE (Q5P x (.Qm (a+j)))
theorem ai5 {a j:X4} {P:Fl->QE->Prop} (h:P .YE (Q5P x (.Qm (a+j)))):UC x a P (.Qm j) σ:=h
theorem ahz {e:Qf} {q:Pos} {a:X4} {P:Fl->QE->Prop} (h1:((x == ("__classdict__":X8))=QJ/\(ZL x == QB .Q63)=QM)) (h3:Xy x=QB (.Qm a)) (h:ev G YX n fm e σ (UC x a P)):ex1 G YX (n+1) fm (.QE7 (.Q0y x q) .Add e p) σ P:=by
 refine aeI h1.1 ?_
 unfold BI
 rw [Z4 h1.2];dsimp only;rw [h3]
 have e2:Oj fm x .Add P (.Qm a)=UC x a P:=by
  funext v XH
  cases v with
  | Qm j =>
   refine QFD ⟨fun h=>?_,fun h=>⟨QA,?_⟩⟩
   ·have h:=h.2
    unfold Br at h
    rw [Z4 h1.2]at h
    exact h
   ·unfold Br
    rw [Z4 h1.2]
    exact h
  | _=>rfl
 show ev G YX n fm e σ (Oj fm x .Add P (.Qm a))
 rw [e2]
 exact h
theorem agL {xs:QC QU} {A:Prop} (h1:Qn<=Xb) (h2:A):Qn<=Xb/\A:=⟨h1,h2⟩
theorem DZ {x:X8} {v w:QU} (h:v=w):(Q5P x v).loc x=QB w:=(QY QA).QR (Z8 QB h)
theorem afK {y:X8} {o:Ob} {w:QW QU} (h:Xy y=w):(Qw o).loc y=w:=h
theorem T0 {y:X8} {l:QH} {o:Ob} {w:QW QU} (h:Xy y=w):(Yy l o).loc y=w:=h
theorem HN {x:X8} {v:QU} {k:QH} {o:Ob} (h:QS k=o):(Q5P x v).hp k=o:=h
theorem FQ {k:QH} {o o':Ob} (q:k≠QO) (h:QS k=o):(Qw o').hp k=o:=(QN q).QR h
theorem D3 {k:QH} {o o':Ob} (q:k=QO) (h:o'=o):(Qw o').hp k=o:=(QY q).QR h
theorem Ct {k l:QH} {o o':Ob} (q:k≠l) (h:QS k=o):(Yy l o').hp k=o:=(QN q).QR h
theorem Cu {k l:QH} {o o':Ob} (q:k=l) (h:o'=o):(Yy l o').hp k=o:=(QY q).QR h
theorem agi {y1 y2:X8} {p1 p2 q r:Pos} {k m:QH} {e1 e2:Qf} {P:Fl->QE->Prop} (h1:(A3 (.Zs [e1,e2] m r)=QJ/\Am [.Zs [.Q0y y1 p1,.Q0y y2 p2] k q]=QM/\Bg [.Zs [.Q0y y1 p1,.Q0y y2 p2] k q] (.Zs [e1,e2] m r)=QJ))
  (h2:BV Zr [.Zs [.Q0y y1 p1,.Q0y y2 p2] k q] (.Zs [e1,e2] m r)=QB [y1,y2]) (h:ev G YX n fm (.Zs [e1,e2] m r) σ fun v σ=>AR G.K v 2 σ fun vs σ=>AH fm [y2,y1] Q3Y σ fun _ σ=>P .YE σ):ex1 G YX (n+1) fm (.Q77 [.Zs [.Q0y y1 p1,.Q0y y2 p2] k q] (.Zs [e1,e2] m r) p) σ P:=Mg h1 h2 h
theorem agh {y1 y2 y3:X8} {p1 p2 p3 q r:Pos} {k m:QH} {e1 e2 e3:Qf} {P:Fl->QE->Prop} (h1:(A3 (.Zs [e1,e2,e3] m r)=QJ/\Am [.Zs [.Q0y y1 p1,.Q0y y2 p2,.Q0y y3 p3] k q]=QM/\Bg [.Zs [.Q0y y1 p1,.Q0y y2 p2,.Q0y y3 p3] k q] (.Zs [e1,e2,e3] m r)=QJ))
  (h2:BV Zr [.Zs [.Q0y y1 p1,.Q0y y2 p2,.Q0y y3 p3] k q] (.Zs [e1,e2,e3] m r)=QB [y1,y2,y3]) (h:ev G YX n fm (.Zs [e1,e2,e3] m r) σ fun v σ=>AR G.K v 3 σ fun vs σ=>AH fm [y3,y2,y1] Q3Y σ fun _ σ=>P .YE σ):ex1 G YX (n+1) fm (.Q77 [.Zs [.Q0y y1 p1,.Q0y y2 p2,.Q0y y3 p3] k q] (.Zs [e1,e2,e3] m r) p) σ P:=Mg h1 h2 h
theorem aeR {a b:QU} {xs:QC X8} {P:Yb->QE->Prop} (h:AH fm xs [b,a] σ P):AH fm xs [a,b].Q65 σ P:=h
theorem aeQ {a b c:QU} {xs:QC X8} {P:Yb->QE->Prop} (h:AH fm xs [c,b,a] σ P):AH fm xs [a,b,c].Q65 σ P:=h
theorem HS {st:Yc} {P:Fl->QE->Prop} (K:QE->Prop) (h:∀R:Fl->QE->Prop,(∀XH,K XH->R .YE XH)->ex1 G YX n fm st σ R) (k:∀XH,K XH->P .YE XH):ex1 G YX n fm st σ P:=h P k
theorem F8 {y x:X8} {v:QU} {r:QC (X8×QU)}:BJ ((y,v)::r) x=if y=x then QB v else BJ r x:=by
 unfold BJ
 rw [Q18]
 by_cases h:y=x
 ·subst h;simp
 ·rw [QN h,show (y == x)=QJ from Yo h]
theorem UN {x:X8}:BJ [] x=QG:=QA
theorem F7 {y x:X8} {u v:QU} {r:QC (X8×QU)}:BC x u ((y,v)::r)=if y=x then (y,u)::r else (y,v)::BC x u r:=by
 rw [HZ]
 by_cases h:y=x
 ·subst h;simp
 ·rw [QN h,QN (by simpa using h)]
theorem UM {x:X8} {u:QU}:BC x u []=[(x,u)]:=QA
theorem ahK {K:Q1B} {l d:QH} {C:Qq} {Y5 kvs':QC (X8×QU)} {u:QU} {P:Yb->QE->Prop} (h1:QS l=.Q5L C d) (h2:QS d=.Q1X Y5) (h3:IA K C x=QM) (h4:QER Yu 900=QM) (h5:BC x u Y5=kvs') (h:P () (Yy d (.Q1X kvs'))):Co K (.QQ l) x u σ P:=OW h1 h2 h3 (YB h4) (by rw [h5];exact h)
theorem ajn {x y:X8} {v:QU} {w:QW QU} (q:(y == x)=QJ) (h:Xy y=w):(Q5P x v).loc y=w:=(QN (Q7U q)).QR h
theorem ai9 {x:X8} {v:QU} {r:QC (X8×QU)}:BJ ((x,v)::r) x=QB v:=F8.trans (QY QA)
theorem ai8 {x y:X8} {v:QU} {r:QC (X8×QU)} {w:QW QU} (q:(y == x)=QJ) (h:BJ r x=w):BJ ((y,v)::r) x=w:=F8.trans ((QN (Q7U q)).QR h)
theorem ai7 {x:X8} {u v:QU} {r:QC (X8×QU)}:BC x u ((x,v)::r)=(x,u)::r:=F7.trans (QY QA)
theorem ai6 {x y:X8} {u v:QU} {r s:QC (X8×QU)} (q:(y == x)=QJ) (h:BC x u r=s):BC x u ((y,v)::r)=(y,v)::s:=F7.trans ((QN (Q7U q)).QR (Z8 _ h))
theorem afw {l:QH} {o:Ob} (h:l < QO):l < (Qw o).nx:=Q2T h
theorem UH {o:Ob}:QO < (Qw o).nx:=Xu _
theorem afr {l k:QH} {o:Ob} (h:l < QO):l < (Yy k o).nx:=h
theorem afs {l:QH} {x:X8} {v:QU} (h:l < QO):l < (Q5P x v).nx:=h
theorem afB {l:QH} {o:Ob} (h:l<=QO):l<=(Qw o).nx:=Q64 h
theorem afx {l k:QH} {o:Ob} (h:l<=QO):l<=(Yy k o).nx:=h
theorem afy {l:QH} {x:X8} {v:QU} (h:l<=QO):l<=(Q5P x v).nx:=h
theorem afp {k l:QH} (h:k < l):k≠l:=Xv h
theorem afq {k l:QH} (h:l < k):k≠l:=Y8 h
theorem agt {a b:QH} (h:a < b):a < b+1:=Q2T h
theorem agu {a b:QH} (h:a<=b):a<=b+1:=Q64 h
theorem aft {a:QH}:a < a+1:=Xu _
theorem afo {k l:QH} (h:l≠k):k≠l:=fun e=>h QGp
theorem ajC {A B:Prop} (h:B):(QJ=QM->A)/\(QJ=QJ->B):=⟨fun q=>(by cases q),fun _=>h⟩
theorem ajB {A B:Prop} (h:A):(QM=QM->A)/\(QM=QJ->B):=⟨fun _=>h,fun q=>(by cases q)⟩
theorem GroX.of {X:QC QH} {σ σ1 XH:QE} (hh:Q2A=QS) (hn:YD=QO) (h:YU X σ1 XH):QGW X σ {XH with loc:=Xy} :=
 ⟨by rw [<- hn];exact QFC,QA,fun l hl hx=>by rw [<- hh];exact h.hp l (by rw [hn];exact hl) hx⟩
theorem Gro.of {σ σ1 XH:QE} (hh:Q2A=QS) (hn:YD=QO) (h:YU [] σ1 XH):Gro σ {XH with loc:=Xy} :=
 ⟨by rw [<- hn];exact QFC,QA,fun l hl=>by rw [<- hh];exact h.hp l (by rw [hn];exact hl) (by simp)⟩
end
end
end Mini
end
section
open Lean
set_option compiler.extract_closed false
namespace Mini
def NA (k:Name) (s:String) (l:List Syntax):Syntax:=mkNode k (mkAtom s::l).toArray
def Tb (l:List Syntax):Syntax:=mkNode `null l.toArray
def Ny (l:List Syntax):Syntax:=mkNode `Lean.Parser.Tactic.tacticSeq #[mkNode `Lean.Parser.Tactic.tacticSeq1Indented #[Tb (l.intersperse (mkAtom ";"))]]
def Nz (s:String) (l:List Syntax):Syntax:=NA (.str `Lean.Parser.Tactic s) s l
def afR (l:List Syntax):Syntax:=Nz "first" [Tb (l.map fun a=>NA `group "|" [a])]
def afQ (l:Syntax):Syntax:=NA `Lean.Parser.Tactic.withReducible "with_reducible" [Ny [l]]
def afO:List String:="!m | 0 (PySem.W.tacticKp_flats \"kp_flats ) | 1 (PySem.W.tacticKeq_rows \"keq_rows ) | 2 (PySem.W.tacticKas_types \"kas_types ) | 3 (PySem.W.tacticKwd_less \"kwd_less ) | 4 (PySem.W.tacticKts_caught \"kts_caught ) | 5 (PySem.W.tacticKaf_pre \"kaf_pre ) | 6 (PySem.W.tacticKc_close \"kc_close ) | 7 (PySem.W.tacticKcj_m \"kcj_m ) | 8 (PySem.W.tacticKln_le \"kln_le ) | 9 (PySem.W.tacticKd_all \"kd_all ) | ! (T.exact \"exact rfl ) | _ (T.withReducible \"with_reducible (T.tacticSeq (T.tacticSeq1Indented (N (T.exact \"exact rfl ) ) ) ) ) | ; (T.exact \"exact (E.anonymousCtor \"⟨ (N rfl \", rfl \", rfl ) \"⟩ ) ) | , (T.exact \"exact (E.anonymousCtor \"⟨ (N rfl \", rfl ) \"⟩ ) ) | + (T.exact \"exact (E.anonymousCtor \"⟨ (N rfl \", rfl \", (E.byTactic \"by (T.tacticSeq (T.tacticSeq1Indented (N (T.decide \"decide (T.optConfig (N ) ) ) ) ) ) ) \", rfl ) \"⟩ ) ) | ( (T.withReducible \"with_reducible (T.tacticSeq (T.tacticSeq1Indented (N (T.apply \"apply afp ) ) ) ) ) | [ (T.withReducible \"with_reducible (T.tacticSeq (T.tacticSeq1Indented (N (T.apply \"apply afq ) ) ) ) ) | ~ (T.withReducible \"with_reducible (T.tacticSeq (T.tacticSeq1Indented (N (T.assumption \"assumption ) ) ) ) ) | ^ (T.simp \"simp (T.optConfig (N ) ) (N ) (N \"only ) (N \"[ (N (T.simpLemma (N ) (N ) Ah ) \", (T.simpLemma (N ) (N ) Ab ) \", (T.simpLemma (N ) (N ) Ac ) ) \"] ) (N ) ) | - (T.tacticTry_ \"try (T.tacticSeq (T.tacticSeq1Indented (N (T.dsimp \"dsimp (T.optConfig (N ) ) (N ) (N \"only ) (N \"[ (N (T.simpLemma (N ) (N ) List.nil_append ) \", (T.simpLemma (N ) (N ) List.cons_append ) \", (T.simpLemma (N ) (N ) BM.id ) ) \"] ) (N ) ) ) ) ) ) | = (T.simp \"simp (T.optConfig (N ) ) (N ) (N ) (N \"[ (N (T.simpLemma (N ) (N ) sizeLine_eq ) ) \"] ) (N ) ) | * (T.first \"first (N (group \"| (T.tacticSeq (T.tacticSeq1Indented (N (T.withReducible \"with_reducible (T.tacticSeq (T.tacticSeq1Indented (N (T.assumption \"assumption ) ) ) ) ) ) ) ) ) (group \"| (T.tacticSeq (T.tacticSeq1Indented (N (PySem.W.tacticKp_flats \"kp_flats ) ) ) ) ) ) ) | . (T.done \"done ) | > (T.decide \"decide (T.optConfig (N ) ) ) | & (T.omega \"omega (T.optConfig (N ) ) ) | % (tacticKernel_rfl \"kernel_rfl ) | ) (T.focus \"focus (T.tacticSeq (T.tacticSeq1Indented (N (T.first \"first (N (group \"| (T.tacticSeq (T.tacticSeq1Indented (N (T.apply \"apply Or.inr ) \"; (PySem.W.tacticKwd_less \"kwd_less ) ) ) ) ) (group \"| (T.tacticSeq (T.tacticSeq1Indented (N (T.apply \"apply Or.inl ) \"; (T.simp \"simp (T.optConfig (N ) ) (N ) (N ) (N ) (N ) ) \"; (T.done \"done ) ) ) ) ) ) ) ) ) ) ) | a (T.assumption \"assumption )".splitOn " | "
def afP (c:Char):Syntax:=kq ((((afO.drop 1).find? fun w=>w.front == c).getD "a (T.assumption \"assumption )").drop 2).toString []
def D1 (f:Bool) (s:String):MacroM Syntax :=
 let t:=afR (((s.splitOn " ").drop 1).map fun w =>
  let l:=w.splitOn ":"
  let ts:=(l.getD 1 "").toList.map afP
  Ny (if (l.headD "").isEmpty then ts else afQ (Nz "apply" [mkIdent (l.headD "").toName])::ts))
 pure (if f then Nz "focus" [Ny [t]] else t)
mutual
theorem afv {a b c:QH} (h:b<=c) (k:a < b):a < c:=QP k h
theorem afA {a b c:QH} (h:b<=c) (k:a<=b):a<=c:=Qz k h
theorem afu {a b c:QH} (h:b < c) (k:a<=b):a < c:=Q3c k h
theorem Ni {a b c:QH} (h:a+b < c):a < c:=Q3c (Q2n _ _) h
theorem afz {a c:QH} (h:a < c):a<=c:=X7 h
theorem afC {a b c:QH} (h:a+b < c):a<=c:=X7 (Ni h)
theorem afL {α:Type} {l:QC α} {x:α} {n:QH} (h:ZJ<=n):(l++[x]).ZT<=n+1:=Qz (Q20 Xz) (Q8O h 1)
theorem GroH.updR {X:QC QH} {a b:QE} {l:QH} {o:Ob} (hl:l∈X\/a.nx<=l) (h:YU X a b):YU X a (b.upd l o):=h.upd hl
end
end Mini
end
section
open PySem PySem.W PySem.Calls PyProof.Rows
set_option genInjectivity false
set_option genSizeOf false
namespace Mini
mutual
theorem Dh {Y5:QC (Yh×QU)} {k j:Yh} {v:QU}:Ak (Y5++[(k,v)]) j=match Ak Y5 j with | QB u=>QB u | QG=>if k=j then QB v else QG:=by
 injections Y5 k j v
 unfold Ak
 rw [List.find?_append]
 cases e:Q8a (fun kv=>XY (kv.1=j)) with
 | QB u=>rfl
 | QG =>
  by_cases hk:k=j
  ·simp [hk]
  ·simp [hk]
theorem Lu {Y5:QC (Yh×QU)} {k:Yh} {v:QU} (h:Ak Y5 k=QG):Ce Y5 k v=Y5++[(k,v)]:=by
 unfold Ce
 rw [QN]
 unfold Ak at h
 simp only [Q3o,Q3T,Xm]at h
 simp only [Q4H,Xm,not_exists,not_and]
 intro x hx;exact h x hx
theorem BU {Y5:QC (Yh×QU)} {k:Yh}:(Ak Y5 k).QAk=QM↔k∈Q2o (·.1):=by
 unfold Ak
 rw [Option.isSome_map,List.find?_isSome]
 simp only [Xm,QFE]
theorem Lw {Y5:QC (Yh×QU)} {k j:Yh}:Ak (EL Y5 k) j=if j=k then QG else Ak Y5 j:=by
 unfold Ak EL
 rw [List.find?_filter]
 by_cases h:j=k
 ·subst h
  rw [QY QA]
  simp
 ·rw [QN h]
  have:(fun a:Yh×QU=>(!XY (a.1=k)&&XY (a.1=j)))=fun a=>XY (a.1=j):=by
   funext a
   by_cases e:a.1=j
   ·have:¬a.1=k:=fun q=>h (by rw [<- e,q])
    simp [e,h]
   ·simp [e]
  simp only [Bool.decide_and,Bool.decide_eq_true,this,Bool.not_eq_eq_eq_not,Q4X,decide_eq_false_iff_not]
  first
  | rfl
  | (congr 2;funext a;by_cases e:a.1=j <;> simp [e,h])
theorem HK (Y5:QC (Yh×QU)) (k:Yh):(EL Y5 k).ZT<=Yu:=Q49 ..
def B6 (B:QC Yh) (k:Yh):QC QH:=(X6 Xn).Q9R fun i=>XY (B[i]?=QB k)
theorem Di {B:QC Yh} {t:QH} {e k:Yh} (h:B[t]?=QB e):B6 (Q1v (t+1)) k=if e=k then B6 (Q1v t) k++[t] else B6 (Q1v t) k:=by
 injections B t e k _
 have ht:t < Xn:=(QX h).1
 unfold B6
 rw [Xo,Xo,Yk ht,Yk (X7 ht),Q3M,Q5b]
 have e1:(X6 t).Q9R (fun i=>XY ((Q1v (t+1))[i]?=QB k))=(X6 t).Q9R fun i=>XY ((Q1v t)[i]?=QB k):=by
  apply List.filter_congr
  intros i hi
  have:=List.mem_range.mp hi
  rw [Zc,Zc,QY (by exact Le this),QY this]
 rw [e1]
 have e2:[t].Q9R (fun i=>XY ((Q1v (t+1))[i]?=QB k))=if e=k then [t] else []:=by
  rw [Q1n,Zc,QY (Xu t),h]
  by_cases q:e=k
  ·simp [q]
  ·simp [q]
 rw [e2]
 split <;> simp
theorem LA {B:QC Yh} {k:Yh} (h:k∉B):B6 B k=[]:=by
 unfold B6
 rw [Q7F]
 intro i hi q
 exact h (XG (by simpa using q))
theorem IR {B:QC Yh} {k:Yh} {i:QH}:i∈B6 B k↔B[i]?=QB k:=by
 unfold B6
 rw [QBg,List.mem_range]
 constructor
 ·intro h;simpa using h.2
 ·intro h;exact ⟨(QX h).1,by simpa using h⟩
theorem I3 (B:QC Yh) (k:Yh):(B6 B k).Pairwise (· < ·):=List.Pairwise.filter _ Q3l
theorem Az {B:QC Yh} {t:QH} {e k:Yh} (h:B[t]?=QB e):k∈Q1v (t+1)↔k∈Q1v t\/k=e:=by
 rw [QD3,h];simp
structure L1 (hp:QH->Ob) (lo hi:QH) (Y5:QC (Yh×QU)) (B:QC Yh):Prop where
 has:∀k,k∈B->∃l,Ak Y5 k=QB (.QQ l)/\lo<=l/\l < hi/\hp l=.Qs ((B6 B k).map fun i:QH=>.Qm i)
 not:∀k,k∉B->Ak Y5 k=QG
 inj:∀k k' l,Ak Y5 k=QB (.QQ l)->Ak Y5 k'=QB (.QQ l)->k=k'
 nd:(Q2o (·.1)).QED
 len:Yu<=Xn
theorem L1.nil {hp:QH->Ob} {lo hi:QH}:L1 hp lo hi [] [] where
 has:=fun k h=>by cases h
 not:=fun k h=>QA
 inj:=fun k k' l h=>by cases h
 nd:=.Zo
 len:=Qh _
theorem L1.old {hp hp':QH->Ob} {lo hi hi':QH} {Y5:QC (Yh×QU)} {B:QC Yh} {t l:QH} {e:Yh} (L:L1 hp lo hi Y5 (Q1v t)) (h:B[t]?=QB e) (hg:Ak Y5 e=QB (.QQ l)) (hh:hi<=hi')
  (h1:hp' l=.Qs ((B6 (Q1v t) e++[t]).map fun i:QH=>.Qm i)) (h2:∀k,lo<=k->k < hi->k≠l->hp' k=hp k):L1 hp' lo hi' Y5 (Q1v (t+1)) where
 has:=fun k hk=>by
  by_cases q:e=k
  ·subst q
   have:e∈Q1v t:=Q17 fun n=>by rw [L.not e n]at hg;cases hg
   refine ew1 (QHh e this) fun l' yq0s=>?_;refine an4 yq0s fun g1 g2 g3 g4=>?_;clear yq0s
   rw [hg]at g1;cases g1
   exact ⟨l,hg,g2,by exact Be hh g3,by rw [h1,Di h,QY QA]⟩
  ·have hk':k∈Q1v t:=((Az h).mp hk).Q9D fun r=>q QFF
   refine ew1 (QHh k hk') fun l' yq0t=>?_;refine an4 yq0t fun g1 g2 g3 g4=>?_;clear yq0t
   have:l'≠l:=fun r=>q (L.inj e k l hg (by rw [g1,r]))
   exact ⟨l',g1,g2,by exact Be hh g3,by rw [h2 l' g2 g3 this,g4,Di h,QN q]⟩
 not:=fun k hk=>L.not k fun r=>hk ((Az h).mpr (.inl r))
 inj:=L.inj
 nd:=L.nd
 len:=by
  have ht:t < Xn:=(QX h).1
  exact Qz L.len (by rw [Xo,Xo,Yk ht,Yk (X7 ht)];exact Q0N t)
theorem L1.new {hp hp':QH->Ob} {lo hi hi':QH} {Y5:QC (Yh×QU)} {B:QC Yh} {t l:QH} {e:Yh} (L:L1 hp lo hi Y5 (Q1v t)) (h:B[t]?=QB e) (hg:Ak Y5 e=QG) (hl:hi<=l) (hl0:lo<=l) (hh:l < hi')
  (h1:hp' l=.Qs [.Qm (t:QH)]) (h2:∀k,lo<=k->k < hi->hp' k=hp k):L1 hp' lo hi' (Y5++[(e,.QQ l)]) (Q1v (t+1)) where
 has:=fun k hk=>by
  rw [Dh]
  by_cases q:e=k
  ·subst q
   rw [hg]
   refine ⟨l,QY QA,hl0,hh,?_⟩
   have:e∉Q1v t:=fun r=>by refine ew1 (QHh e r) fun l' yq0u=>?_;refine an2 yq0u fun g1 _=>?_;clear yq0u;rw [hg]at g1;cases g1
   rw [h1,Di h,QY QA,LA this];rfl
  ·have hk':k∈Q1v t:=((Az h).mp hk).Q9D fun r=>q QFF
   refine ew1 (QHh k hk') fun l' yq0v=>?_;refine an4 yq0v fun g1 g2 g3 g4=>?_;clear yq0v
   rw [g1]
   exact ⟨l',QA,g2,by exact aet hl hh g3,by rw [h2 l' g2 g3,g4,Di h,QN q]⟩
 not:=fun k hk=>by
  have n:¬(k∈Q1v t\/k=e):=fun r=>hk ((Az h).mpr r)
  rw [Dh,L.not k fun r=>n (.inl r)]
  exact QN fun r=>n (.inr QFF)
 inj:=fun k k' l' a b=>by
  have lt:∀j l',Ak Y5 j=QB (.QQ l')->l' < hi:=fun j l' g=>by
   have:j∈Q1v t:=Q17 fun n=>by rw [L.not j n]at g;cases g
   refine ew1 (QHh j this) fun l2 yq0w=>?_;refine an4 yq0w fun g1 g2 g3 g4=>?_;clear yq0w
   rw [g]at g1;cases g1;exact g3
  rw [Dh]at a b
  cases ea:Ak Y5 k with
  | QB u =>
   rw [ea]at a;cases a
   cases eb:Ak Y5 k' with
   | QB u'=>rw [eb]at b;cases b;exact L.inj k k' l' ea eb
   | QG =>
    rw [eb]at b;dsimp only at b
    split at b
    ·cases b;have:=lt k _ ea;omega
    ·cases b
  | QG =>
   rw [ea]at a;dsimp only at a
   split at a
   ·rename_i ek
    cases a
    cases eb:Ak Y5 k' with
    | QB u'=>rw [eb]at b;cases b;have:=lt k' _ eb;omega
    | QG =>
     rw [eb]at b;dsimp only at b
     split at b
     ·rename_i ek';rw [<- ek,<- ek']
     ·cases b
   ·cases a
 nd:=by
  rw [Qt,Q5v]
  refine ⟨L.nd,by simp,fun x hx y hy=>?_⟩
  simp only [XV,Q54,Xj]at hy
  subst hy
  intro q
  subst q
  have:=BU.mpr hx
  rw [hg]at this;cases this
 len:=by
  have ht:t < Xn:=(QX h).1
  have:=L.len
  rw [Xo,Yk (X7 ht)]at this
  rw [Xz,Q08,Xo,Yk ht];exact Q4D this
end
end Mini
end
section
set_option genInjectivity false
set_option genSizeOf false
namespace Mini
structure Win where
 alo:Nat
 ahi:Nat
 blo:Nat
 bhi:Nat
instance:Nonempty Win:=⟨⟨0,0,0,0⟩⟩
section
variable (M:Nat->Nat->Bool) (U:Nat->Bool)
mutual
def An (a0 b0:QH):QH->QH->QH
 | 0,j=>if (M 0 j&&!U j&&XY (a0<=0)&&XY (b0<=j))=QM then 1 else 0
 | i+1,j=>if (M (i+1) j&&!U j&&XY (a0<=i+1)&&XY (b0<=j))=QM then (match j with | 0=>0 | j'+1=>An a0 b0 i j')+1 else 0
def FA (a0 b0 i j:QH):QH:=match i,j with
 | i'+1,j'+1=>An M U a0 b0 i' j'
 | _,_=>0
theorem AQ (a0 b0 i j:QH):An M U a0 b0 i j=if M i j=QM/\U j=QJ/\a0<=i/\b0<=j then FA M U a0 b0 i j+1 else 0:=by
 injections M U a0 b0 i j
 cases i with
 | Q1x =>
  show (if (M 0 j&&!U j&&XY (a0<=0)&&XY (b0<=j))=QM then 1 else 0)=(if M 0 j=QM/\U j=QJ/\a0<=0/\b0<=j then 1 else 0)
  by_cases h:M 0 j=QM/\U j=QJ/\a0<=0/\b0<=j
  ·rw [QY h,QY (by simp [h.1,h.2.1,h.2.2.2];exact Q81 h.2.2.1)]
  ·rw [QN h,QN]
   intros q
   simp only [X9,ZD,Xm]at q
   exact h ⟨q.1.1.1,q.1.1.2,q.1.2,q.2⟩
 | Q1y i =>
  injections i zI
  have e:FA M U a0 b0 (i+1) j=(match j with | 0=>0 | j'+1=>An M U a0 b0 i j'):=by cases j <;> rfl
  rw [e]
  show (if (M (i+1) j&&!U j&&XY (a0<=i+1)&&XY (b0<=j))=QM then (match j with | 0=>0 | j'+1=>An M U a0 b0 i j')+1 else 0)=_
  by_cases h:M (i+1) j=QM/\U j=QJ/\a0<=i+1/\b0<=j
  ·rw [QY h,QY (by simp only [X9,ZD,Xm];exact ⟨⟨⟨h.1,h.2.1⟩,h.2.2.1⟩,h.2.2.2⟩)]
  ·rw [QN h,QN]
   intros q
   simp only [X9,ZD,Xm]at q
   exact h ⟨q.1.1.1,q.1.1.2,q.1.2,q.2⟩
theorem M0 (a0 b0 i j:QH) (h:i < a0\/j < b0):An M U a0 b0 i j=0:=by
 rw [AQ,QN];omega
theorem DD (a0 b0 i j t:QH):t < An M U a0 b0 i j->t<=i/\t<=j/\a0+t<=i/\b0+t<=j/\M (i - t) (j - t)=QM/\U (j - t)=QJ/\An M U a0 b0 (i - t) (j - t)=An M U a0 b0 i j - t:=by
 revert i j
 induction t with
 | Q1x =>
  intro i j h
  rw [AQ]at h
  split at h
  ·rename_i q;exact ⟨XQ _,XQ _,q.2.2.1,q.2.2.2,q.1,q.2.1,QA⟩
  ·exact XF h (YR _)
 | Q1y t ih =>
  intro i j h
  have h':=h
  rw [AQ]at h
  split at h
  ·rename_i q
   cases i with
   | Q1x=>exact XF (Zw (show t+1 < 0+1 from h)) (YR _)
   | Q1y i =>
    cases j with
    | Q1x=>exact XF (Zw (show t+1 < 0+1 from h)) (YR _)
    | Q1y j =>
     have e:An M U a0 b0 (i+1) (j+1)=An M U a0 b0 i j+1:=by rw [AQ,QY q];rfl
     refine an7 (ih i j (by exact zq1 h' e)) fun k1 k2 k3 k4 k5 k6 k7=>?_
     refine ⟨by exact zq2 k1,by exact zq2 k2,by exact zq3 k3,by exact zq3 k4,?_,?_,?_⟩
     ·rw [show i+1 - (t+1)=i - t by exact zq4 k1,show j+1 - (t+1)=j - t by exact zq4 k2];exact k5
     ·rw [show j+1 - (t+1)=j - t by exact zq4 k2];exact k6
     ·rw [show i+1 - (t+1)=i - t by exact zq4 k1,show j+1 - (t+1)=j - t by exact zq4 k2,k7,e];exact zq5
  ·exact XF h (YR _)
theorem DR (a0 b0 i j:QH) (h:0 < An M U a0 b0 i j):An M U a0 b0 i j+a0<=i+1/\An M U a0 b0 i j+b0<=j+1:=by
 have:=DD M U a0 b0 i j (An M U a0 b0 i j - 1) (by exact zq6 h)
 exact ⟨zq7 this.2.2.1,zq7 this.2.2.2.1⟩
def Bst (a0 b0:QH) (C:QH->QH->Prop) (b:QH×QH×QH):Prop :=
 (b=(a0,b0,0)/\∀x y,C x y->An M U a0 b0 x y=0) \/
 ∃x y,C x y/\0 < An M U a0 b0 x y/\b=(x+1 - An M U a0 b0 x y,y+1 - An M U a0 b0 x y,An M U a0 b0 x y) /\
  (∀x' y',C x' y'->An M U a0 b0 x' y'<=An M U a0 b0 x y)/\∀x' y',C x' y'->(x' < x\/(x'=x/\y' < y))->An M U a0 b0 x' y' < An M U a0 b0 x y
end
variable {M U} {a0 b0:Nat} {C C':Nat->Nat->Prop} {b:Nat×Nat×Nat}
mutual
theorem Bst.size (h:Bst M U a0 b0 C b):∀x y,C x y->An M U a0 b0 x y<=b.2.2:=by
 injections M U a0 b0 C b _
 rcases h with zR | zR
 ·obtain ⟨QA,h⟩:=zR
  intros x y q;rw [h x y q];exact Qh _
 ·obtain ⟨x,y,h1,h2,QA,h3,h4⟩:=zR
  exact h3
theorem Bst.grow (h:Bst M U a0 b0 C b) (s:∀x y,C x y->C' x y) (n:∀x y,C' x y->¬C x y->An M U a0 b0 x y=0):Bst M U a0 b0 C' b:=by
 injections M U a0 b0 C C' b _ _ _
 rcases h with zR | zR
 ·obtain ⟨QA,h⟩:=zR
  refine .inl ⟨QA,?_⟩;intros x y q
  by_cases c:C x y
  ·exact h x y c
  ·exact n x y q c
 ·obtain ⟨x,y,h1,h2,QA,h3,h4⟩:=zR
  refine .inr ⟨x,y,s x y h1,h2,QA,?_,?_⟩
  ·intros x' y' q
   by_cases c:C x' y'
   ·exact h3 x' y' c
   ·rw [n x' y' q c];exact zq8
  ·intros x' y' q l
   by_cases c:C x' y'
   ·exact h4 x' y' c l
   ·rw [n x' y' q c];exact h2
theorem aiG {x y x' y':QH} (h:x < x'\/x=x'/\y < y') (l:x' < x\/x'=x/\y' < y):Yn :=
 Qy (fun a=>l.elim (fun b=>QAS a b) fun b=>Xv a b.1.Q37) fun a=>l.elim (fun b=>Xv b a.1.Q37) fun b=>QAS a.2 b.2
theorem Bst.more {i j:QH} (h:Bst M U a0 b0 C b) (hC:∀x y,C' x y↔C x y\/(x=i/\y=j)) (hb:∀x y,C x y->x < i\/(x=i/\y < j)) :
  Bst M U a0 b0 C' (if An M U a0 b0 i j > b.2.2 then (i+1 - An M U a0 b0 i j,j+1 - An M U a0 b0 i j,An M U a0 b0 i j) else b):=by
 have hs:=h.size
 split
 ·rename_i g
  refine .inr ⟨i,j,(hC i j).mpr (.inr ⟨QA,QA⟩),by exact zq9 g,QA,fun x y q=>?_,fun x y q l=>?_⟩
  ·rcases (hC x y).mp q with q | ⟨QA,QA⟩
   ·have:=hs x y q;exact ahv g this
   ·exact Qh _
  ·rcases (hC x y).mp q with q | ⟨QA,QA⟩
   ·have:=hs x y q;exact ahu g this
   ·exact l.elim (fun l=>XF l (XO _)) fun l=>XF l.2 (XO _)
 ·rename_i g
  rcases h with ⟨QA,h⟩ | ⟨x,y,h1,h2,QA,h3,h4⟩
  ·refine .inl ⟨QA,fun x y q=>?_⟩
   rcases (hC x y).mp q with q | ⟨QA,QA⟩
   ·exact h x y q
   ·have:¬An M U a0 b0 x y > 0:=g
    exact aht this
  ·refine .inr ⟨x,y,(hC x y).mpr (.inl h1),h2,QA,fun x' y' q=>?_,fun x' y' q l=>?_⟩
   ·rcases (hC x' y').mp q with q | ⟨QA,QA⟩
    ·exact h3 x' y' q
    ·exact Q6k g
   ·rcases (hC x' y').mp q with q | ⟨QA,QA⟩
    ·exact h4 x' y' q l
    ·exact (aiG (hb x y h1) l).Q2m
theorem Bst.uniq {b':QH×QH×QH} (h:Bst M U a0 b0 C b) (k:Bst M U a0 b0 C b'):b=b':=by
 injections M U a0 b0 C b b' _ _
 rcases h with ⟨QA,h⟩ | ⟨x,y,h1,h2,QA,h3,h4⟩ <;> rcases k with ⟨QA,k⟩ | ⟨x',y',k1,k2,QA,k3,k4⟩
 ·rfl
 ·exact XF (h x' y' k1) (Y8 k2)
 ·exact XF (k x y h1) (Y8 h2)
 ·have e1:=h3 x' y' k1
  have e2:=k3 x y h1
  have:x=x'/\y=y':=by
   by_cases q:x' < x\/(x'=x/\y' < y)
   ·have:=h4 x' y' k1 q;exact ⟨Ov e2 this,Ov e2 this⟩
   ·by_cases q2:x < x'\/(x=x'/\y < y')
    ·have:=k4 x y h1 q2;exact ⟨Ov e1 this,Ov e1 this⟩
    ·rcases Q40 x x' with r | r | r
     ·exact (q2 (.inl r)).Q2m
     ·rcases Q40 y y' with s | s | s
      ·exact (q2 (.inr ⟨r,s⟩)).Q2m
      ·exact ⟨r,s⟩
      ·exact (q (.inr ⟨QFF,s⟩)).Q2m
     ·exact (q (.inl r)).Q2m
  rw [this.1,this.2]
def QBH (w:Win) (x y:QH):Prop:=Y0<=x/\x < Q0R/\Y1<=y/\y < Q0I
end
variable {w:Win}
mutual
theorem Bst.inside (h:Bst M U Y0 Y1 QC4 b) (ha:Y0<=Q0R) (hb:Y1<=Q0I):Y0<=b.1/\Y1<=b.2.1/\b.1+b.2.2<=Q0R/\b.2.1+b.2.2<=Q0I:=by
 injections M U b w _ _ _
 rcases h with zR | zR
 ·obtain ⟨QA,h⟩:=zR
  exact ⟨Qh _,Qh _,ha,hb⟩
 ·obtain ⟨x,y,h1,h2,QA,h3,h4⟩:=zR
  have:=DR M U _ _ _ _ h2
  unfold QBH at h1
  exact ⟨aen this.1,aen this.2,aei h1.2.1 this.1,aei h1.2.2.2 this.2⟩
theorem Bst.noLeft (h:Bst M U Y0 Y1 QC4 b) (h1:Y0 < b.1) (h2:Y1 < b.2.1):¬(M (b.1 - 1) (b.2.1 - 1)=QM/\U (b.2.1 - 1)=QJ):=by
 injections M U b w _ _ _
 intros Q2X
 obtain ⟨m,u⟩:=Q2X
 rcases h with zR | zR
 ·obtain ⟨QA,h⟩:=zR
  exact XO _ h1
 ·obtain ⟨x,y,c1,c2,QA,c3,c4⟩:=zR
  have k:=DD M U Y0 Y1 x y (An M U Y0 Y1 x y - 1) (by exact zq6 c2)
  dsimp only at h1 h2 m u
  generalize hr:An M U Y0 Y1 x y=r at *
  obtain ⟨k1,k2,k3,k4,k5,k6,k7⟩:=k
  have e1:x+1 - r=x - (r - 1):=by exact aed c2 k1
  have e2:y+1 - r=y - (r - 1):=by exact aed c2 k2
  have k7':An M U Y0 Y1 (x - (r - 1)) (y - (r - 1))=1:=by rw [k7];exact ahs c2
  rw [AQ,QY ⟨k5,k6,by exact ad2 k3,by exact ad2 k4⟩]at k7'
  rw [e1,e2]at m
  rw [e2]at u
  rw [e1]at h1
  rw [e2]at h2
  have:FA M U Y0 Y1 (x - (r - 1)) (y - (r - 1))=An M U Y0 Y1 (x - (r - 1) - 1) (y - (r - 1) - 1):=by
   have zO:∃p,x - (r - 1)=p+1:=⟨x - (r - 1) - 1,by exact adT h1⟩
   obtain ⟨p,hp⟩:=zO
   have zO:∃q,y - (r - 1)=q+1:=⟨y - (r - 1) - 1,by exact adT h2⟩
   obtain ⟨q,hq⟩:=zO
   rw [hp,hq];rfl
  rw [this,AQ,QY ⟨m,u,by exact adQ h1,by exact adQ h2⟩]at k7'
  exact ahr k7'
theorem Bst.noRight (h:Bst M U Y0 Y1 QC4 b) (h1:b.1+b.2.2 < Q0R) (h2:b.2.1+b.2.2 < Q0I) (ha:Y0<=Q0R) (hb:Y1<=Q0I):¬(M (b.1+b.2.2) (b.2.1+b.2.2)=QM/\U (b.2.1+b.2.2)=QJ):=by
 injections M U b w _ _ _ _ _
 intros Q6r
 obtain ⟨m,u⟩:=Q6r
 have hi:=h.inside ha hb
 rcases h with zR | zR
 ·obtain ⟨QA,h⟩:=zR
  have:=h Y0 Y1 ⟨Qh _,h1,Qh _,h2⟩
  dsimp only at m u
  rw [AQ,QY ⟨m,u,Qh _,Qh _⟩]at this
  exact adB this
 ·obtain ⟨x,y,c1,c2,QA,c3,c4⟩:=zR
  have hl:=DR M U _ _ _ _ c2
  dsimp only at h1 h2 m u
  have e1:x+1 - An M U Y0 Y1 x y+An M U Y0 Y1 x y=x+1:=by exact Ou hl.1
  have e2:y+1 - An M U Y0 Y1 x y+An M U Y0 Y1 x y=y+1:=by exact Ou hl.2
  rw [e1,e2]at m
  rw [e2]at u
  rw [e1]at h1
  rw [e2]at h2
  unfold QBH at c1
  have:=c3 (x+1) (y+1) ⟨by exact Hs c1.1,h1,by exact Hs c1.2.2.1,h2⟩
  rw [AQ M U _ _ (x+1) (y+1),QY ⟨m,u,by exact Hs c1.1,by exact Hs c1.2.2.1⟩]at this
  have e3:FA M U Y0 Y1 (x+1) (y+1)=An M U Y0 Y1 x y:=QA
  exact ahq this e3
end
variable (M U)
noncomputable def Kf (w:Win) (i j u:Nat):Prop:=u<=i/\u<=j/\w.alo+u<=i/\w.blo+u<=j/\(∀t,t < u->M (i - 1 - t) (j - 1 - t)=true/\U (j - 1 - t)=true)/\¬(w.alo < i - u/\w.blo < j - u/\M (i - u - 1) (j - u - 1)=true/\U (j - u - 1)=true)
noncomputable def Ke (w:Win) (i j r:Nat):Prop:=(r=0\/(i+r<=w.ahi/\j+r<=w.bhi))/\(∀t,t < r->M (i+t) (j+t)=true/\U (j+t)=true)/\¬(i+r < w.ahi/\j+r < w.bhi/\M (i+r) (j+r)=true/\U (j+r)=true)
noncomputable def Flm (w:Win) (i j k:Nat):Prop:=∃b u r,Bst M U w.alo w.blo w.cells b/\Kf M U w b.1 b.2.1 u/\Ke M U w (b.1+b.2.2) (b.2.1+b.2.2) r/\i=b.1 - u/\j=b.2.1 - u/\k=b.2.2+u+r
end
end Mini
end
section
open PySem PySem.W PySem.Calls PyProof.Rows
namespace Mini
mutual
theorem A5 {a b:QH} (h:a<=b):XI (a:X4) (b:X4) 1=((b - a:QH):X4):=by
 unfold XI
 rw [QY (by decide)]
 by_cases e:a=b
 ·subst e;simp
 ·rw [QY (by exact YS (Vg h e)),Int.ediv_one,QDF h];exact Int.sub_add_cancel ..
theorem Fz {a b t:QH} {z:X4} (h:a<=b) (hz:(Ay (a:X4) (b:X4) 1)[t]?=QB z):z=((a+t:QH):X4)/\a+t < b:=by
 injections a b t z _ _
 unfold Ay at hz
 rw [A5 h,QT]at hz
 cases e:(X6 ((b - a:QH):X4).Q1Z)[t]? with
 | QG=>rw [e]at hz;cases hz
 | QB i =>
  injections i zI
  rw [e]at hz
  obtain ⟨h1,h2⟩:=QX e
  rw [List.getElem_range]at h2
  rw [Y9]at h1
  cases hz
  subst h2
  refine ⟨?_,Q4A h1⟩
  show (a:X4)+(t:X4)*1=_
  rw [QBV];rfl
theorem Fy {a b:QH} (h:a<=b):(Ay (a:X4) (b:X4) 1).ZT=b - a:=by
 unfold Ay
 rw [QK,Y9,A5 h];rfl
theorem CX {a b:QH} (h:a<=b) (hb:b < 2 ^ 62):Q0f (a:X4) (b:X4) 1=QM:=small_one (QFG (by decide) (Yt a)) (YS (Q3c h hb)) (QFG (by decide) (Yt b)) (YS hb)
theorem Bj {α:Type} {B:QC α} {t:QH} {e k:α} (h:B[t]?=QB e):k∈Q1v (t+1)↔k∈Q1v t\/k=e:=by
 rw [QD3,h];simp
theorem OF {L:QC QH} (hs:Q5c (· < ·)) {t j y:QH} (h:L[t]?=QB j) (hy:y∈L.take t):y < j:=by
 obtain (⟨i,hi⟩):=Q6Q hy
 rw [Zc]at hi
 split at hi
 ·rename_i hlt
  obtain (⟨h1,h2⟩):=QX h
  obtain (⟨h3,h4⟩):=QX hi
  have:=Q2C hs i t h3 h1 hlt
  exact aes h2 h4 this
 ·cases hi
theorem Pl {L:QC QH} (hs:Q5c (· < ·)) {t j y:QH} (h:L[t]?=QB j) (hy:y∈L) (hn:y∉L.take t):j<=y:=by
 obtain (⟨i,hi⟩):=Q6Q hy
 have ht:t<=i:=Q17 fun q=>hn (XG (i:=i) (by rw [Zc,QY (by exact Tm q)];exact hi))
 obtain (⟨h1,h2⟩):=QX h
 obtain (⟨h3,h4⟩):=QX hi
 by_cases e:t=i
 ·subst e;exact Q20 (h2.symm.trans h4)
 ·have:=Q2C hs t i h1 h3 (by exact aer ht e)
  exact aeq h2 h4 this
theorem Lv {Y5:QC (Yh×QU)} {k j:Yh} {v:QU}:Ak (Ce Y5 k v) j=if j=k then QB v else Ak Y5 j:=by
 injections Y5 k j v
 unfold Ce
 split
 ·rename_i h
  unfold Ak
  rw [List.find?_map,Option.map_map]
  simp only [Q4H,Xm]at h
  have e1:((fun kv:Yh×QU=>XY (kv.1=j)) ∘ fun kv=>if kv.1=k then (kv.1,v) else kv)=fun kv=>XY (kv.1=j):=by
   funext kv
   show XY ((if kv.1=k then (kv.1,v) else kv).1=j)=_
   split <;> rfl
  rw [e1]
  by_cases q:j=k
  ·subst q
   rw [QY QA]
   obtain ⟨x,hx,hxk⟩:=h
   cases e:Q8a (fun kv=>XY (kv.1=j)) with
   | QG=>rw [Q3T]at e;exact XF (by simpa using hxk) (e x hx)
   | QB y =>
    injections y zI
    have:=Q7O e
    simp only [Xm]at this
    simp [this]
  ·rw [QN q]
   cases e:Q8a (fun kv=>XY (kv.1=j)) with
   | QG=>rfl
   | QB y =>
    injections y zI
    have:=Q7O e
    simp only [Xm]at this
    have hk:¬y.1=k:=fun r=>q (by rw [<- this,r])
    simp [hk]
 ·rename_i h
  have hn:Ak Y5 k=QG:=by
   unfold Ak
   simp only [Q4H,Xm,not_exists,not_and]at h
   simp only [Q3o,Q3T,Xm]
   exact h
  rw [Dh]
  by_cases q:j=k
  ·subst q;rw [hn,QY QA]
  ·rw [QN q,QN fun r=>q QFF]
   first | done | (cases Ak Y5 j <;> rfl)
theorem HJ (Y5:QC (Yh×QU)) (k:Yh) (v:QU):(Ce Y5 k v).ZT<=Yu+1:=by
 unfold Ce
 split
 ·rw [QK];exact EA
 ·rw [Xz,Q08];exact SQ
end
end Mini
end
section
set_option genInjectivity false
set_option genSizeOf false
namespace Mini
noncomputable abbrev Ap:=Nat×Nat×Nat
section
variable (M:Nat->Nat->Bool) (U:Nat->Bool)
inductive Blk:Win->List Ap->Prop
 | leaf {w:Win} {i j:Nat}:Flm M U w i j 0->Blk w []
 | node {w:Win} {i j k:Nat} {l1 l2:List Ap}:Flm M U w i j k->0 < k->(w.alo < i/\w.blo < j->Blk ⟨w.alo,i,w.blo,j⟩ l1)->(¬(w.alo < i/\w.blo < j)->l1=[]) ->
   (i+k < w.ahi/\j+k < w.bhi->Blk ⟨i+k,w.ahi,j+k,w.bhi⟩ l2)->(¬(i+k < w.ahi/\j+k < w.bhi)->l2=[])->Blk w (l1++(i,j,k)::l2)
inductive AllB:List Win->List Ap->Prop
 | nil:AllB [] []
 | cons {w:Win} {ws:List Win} {l L:List Ap}:Blk M U w l->AllB ws L->AllB (w::ws) (l++L)
variable {M U}
mutual
theorem in1 {x lo hi u r z:QH} (h1:u<=x) (h2:lo+u<=x) (h3:x+z<=hi) (h4:r=0\/x+z+r<=hi):lo<=x - u/\x - u+(z+u+r)<=hi:=by
 have h5:x+z+r<=hi:=h4.elim (fun e=>by rw [e];exact h3) id
 refine ⟨Nat.le_sub_of_add_le h2,?_⟩
 rw [Nat.add_comm z u,Q2O u z r,<- Q2O (x - u) u (z+r),Q9i h1,<- Q2O x z r]
 exact h5
theorem Flm.inside {w:Win} {i j k:QH} (h:Flm M U w i j k) (ha:Y0<=Q0R) (hb:Y1<=Q0I):Y0<=i/\i+k<=Q0R/\Y1<=j/\j+k<=Q0I:=by
 obtain (⟨b,u,r,h1,h2,h3,QA,QA,QA⟩):=h
 have:=h1.inside ha hb
 obtain (⟨k1,k2,k3,k4,_⟩):=h2
 obtain (⟨q,_⟩):=h3
 have a:=in1 k1 k3 this.2.2.1 (q.imp id (·.1))
 have b:=in1 k2 k4 this.2.2.2 (q.imp id (·.2))
 exact ⟨a.1,a.2,b.1,b.2⟩
theorem Blk.inside {w:Win} {L:QC Ap} (h:Blk M U w L):Y0<=Q0R->Y1<=Q0I->(∀t∈L,Y0<=t.1/\t.1+t.2.2<=Q0R/\Y1<=t.2.1/\t.2.1+t.2.2<=Q0I/\0 < t.2.2)/\Q5c (fun x y=>x.1+x.2.2<=y.1/\x.2.1+x.2.2<=y.2.1):=by
 induction h with
 | leaf _=>intro _ _;exact ⟨fun t q=>(by cases q),.Zo⟩
 | @node w i j k l1 l2 hf hk c1 n1 c2 n2 ih1 ih2 =>
  intro ha hb
  have hi:=QEI ha hb
  have g1:(∀t∈l1,Y0<=t.1/\t.1+t.2.2<=i/\Y1<=t.2.1/\t.2.1+t.2.2<=j/\0 < t.2.2)/\l1.Pairwise (fun x y=>x.1+x.2.2<=y.1/\x.2.1+x.2.2<=y.2.1):=by
   by_cases q:Y0 < i/\Y1 < j
   ·exact ih1 q (X7 q.1) (X7 q.2)
   ·rw [n1 q];exact ⟨fun t q=>(by cases q),.Zo⟩
  have g2:(∀t∈l2,i+k<=t.1/\t.1+t.2.2<=Q0R/\j+k<=t.2.1/\t.2.1+t.2.2<=Q0I/\0 < t.2.2)/\l2.Pairwise (fun x y=>x.1+x.2.2<=y.1/\x.2.1+x.2.2<=y.2.1):=by
   by_cases q:i+k < Q0R/\j+k < Q0I
   ·exact ih2 q (X7 q.1) (X7 q.2)
   ·rw [n2 q];exact ⟨fun t q=>(by cases q),.Zo⟩
  refine ⟨fun t ht=>?_,?_⟩
  ·rcases Y4 ht with q | q
   ·have:=g1.1 t q;exact ⟨Hr this.1,acV hk hi.2.1 this.2.1,Hr this.2.2.1,acV hk hi.2.2.2 this.2.2.2.1,Lf this.2.2.2.2⟩
   ·rcases XT q with QA | q
    ·exact ⟨Hr hi.1,DK hi.2.1,Hr hi.2.2.1,DK hi.2.2.2,Lf hk⟩
    ·have:=g2.1 t q;exact ⟨acv hk hi.1 this.1,DK this.2.1,acv hk hi.2.2.1 this.2.2.1,DK this.2.2.2.1,Lf this.2.2.2.2⟩
  ·refine List.pairwise_append.mpr ⟨g1.2,List.pairwise_cons.mpr ⟨fun y hy=>(by have:=g2.1 y hy;dsimp only;exact ⟨DK this.1,DK this.2.2.1⟩),g2.2⟩,fun x hx y hy=>?_⟩
   have a1:=g1.1 x hx
   rcases XT hy with QA | q
   ·exact ⟨DK a1.2.1,DK a1.2.2.2.1⟩
   ·have:=g2.1 y q;exact ⟨aco hk a1.2.1 this.1,aco hk a1.2.2.2.1 this.2.2.1⟩
def Eb (M:QH->QH->Qu) (U:QH->Qu) (w0:Win) (ms:QC Ap) (ws:QC Win):Prop:=∀L,AllB M U ws L->∃L0,Blk M U w0 L0/\(ms++L).Perm L0
theorem Eb.start (w0:Win):Eb M U w0 [] [w0]:=fun L h=>by
 cases h with
 | Xx h1 h2=>cases h2;exact ⟨_,h1,by simp⟩
theorem Eb.done {w0:Win} {ms:QC Ap} (h:Eb M U w0 ms []):∃L0,Blk M U w0 L0/\ms.Perm L0:=by
 refine ew1 (h [] .Zo) fun L0 yq01=>?_;refine an2 yq01 fun h1 h2=>?_;clear yq01
 exact ⟨L0,h1,by simpa using h2⟩
theorem Eb.drop {w0 w:Win} {ms:QC Ap} {ws:QC Win} {i j:QH} (h:Eb M U w0 ms (w::ws)) (hf:Flm M U w i j 0):Eb M U w0 ms ws:=fun L k=>h ([]++L) (.Xx (.leaf hf) k)
def Cd (w:Win) (i j:QH) (ws:QC Win):QC Win:=if Y0 < i/\Y1 < j then ⟨Y0,i,Y1,j⟩::ws else ws
def DT (w:Win) (i j k:QH) (ws:QC Win):QC Win:=if i+k < Q0R/\j+k < Q0I then ⟨i+k,Q0R,j+k,Q0I⟩::ws else ws
theorem Eb.take {w0 w:Win} {ms:QC Ap} {ws:QC Win} {i j k:QH} (h:Eb M U w0 ms (w::ws)) (hf:Flm M U w i j k) (hk:0 < k):Eb M U w0 (ms++[(i,j,k)]) (DT w i j k (Cd w i j ws)):=fun L hL=>by
 obtain ⟨l2,L2,QA,c2,n2,hL2⟩:∃l2 L2,L=l2++L2/\(i+k < Q0R/\j+k < Q0I->Blk M U ⟨i+k,Q0R,j+k,Q0I⟩ l2)/\(¬(i+k < Q0R/\j+k < Q0I)->l2=[])/\AllB M U (Cd w i j ws) L2:=by
  unfold DT at hL
  split at hL
  ·rename_i q
   cases hL with
   | Xx a b=>exact ⟨_,_,QA,fun _=>a,fun n=>(n q).Q2m,b⟩
  ·rename_i q
   exact ⟨[],L,QA,fun n=>(q n).Q2m,fun _=>QA,hL⟩
 obtain ⟨l1,L1,QA,c1,n1,hL1⟩:∃l1 L1,L2=l1++L1/\(Y0 < i/\Y1 < j->Blk M U ⟨Y0,i,Y1,j⟩ l1)/\(¬(Y0 < i/\Y1 < j)->l1=[])/\AllB M U ws L1:=by
  unfold Cd at hL2
  split at hL2
  ·rename_i q
   cases hL2 with
   | Xx a b=>exact ⟨_,_,QA,fun _=>a,fun n=>(n q).Q2m,b⟩
  ·rename_i q
   exact ⟨[],L2,QA,fun n=>(q n).Q2m,fun _=>QA,hL2⟩
 refine ew1 (h ((l1++(i,j,k)::l2)++L1) (.Xx (.node hf hk c1 n1 c2 n2) hL1)) fun L0 yq02=>?_;refine an2 yq02 fun g1 g2=>?_;clear yq02
 refine ⟨L0,g1,List.Perm.trans ?_ g2⟩
 rw [Q0W]
 refine Q7Y ms ?_
 have e1:((i,j,k)::(l2++(l1++L1))).Perm ((i,j,k)::(l1++(l2++L1))):=Q5Q _ (by
  rw [<- Q0W,<- Q0W]
  exact List.Perm.append_right L1 List.perm_append_comm)
 refine Ye ?_
 have e2:(l1++(i,j,k)::l2++L1)=l1++(i,j,k)::(l2++L1):=by simp
 rw [e2]
 exact List.perm_middle.symm
def wsz (w:Win):QH:=2*(Q0R - Y0)+1
theorem Lq {w:Win} {i j k:QH} {ws:QC Win} (hk:0 < k) (h1:Y0<=i) (h2:i+k<=Q0R):((DT w i j k (Cd w i j ws)).map wsz).sum < (((w::ws).map wsz).sum):=by
 have e:((Cd w i j ws).map wsz).sum<=2*(i - Y0)+1+(QD4 wsz).sum:=by
  unfold Cd
  split
  ·simp [wsz]
  ·exact ahp
 have e2:((DT w i j k (Cd w i j ws)).map wsz).sum<=2*(Q0R - (i+k))+1+((Cd w i j ws).map wsz).sum:=by
  unfold DT
  split
  ·simp [wsz]
  ·exact aho
 have e3:((w::ws).map wsz).sum=2*(Q0R - Y0)+1+(QD4 wsz).sum:=by simp [wsz]
 exact ahn hk h1 h2 e e2 e3
theorem CJ:∀ {L:QC Ap} {a n:QH},(∀t∈L,a<=t.1/\t.1+t.2.2<=n/\0 < t.2.2)->Q5c (fun x y=>x.1+x.2.2<=y.1)->Q6l<=n - a
 | [],_,_,_,_=>XQ _
 | t::L,a,n,h,hp=>by
  have h1:=h t (.Zf _)
  have ih:=CJ (L:=L) (a:=t.1+t.2.2) (n:=n) (fun u hu=>⟨(Q09 hp).1 u hu,(h u (.Q38 _ hu)).2⟩) (Q09 hp).2
  rw [Xg];exact ahm h1.1 h1.2.1 h1.2.2 ih
def mrg:Ap->QC Ap->QC Ap
 | c,[]=>if c.2.2=0 then [] else [c]
 | c,t::r=>if c.1+c.2.2=t.1/\c.2.1+c.2.2=t.2.1 then mrg (c.1,c.2.1,c.2.2+t.2.2) r else (if c.2.2=0 then [] else [c])++mrg t r
def Gmb (M:QH->QH->Qu) (U:QH->Qu) (la lb:QH) (R:QC Ap):Prop:=∃L,Blk M U ⟨0,la,0,lb⟩ L/\R=mrg (0,0,0) L++[(la,lb,0)]
theorem Dv {α:Type} {f:α->X4}:∀ {us vs:QC α},QF6 vs->Q8L (fun x y=>f x < f y)->vs.Pairwise (fun x y=>f x < f y)->us=vs
 | [],vs,h,_,_=>h.nil_eq
 | u::us,[],h,_,_=>(by have:=h.length_eq;simp at this)
 | u::us,v::vs,h,h1,h2=>by
  have hu:u∈v::vs:=h.mem_iff.mp (.Zf _)
  have hv:v∈u::us:=h.mem_iff.mpr (.Zf _)
  have e:u=v:=by
   rcases XT hu with q | q
   ·exact q
   ·rcases XT hv with q2 | q2
    ·exact q2.symm
    ·have a:=(Q09 h1).1 v q2
     have b:=(Q09 h2).1 u q
     exact XF (Q5B a b) (Int.lt_irrefl _)
  subst e
  rw [Dv ((List.perm_cons u).mp h) (Q09 h1).2 (Q09 h2).2]
end
end
end Mini
end
section
open PySem PySem.W PySem.Calls PyProof.Rows
namespace Mini
section
variable {G:Pg} {cal:Av} {n:Nat} {fm:Fm} {σ:Mini.St} {x:Str} {p:Pos}
mutual
theorem af9 {a b:X4} {P:QU->QE->Prop} (hb:b≠0) (h:P (.Qm (a.fmod b)) σ):CP .Mod (.Qm a) (.Qm b) σ P:=⟨hb,h⟩
theorem Ut {a b:X4} {P:QU->QE->Prop} (hb:b≠0) (hs:b.natAbs < 1073741824) (h:P (.Qm (a.fdiv b)) σ):CP .FloorDiv (.Qm a) (.Qm b) σ P:=⟨hb,PyProof.noPylong_small hs,h⟩
theorem af8 {a b:X4} {P:QU->QE->Prop} (hb:0<=b) (hs:(Builtin.Int.intBits a:X4)*b<=2 ^ 27) (h:P (.Qm (a ^ Q9p)) σ):CP .Pow (.Qm a) (.Qm b) σ P:=⟨hb,hs,h⟩
theorem Uu {a b:X8} {P:QU->QE->Prop} (hl:ZI+Q3z<=Xb) (h:P (.Xt (a++b)) σ):CP .Add (.Xt a) (.Xt b) σ P:=⟨hl,h⟩
theorem Ur {a:X8} {b:X4} {P:QU->QE->Prop} (hl:MulOk a b) (h:P (.Xt (Txt.mul a b)) σ):CP .Mult (.Xt a) (.Qm b) σ P:=⟨hl,h⟩
theorem J9 {l k:QH} {xs ys:QC QU} {P:QU->QE->Prop} (h1:QS l=.Qs xs) (h2:QS k=.Qs ys) (hl:Qn+ys.length<=Xb) (h:P (.QQ QO) (Qw (.Qs (xs++ys)))):CP .Add (.QQ l) (.QQ k) σ P:=by
 show M9 (QS l) (QS k) σ P
 rw [h1,h2];exact ⟨hl,h⟩
theorem J4 {i:QH} {d:QH} {P:QU->QE->Prop} (hi:i<=1114111) (h:P (.Xt ⟨#[i]⟩) σ):Ae G d (.imm (.Qd "chr")) [.Qm i] σ P:=by
 refine A0 ?_
 unfold AD;dsimp only
 rw [QN (by decide),QN (by decide),QN (by decide),QN (by decide)]
 unfold pB
 rw [QN (by decide),QN (by decide),QN (by decide),QN (by decide),QN (by decide),QN (by decide),QY QA]
 refine ⟨QA,by exact YF (LP),by exact YF hi,?_⟩
 exact h
theorem HV {l:QH} {a b:X4} {d:QH} {P:QU->QE->Prop} (e:QS l=.Q7K a b 1) (hs:Q0f a b 1=QM) (hz:0<=XI a b 1) (hl:(Ay a b 1).ZT<=2 ^ 24) (h:P (.QQ QO) (Qw (.Qs ((Ay a b 1).map .Qm)))):Ae G d (.imm (.Qk "list")) [.QQ l] σ P:=by
 have hB:AD G (.imm (.Qk "list")) [.QQ l] σ P:=by
  unfold AD;dsimp only
  rw [QN (by decide),QN (by decide)]
  unfold pTy
  rw [QN (by decide),QN (by decide),QY QA]
  refine ⟨QA,?_⟩;refine By.mk e ?_
  exact ⟨hs,hz,hl,h⟩
 cases d with
 | Q1x=>exact hB
 | Q1y d=>exact YJ hB
theorem Jf {l m:QH} {ps:QC (X4×Tok)} {d:QH} {P:QU->QE->Prop} (h:QS l=.Q4t ps m) (hl:Zj<=Xb) (p:P (.Qm Zj) σ):Ae G d (.imm (.Qd "len")) [.QQ l] σ P:=by
 refine A0 ?_
 unfold AD;dsimp only
 rw [QN (by decide),QN (by decide),QY QA]
 refine ⟨QA,.inl ?_⟩
 refine YJ (YJ (Q01 ?_));refine QH4 h ?_;exact ⟨hl,p⟩
theorem NZ {l:QH} {ns:QC X4} {d:QH} {P:QU->QE->Prop} (h:QS l=.Qs (Q4Q .Qm)) (hb:∀n∈ns,0<=n/\n<=2 ^ 31) (hl:Q2L<=2 ^ 24) (p:P (.Qm QGv) σ):Ae G d (.imm (.Qd "sum")) [.QQ l] σ P:=by
 refine A0 ?_
 unfold AD;dsimp only
 rw [QN (by decide),QY QA]
 exact ⟨QA,ns,h,hb,hl,p⟩
theorem Mz {K:Q1B} {l m:QH} {ps:QC (X4×Tok)} {P:Qu->QE->Prop} (h:QS l=.Q4t ps m) (hl:Zj<=Xb) (p:P (!QCP) σ):AC K (.QQ l) σ P:=by
 refine YJ (YJ ?_)
 refine YJ ?_;refine QH4 h ?_;exact ⟨hl,p⟩
theorem IG {l m:QH} {ps:QC (X4×Tok)} {i:X4} {k:QH} {v:X4×Tok} {P:QU->QE->Prop} (h:QS l=.Q4t ps m) (hi:i=k) (hv:ps[k]?=QB v) (hs:k < 2 ^ 63) (p:P (.Qm v.1) σ):FF (.QQ l) (.Qm i) σ P:=by
 subst hi
 have hlt:k < Zj:=(QX hv).1
 refine Q01 ⟨⟨by omega,by omega⟩,YJ (Q01 ?_)⟩;refine QH4 h ?_
 exact ⟨k,v,DQ hlt,hv,p⟩
theorem E6 {l:QH} {xs:QC QU} {a b k:QU} {p q r:QW X4} {P:QU->QE->Prop} (h:QS l=.Qs xs) (h1:Bq a=QB p) (h2:Bq b=QB q) (h3:Bq k=QB r) (hk:r≠QB 0) (hl:Qn<=Xb) (z:P (.QQ QO) (Qw (.Qs (Bm xs p q r)))):Bs (.QQ l) a b k σ P:=by
 refine Q01 ?_;refine Q46 h ?_;rw [h1];rw [h2];rw [h3];exact ⟨hk,hl,z⟩
theorem MS {l m:QH} {ps:QC (X4×Tok)} {a b k:QU} {p q r:QW X4} {P:QU->QE->Prop} (h:QS l=.Q4t ps m) (h1:Bq a=QB p) (h2:Bq b=QB q) (h3:Bq k=QB r) (hk:r≠QB 0) (hl:Zj<=Xb) (z:P (.QQ QO) (Qw (.Qs (Bm (Q15 fun p=>.Qm p.1) p q r)))):Bs (.QQ l) a b k σ P:=by
 refine YJ ?_;refine QH4 h ?_;rw [h1];rw [h2];rw [h3];exact ⟨hk,hl,z⟩
theorem agn {t:Qf->PT QU} {P:QU->QE->Prop} (h:P .QG σ):EY t QG σ P:=h
theorem agm {t:Qf->PT QU} {e:Qf} {P:QU->QE->Prop} (h:t e σ P):EY t (QB e) σ P:=h
theorem NK {f:Qf->PT QU} {t:Qf->PT Qu} {a:Qf->QU->PT Yb} {elt:Qf} {g:Qx} {Xr:QC QU} {Q3J:QE->Prop} {P:Yb->QE->Prop} (O:QH->QC QU->QE->Prop)
  (h0:O 0 [] {Qw (.Qs []) with loc:=fun _=>QG}) (hst:∀XH,YU [] σ XH->Q3J XH)
  (Q9X:∀i x XH vs,Xr[i]?=QB x->YU [] σ XH->QO < Xh->X5 QO=.Qs vs->O i vs XH->∀R:QE->Prop,(∀Q5g vs',YU [] σ Q5g->QO < Q66->Q67 QO=.Qs vs'->O (i+1) vs' Q5g->R Q5g) ->
   a Q3K x XH fun _ σ1=>BL t .And QBd σ1 fun ok σ1=>(ok=QJ->R σ1)/\(ok=QM->f elt σ1 fun v σ2=>Bx [.QQ QO,v] σ2 fun _ σ3=>R σ3))
  (Q55:∀XH vs,YU [] σ XH->QO < Xh->X5 QO=.Qs vs->O Yi vs XH->P () XH) :
  CO f t a QO elt [g] Xr Q3J {Qw (.Qs []) with loc:=fun _=>QG} P:=by
 refine Ax (fun i XH=>YU [] σ XH/\QO < Xh/\∃vs,X5 QO=.Qs vs/\O i vs XH) (fun _=>Yn) (fun _ _=>Yn) ?_ ?_ (fun i x XH hx hI R hn2 _ _ _=>?_) (fun XH hI=>?_) (fun _ q=>Q2i) (fun _ _ q=>Q2i)
 ·exact ⟨⟨Q0N _,fun l' hl' _=>QN (Xv hl')⟩,Xu _,[],QY QA,h0⟩
 ·intro i XH hI;exact hst XH hI.1
 ·refine an3 hI fun h1 h2 yq72=>?_;refine ew1 yq72 fun vs yq73=>?_;refine an2 yq73 fun h3 h4=>?_;clear yq72 yq73
  exact Q9X i x XH vs hx h1 h2 h3 h4 (R .YE) fun Q5g vs' k1 k2 k3 k4=>hn2 Q5g ⟨k1,k2,vs',k3,k4⟩
 ·refine an3 hI fun h1 h2 yq74=>?_;refine ew1 yq74 fun vs yq75=>?_;refine an2 yq75 fun h3 h4=>?_;clear yq74 yq75
  exact Q55 XH vs h1 h2 h3 h4
end
end
mutual
theorem KN (c m:QH) (h:m < 3):MulOk ⟨#[c]⟩ (m:X4)/\Txt.mul ⟨#[c]⟩ (m:X4)=⟨(Q10 m c).Xe⟩:=by
 rcases lt3 h with QA | QA | QA
 ·exact ⟨⟨by decide,fun h=>XF (by decide) h,fun h=>XF (by decide) h⟩,QA⟩
 ·refine ⟨⟨by decide,fun _ h=>?_,fun _ h=>?_⟩,QA⟩ <;> cases h
 ·refine ⟨⟨by decide,fun _ _=>?_,fun _ _=>?_⟩,?_⟩
  ·show ¬((1:QH):X4) > (2 ^ 63 - 1) / ((2:QH):X4)
   decide
  ·exact Yl (by show ¬(2 > Xb);rw [XA];omega)
  ·rfl
theorem OI (a b:QC QH):((⟨QBI⟩:X8)++(⟨QBJ⟩:X8))=(⟨(a++b).Xe⟩:X8):=by
 show (⟨QBI++QBJ⟩:X8)=_
 rw [List.append_toArray]
end
section
variable {G:Pg} {cal:Av} {n:Nat} {fm:Fm} {σ:Mini.St} {p:Pos}
mutual
theorem JE {l:QH} {xs:QC QU} {cs:QC QH} {i:X4} {P:QU->QE->Prop} (h:QS l=.Qs xs) (hx:xs=QF4 fun c:QH=>Q13 c) (h0:0<=i) (h1:i < QAf) (hs:QAf < 1000) (q:∀c∈cs,P (.Qm (c:QH)) σ):FF (.QQ l) (.Qm i) σ P:=by
 obtain ⟨k,QA⟩:∃k:QH,i=k:=⟨QH7,aiI h0⟩
 have hk:k < QAf:=by exact (Ym h1)
 refine Ao h QA (v:=.Qm (cs[k]:QH)) ?_ (by exact acA hs hk) (q _ (Q0H hk))
 rw [hx,QT,Qg hk];rfl
theorem Uv {a b:QC QH} {P:QU->QE->Prop} (hl:ZI+Q3z<=100) (h:P (.Xt ⟨(a++b).Xe⟩) σ):CP .Add (.Xt ⟨QBI⟩) (.Xt ⟨QBJ⟩) σ P:=by
 refine Uu ?_ ?_
 ·rw [XA];unfold Str.length;simp only [XW];exact acz hl
 ·rw [OI];exact h
def Ec (l:QC QH) (n:QH):Prop:=ZJ<=n
theorem aiE {a:QH}:Ec [a] 1:=Qh 1
theorem aiD {m c:QH} (h:m < 3):Ec (Q10 m c) 3:=by unfold Ec;rw [Q0A];exact X7 h
theorem aiF {a b:QC QH} {n k:QH} (h1:Ec a n) (h2:Ec b k):Ec (a++b) (n+k):=by unfold Ec;rw [Xz];exact Q8S h1 h2
theorem agK {a b:QC QH} {n k:QH} {P:QU->QE->Prop} (h1:Ec a n) (h2:Ec b k) (hs:QER (n+k) 100=QM) (h:P (.Xt ⟨(a++b).Xe⟩) σ):CP .Add (.Xt ⟨QBI⟩) (.Xt ⟨QBJ⟩) σ P:=Uv (Qz (Q8S h1 h2) (YB hs)) h
theorem agJ {l k:QH} {xs ys:QC QU} {P:QU->QE->Prop} (h1:QS l=.Qs xs) (h2:QS k=.Qs ys) (hl:QER (Qn+ys.length) Xb=QM) (h:P (.QQ QO) (Qw (.Qs (xs++ys)))):CP .Add (.QQ l) (.QQ k) σ P:=J9 h1 h2 (YB hl) h
theorem ai3 {c m:QH} {P:QU->QE->Prop} (hm:m < 3) (h:P (.Xt ⟨(Q10 m c).Xe⟩) σ):CP .Mult (.Xt ⟨[c].Xe⟩) (.Qm m) σ P:=by
 refine Ur (KN c m hm).1 ?_
 rw [(KN c m hm).2];exact h
theorem Us {a b:QH} {P:QU->QE->Prop} (hb:(b:X4)≠0) (h:P (.Qm ((a % b:QH):X4)) σ):CP .Mod (.Qm (a:X4)) (.Qm (b:X4)) σ P:=by
 refine af9 hb ?_
 rw [Int.fmod_eq_emod_of_nonneg _ (by exact YF (LP)),<- Int.natCast_emod];exact h
theorem ai4 {a:QH} {P:QU->QE->Prop} (h:P (.Qm ((a % 2:QH):X4)) σ):CP .Mod (.Qm (a:X4)) (.Qm 2) σ P:=Us (b:=2) (by decide) h
theorem agH {u:QH} {P:QU->QE->Prop} (h:P (.Xt ⟨[35].Xe⟩) σ):ev G YX (n+1) fm (.Q4h (.Xt (Qb "#")) u p) σ P:=by
 refine Uf ?_
 have:Qb "#"=⟨[35].Xe⟩:=by decide +XD
 rw [this];exact h
end
end
end Mini
end
section
set_option genInjectivity false
set_option genSizeOf false
namespace Mini
section
variable {M:Nat->Nat->Bool} {U:Nat->Bool}
mutual
theorem Kf.uniq {w:Win} {i j u u':QH} (h:Kf M U w i j u) (k:Kf M U w i j u'):u=u':=by
 injections M U w i j u u' _ _
 obtain ⟨h1,h2,h3,h4,h5,h6⟩:=h
 obtain ⟨k1,k2,k3,k4,k5,k6⟩:=k
 rcases Q40 u u' with q | q | q
 ·have:=k5 u q
  rw [show i - 1 - u=i - u - 1 by exact L8 h1,show j - 1 - u=j - u - 1 by exact L8 h2]at this
  exact (h6 ⟨by exact Ot k3 q,by exact Ot k4 q,this.1,this.2⟩).Q2m
 ·exact q
 ·have:=h5 u' q
  rw [show i - 1 - u'=i - u' - 1 by exact L8 k1,show j - 1 - u'=j - u' - 1 by exact L8 k2]at this
  exact (k6 ⟨by exact Ot h3 q,by exact Ot h4 q,this.1,this.2⟩).Q2m
theorem Ke.uniq {w:Win} {i j r r':QH} (h:Ke M U w i j r) (k:Ke M U w i j r'):r=r':=by
 injections M U w i j r r' _ _
 obtain ⟨h1,h2,h3⟩:=h
 obtain ⟨k1,k2,k3⟩:=k
 rcases Q40 r r' with q | q | q
 ·have:=k2 r q
  rcases k1 with k1 | zR
  ·exact XF q (k1▸YR r)
  ·obtain ⟨k4,k5⟩:=zR
   exact (h3 ⟨QP (Q35 q i) k4,QP (Q35 q j) k5,this.1,this.2⟩).Q2m
 ·exact q
 ·have:=h2 r' q
  rcases h1 with h1 | zR
  ·exact XF q (h1▸YR r')
  ·obtain ⟨h4,h5⟩:=zR
   exact (k3 ⟨QP (Q35 q i) h4,QP (Q35 q j) h5,this.1,this.2⟩).Q2m
theorem Flm.uniq {w:Win} {i j k i' j' k':QH} (h:Flm M U w i j k) (h':Flm M U w i' j' k'):i=i'/\j=j'/\k=k':=by
 obtain (⟨b,u,r,h1,h2,h3,QA,QA,QA⟩):=h
 obtain (⟨b',u',r',k1,k2,k3,QA,QA,QA⟩):=h'
 have e:=h1.uniq k1
 subst e
 have e:=h2.uniq k2
 subst e
 have e:=h3.uniq k3
 subst e
 exact ⟨QA,QA,QA⟩
theorem Blk.uniq {w:Win} {L:QC Ap} (h:Blk M U w L):∀ {L':QC Ap},Blk M U w L'->L=L':=by
 induction h with
 | leaf hf =>
  intro L' h'
  cases h' with
  | leaf _=>rfl
  | node hf' hk _ _ _ _=>exact XF (QHi hf').2.2 (Xv hk)
 | @node w i j k l1 l2 hf hk c1 n1 c2 n2 ih1 ih2 =>
  intro L' h'
  cases h' with
  | leaf hf'=>exact XF (QHi hf').2.2 (Y8 hk)
  | @node _ i' j' k' l1' l2' hf' hk' c1' n1' c2' n2' =>
   refine an3 (QHi hf') fun yq03 yq04 yq05=>?_;obtain QA:=yq03;obtain QA:=yq04;obtain QA:=yq05
   have e1:l1=l1':=by
    by_cases q:Y0 < i/\Y1 < j
    ·exact ih1 q (c1' q)
    ·rw [n1 q,n1' q]
   have e2:l2=l2':=by
    by_cases q:i+k < Q0R/\j+k < Q0I
    ·exact ih2 q (c2' q)
    ·rw [n2 q,n2' q]
   rw [e1,e2]
theorem Gmb.uniq {la lb:QH} {R R':QC Ap} (h:Gmb M U la lb R) (h':Gmb M U la lb R'):R=R':=by
 obtain (⟨L,h1,QA⟩):=h
 obtain (⟨L',k1,QA⟩):=h'
 rw [h1.uniq k1]
end
end
mutual
structure Grow (M M':QH->QH->Qu) (U U':QH->Qu) (e s:QH->QH):Prop where
 e0:e 0=0
 s0:s 0=0
 eup:∀i,e i < e (i+1)
 sup:∀j,s j < s (j+1)
 same:∀i j x y,e i<=x->x < e (i+1)->s j<=y->y < s (j+1)->M' x y=M i j/\U' y=U j
 Q7d:∀i j,M i j=QM->U j=QJ->e (i+1)=e i+1/\s (j+1)=s j+1
 times:∀i j,M i j=QM->e (i+1)+s j=s (j+1)+e i
theorem HA {e:QH->QH} (h:∀i,e i < e (i+1)):∀i n,e i+n<=e (i+n)
 | i,0=>Qh _
 | i,n+1=>by have:=HA h i n;have:=h (i+n);show e i+(n+1)<=e (i+n+1);exact ahl (by assumption) this
theorem BA {e:QH->QH} (h:∀i,e i < e (i+1)) {i j:QH} (q:i<=j):e i+(j - i)<=e j:=by
 have:=HA h i (j - i)
 rwa [show i+(j - i)=j by exact abN q]at this
theorem At {e:QH->QH} (h:∀i,e i < e (i+1)) {i j:QH}:e i < e j↔i < j:=by
 constructor
 ·intro q
  by_cases c:j<=i
  ·have:=BA h c;exact ahk q this
  ·exact Tm c
 ·intro q;have:=BA h (X7 q);exact ahj q this
theorem Bo {e:QH->QH} (h:∀i,e i < e (i+1)) {i j:QH}:e i<=e j↔i<=j:=Nat.not_lt.symm.trans ((not_congr (At h)).QR Nat.not_lt)
theorem GW {e:QH->QH} (h:∀i,e i < e (i+1)) {i j:QH}:e i=e j↔i=j:=⟨fun q=>Nat.le_antisymm ((Bo h).mp (Q20 q)) ((Bo h).mp (Q20 q.symm)),fun q=>q▸QA⟩
theorem DC {e:QH->QH} (h:∀i,e i < e (i+1)) (h0:e 0=0) (x:QH):∃i,e i<=x/\x < e (i+1):=by
 have:∀n,x < e n->∃i,e i<=x/\x < e (i+1):=by
  intro n
  induction n with
  | Q1x=>intro q;exact XF (h0▸q) (YR x)
  | Q1y n ih =>
   intro q
   by_cases c:x < e n
   ·exact ih c
   ·exact ⟨n,by exact L6 c,q⟩
 have k:=HA h 0 (x+1)
 exact this (0+(x+1)) (by exact ahh k)
theorem Fh {e:QH->QH} (h:∀i,e i < e (i+1)) {i a x:QH} (h1:e i<=x) (h2:x < e (i+1)):e a<=x↔a<=i:=by
 constructor
 ·intro q
  by_cases c:i+1<=a
  ·have:=BA h c;exact ahg h2 q this
  ·exact ahf c
 ·intro q;have:=BA h q;exact ahe h1 this
theorem Mr {e:QH->QH} (h:∀i,e i < e (i+1)) {i a x:QH} (h1:e i<=x) (h2:x < e (i+1)):x < e a↔i < a:=Nat.not_le.symm.trans ((not_congr (Fh h h1 h2)).QR Nat.not_le)
end
section
variable {M M':Nat->Nat->Bool} {U U':Nat->Bool} {e s:Nat->Nat} (g:Grow M M' U U' e s)
include g
mutual
theorem Grow.run0 (a0 b0 i:QH) (ih:∀k,i=k+1->∀j x y,e k<=x->x < e (k+1)->s j<=y->y < s (j+1)->An M' U' (e a0) (s b0) x y=An M U a0 b0 k j) (j x y:QH) (h1:e i<=x) (h2:x < e (i+1)) (h3:s j<=y) (h4:y < s (j+1)):An M' U' (e a0) (s b0) x y=An M U a0 b0 i j:=by
  obtain (⟨m,u⟩):=QFH i j x y h1 h2 h3 h4
  have hq:(M i j=QM/\U j=QJ/\e a0<=x/\s b0<=y)↔(M i j=QM/\U j=QJ/\a0<=i/\b0<=j):=by rw [Fh Q0a h1 h2,Fh Q2H h3 h4]
  rw [AQ,AQ M U,m,u]
  by_cases q:M i j=QM/\U j=QJ/\a0<=i/\b0<=j
  ·rw [QY q,QY (hq.mpr q)]
   obtain (⟨k1,k2⟩):=g.seen i j q.1 q.2.1
   congr 1
   have ex:x=e i:=by exact aaJ h1 h2 k1
   have ey:y=s j:=by exact aaJ h3 h4 k2
   subst ex;subst ey
   cases i with
   | Q1x=>rw [g.e0];rfl
   | Q1y i =>
    cases j with
    | Q1x=>rw [g.s0];cases e (i+1) <;> rfl
    | Q1y j =>
     have p1:=Q0a i
     have p2:=Q2H j
     obtain ⟨X,hX⟩:∃X,e (i+1)=X+1:=⟨e (i+1) - 1,by exact aaC p1⟩
     obtain ⟨Y,hY⟩:∃Y,s (j+1)=Y+1:=⟨s (j+1) - 1,by exact aaC p2⟩
     rw [hX,hY]
     exact ih i QA j X Y (by exact aat p1 hX) (by exact aam hX) (by exact aat p2 hY) (by exact aam hY)
  ·rw [QN q,QN fun z=>q (hq.mp z)]
theorem Grow.run (a0 b0:QH):∀(i j x y:QH),e i<=x->x < e (i+1)->s j<=y->y < s (j+1)->An M' U' (e a0) (s b0) x y=An M U a0 b0 i j:=by
 intro i
 induction i with
 | Q1x=>exact g.run0 a0 b0 0 fun k h=>nomatch h
 | Q1y i ih=>exact g.run0 a0 b0 (i+1) fun k h=>by cases h;exact ih
theorem Grow.dia {p q:QH}:∀ {n:QH},(∀t,t < n->M (p+t) (q+t)=QM)->e (p+n)+s q=s (q+n)+e p
 | 0,_=>by rw [Q0j,Q0j];exact ahd
 | n+1,h=>by
  have ih:=Grow.dia (n:=n) fun t ht=>h t (by exact Le ht)
  have:=g.times _ _ (h n (by exact Hq))
  exact ahc ih this
theorem Grow.diaS {p q:QH}:∀ {n:QH},(∀t,t < n->M (p+t) (q+t)=QM/\U (q+t)=QJ)->e (p+n)=e p+n/\s (q+n)=s q+n
 | 0,_=>⟨QA,QA⟩
 | n+1,h=>by
  have ih:=Grow.diaS (n:=n) fun t ht=>h t (by exact Le ht)
  have:=g.seen _ _ (h n (by exact Hq)).1 (h n (by exact Hq)).2
  exact ⟨WI ih.1 this.1,WI ih.2 this.2⟩
theorem Grow.diaC {p q n:QH} (h:∀t,t < n->M (p+t) (q+t)=QM) {D:QH} (hD:e p+D < e (p+n)):∃t,t < n/\e (p+t)<=e p+D/\e p+D < e (p+t+1)/\s (q+t)<=s q+D/\s q+D < s (q+t+1):=by
 refine ew1 (DC Q0a g.e0 (e p+D)) fun i yq06=>?_;refine an2 yq06 fun h1 h2=>?_;clear yq06
 have a1:=(Fh Q0a h1 h2 (a:=p)).mp (Q2n _ _)
 have a2:=(Mr Q0a h1 h2 (a:=p+n)).mp hD
 obtain ⟨t,QA⟩:∃t,i=p+t:=⟨i - p,by exact ahb a1⟩
 have d1:=g.dia (p:=p) (q:=q) (n:=t) fun u hu=>h u (by exact aha a2 hu)
 have d2:=g.dia (p:=p) (q:=q) (n:=t+1) fun u hu=>h u (by exact ag9 a2 hu)
 rw [<- Q2O,<- Q2O]at d2
 exact ⟨t,by exact ag8 a2,h1,h2,by exact ag7 h1 d1,by exact ag6 h2 d2⟩
def mvW (e s:QH->QH) (w:Win):Win:=⟨e Y0,e Q0R,s Y1,s Q0I⟩
omit g in
theorem KM (w:Win):(mvW e s w).alo=e Y0:=QA
omit g in
theorem KL (w:Win):(mvW e s w).blo=s Y1:=QA
theorem Grow.cells {w:Win} {i j x y:QH} (h1:e i<=x) (h2:x < e (i+1)) (h3:s j<=y) (h4:y < s (j+1)):(mvW e s w).cells x y↔QC4 i j:=by
 unfold QBH mvW
 rw [Fh Q0a h1 h2,Mr Q0a h1 h2,Fh Q2H h3 h4,Mr Q2H h3 h4]
theorem Grow.runE {a0 b0 x y:QH} (h:0 < An M U a0 b0 x y):e (x+1 - An M U a0 b0 x y)+An M U a0 b0 x y=e (x+1)/\s (y+1 - An M U a0 b0 x y)+An M U a0 b0 x y=s (y+1)/\e (x+1)=e x+1/\s (y+1)=s y+1:=by
 injections M M' U U' e s _ a0 b0 x y _
 generalize hr:An M U a0 b0 x y=r at *
 have c:=fun t (ht:t < r)=>DD M U a0 b0 x y t (by exact Tl hr ht)
 have c0:=c 0 h
 have cl:=c (r - 1) (by exact zq6 h)
 have d:=g.diaS (p:=x+1 - r) (q:=y+1 - r) (n:=r) fun t ht=>by
  refine an7 (c (r - 1 - t) (by exact V1 ht)) fun z1 z2 z3 z4 z5 z6 _=>?_
  rw [show x+1 - r+t=x - (r - 1 - t) by exact VS cl.1 ht,show y+1 - r+t=y - (r - 1 - t) by exact VS cl.2.1 ht]
  exact ⟨z5,z6⟩
 rw [show x+1 - r+r=x+1 by exact VK cl.2.2.1,show y+1 - r+r=y+1 by exact VK cl.2.2.2.1]at d
 have:=g.seen x y c0.2.2.2.2.1 c0.2.2.2.2.2.1
 exact ⟨VE d.1,VE d.2,Vu this.1,Vu this.2⟩
theorem Grow.bst {w:Win} {b:QH×QH×QH} (h:Bst M U Y0 Y1 QC4 b):Bst M' U' (mvW e s w).alo (mvW e s w).blo (mvW e s w).cells (e b.1,s b.2.1,b.2.2):=by
 injections M M' U U' e s _ w b _
 rw [KM,KL]
 rcases h with zR | zR
 ·obtain ⟨QA,h⟩:=zR
  refine .inl ⟨QA,?_⟩;intros x y q
  obtain ⟨i,i1,i2⟩:=(DC Q0a g.e0 x)
  obtain ⟨j,j1,j2⟩:=(DC Q2H g.s0 y)
  rw [g.run _ _ i j x y i1 i2 j1 j2]
  exact h i j ((QFI i1 i2 j1 j2).mp q)
 ·obtain ⟨x,y,h1,h2,QA,h3,h4⟩:=zR
  obtain ⟨f1,f2,f3,f4⟩:=(g.runE h2)
  have er:=g.run Y0 Y1 x y (e x) (s y) (Qh _) (Q0a x) (Qh _) (Q2H y)
  refine .inr ⟨e x,s y,(QFI (Qh _) (Q0a x) (Qh _) (Q2H y)).mpr h1,by rw [er];exact h2,?_,?_,?_⟩
  ·rw [er]
   show (e (x+1 - _),s (y+1 - _),_)=_
   have hl:=DR M U _ _ _ _ h2
   rw [show e (x+1 - An M U Y0 Y1 x y)=e x+1 - An M U Y0 Y1 x y by exact Vr f1 f3,show s (y+1 - An M U Y0 Y1 x y)=s y+1 - An M U Y0 Y1 x y by exact Vr f2 f4]
  ·intros x' y' q
   obtain ⟨i,i1,i2⟩:=(DC Q0a g.e0 x')
   obtain ⟨j,j1,j2⟩:=(DC Q2H g.s0 y')
   rw [er,g.run _ _ i j x' y' i1 i2 j1 j2]
   exact h3 i j ((QFI i1 i2 j1 j2).mp q)
  ·intros x' y' q l
   obtain ⟨i,i1,i2⟩:=(DC Q0a g.e0 x')
   obtain ⟨j,j1,j2⟩:=(DC Q2H g.s0 y')
   rw [er,g.run _ _ i j x' y' i1 i2 j1 j2]
   refine h4 i j ((QFI i1 i2 j1 j2).mp q) ?_
   have a1:=At Q0a (i:=i) (j:=x)
   have a2:=At Q2H (i:=j) (j:=y)
   rcases l with l | zR
   ·left;exact a1.mp (by exact Os i1 l)
   ·obtain ⟨QA,l⟩:=zR
    right
    refine ⟨?_,a2.mp (by exact Os j1 l)⟩
    have a3:=(Fh Q0a i1 i2 (a:=x)).mp (Qh _)
    have a4:=(Bo Q0a (i:=i) (j:=x)).mp i1
    exact ag5 a3 a4
theorem Grow.lft {w:Win} {i j u:QH} (h:Kf M U w i j u):Kf M' U' (mvW e s w) (e i) (s j) (e i - e (i - u))/\e i+s (j - u)=s j+e (i - u):=by
 injections M M' U U' e s _ w i j u _
 obtain ⟨h1,h2,h3,h4,h5,h6⟩:=h
 have hc:∀t,t < u->M (i - u+t) (j - u+t)=QM/\U (j - u+t)=QM:=by
  intros t ht
  have:=h5 (u - 1 - t) (by exact V1 ht)
  rwa [show i - 1 - (u - 1 - t)=i - u+t by exact Vk h1 ht,show j - 1 - (u - 1 - t)=j - u+t by exact Vk h2 ht]at this
 have d:=g.dia (p:=i - u) (q:=j - u) (n:=u) fun t ht=>(hc t ht).1
 rw [show i - u+u=i by exact Tk h1,show j - u+u=j by exact Tk h2]at d
 have m1:=BA Q0a (i:=i - u) (j:=i) (by exact Ld)
 have m2:=BA Q2H (i:=j - u) (j:=j) (by exact Ld)
 have m3:=(Bo Q0a (i:=Y0) (j:=i - u)).mpr (by exact ada h3)
 have m4:=(Bo Q2H (i:=Y1) (j:=j - u)).mpr (by exact ada h4)
 refine ⟨⟨by exact Ld,by exact ag4 d,?_,?_,?_,?_⟩,d⟩
 ·exact ag3 m1 m3
 ·exact ag2 d m1 m4
 ·intros t ht
  obtain ⟨t0,k1,k2,k3,k4,k5⟩:=g.diaC (p:=i - u) (q:=j - u) (n:=u) (fun t ht=>(hc t ht).1) (D:=e i - e (i - u) - 1 - t) (by rw [show i - u+u=i by exact Tk h1];exact ag1 ht)
  have:=QFH (i - u+t0) (j - u+t0) (e i - 1 - t) (s j - 1 - t) (by exact VC h3 h4 m1 ht k1 k2) (by exact VB h3 h4 m1 ht k1 k3) (by exact VA h3 h4 d m1 ht k1 k4) (by exact Vz h3 h4 d m1 ht k1 k5)
  rw [this.1,this.2]
  exact hc t0 k1
 ·intros Q2X
  obtain ⟨q1,q2,q3,q4⟩:=Q2X
  have q1':e Y0 < e (i - u):=by rw [KM]at q1;exact ag0 m1 q1
  have q2':s Y1 < s (j - u):=by rw [KL]at q2;exact agZ d m1 q2
  have r1:=(At Q0a).mp q1'
  have r2:=(At Q2H).mp q2'
  have p1:=Q0a (i - u - 1)
  have p2:=Q2H (j - u - 1)
  rw [show i - u - 1+1=i - u by exact Oq r1]at p1
  rw [show j - u - 1+1=j - u by exact Oq r2]at p2
  have:=QFH (i - u - 1) (j - u - 1) (e i - (e i - e (i - u)) - 1) (s j - (e i - e (i - u)) - 1) (by exact Vy m1 p1) (by rw [show i - u - 1+1=i - u by exact Oq r1];exact agY q1) (by exact Vx d m1 q2 p2) (by rw [show j - u - 1+1=j - u by exact Oq r2];exact agX d q2)
  rw [this.1]at q3
  rw [this.2]at q4
  exact h6 ⟨r1,r2,q3,q4⟩
theorem Grow.rgt {w:Win} {i j r:QH} (h:Ke M U w i j r):Ke M' U' (mvW e s w) (e i) (s j) (e (i+r) - e i)/\e (i+r)+s j=s (j+r)+e i:=by
 injections M M' U U' e s _ w i j r _
 obtain ⟨h1,h2,h3⟩:=h
 have d:=g.dia (p:=i) (q:=j) (n:=r) fun t ht=>(h2 t ht).1
 have m1:=BA Q0a (i:=i) (j:=i+r) (by exact Gc)
 have m2:=BA Q2H (i:=j) (j:=j+r) (by exact Gc)
 refine ⟨⟨?_,?_,?_⟩,d⟩
 ·rcases h1 with QA | zR
  ·left;rw [Q0j];exact agW
  ·obtain ⟨h1,h1'⟩:=zR
   right
   have:=(Bo Q0a).mpr h1
   have:=(Bo Q2H).mpr h1'
   exact ⟨agV m1 (by assumption),agU d m1 this⟩
 ·intros t ht
  obtain ⟨t0,k1,k2,k3,k4,k5⟩:=g.diaC (p:=i) (q:=j) (n:=r) (fun t ht=>(h2 t ht).1) (D:=t) (by exact UQ ht)
  have:=QFH (i+t0) (j+t0) (e i+t) (s j+t) k2 k3 k4 k5
  rw [this.1,this.2]
  exact h2 t0 k1
 ·intros Q6r
  obtain ⟨q1,q2,q3,q4⟩:=Q6r
  have q1':e (i+r) < e Q0R:=by unfold mvW at q1;dsimp only at q1;exact agT q1
  have q2':s (j+r) < s Q0I:=by unfold mvW at q2;dsimp only at q2;exact agS d m1 q2
  have p1:=Q0a (i+r)
  have p2:=Q2H (j+r)
  have:=QFH (i+r) (j+r) (e i+(e (i+r) - e i)) (s j+(e (i+r) - e i)) (by exact agR) (by exact agQ m1 p1) (by exact agP d) (by exact agO d m1 p2)
  rw [this.1]at q3
  rw [this.2]at q4
  exact h3 ⟨(At Q0a).mp q1',(At Q2H).mp q2',q3,q4⟩
theorem Grow.flm {w:Win} {i j k:QH} (h:Flm M U w i j k) (ha:Y0<=Q0R) (hb:Y1<=Q0I):Flm M' U' (mvW e s w) (e i) (s j) (e (i+k) - e i)/\e (i+k)+s j=s (j+k)+e i:=by
 injections M M' U U' e s _ w i j k _ _ _
 obtain ⟨b,u,r,h1,h2,h3,QA,QA,QA⟩:=h
 have b1:=g.bst h1
 obtain ⟨l1,l2⟩:=g.lft h2
 obtain ⟨r1,r2⟩:=g.rgt h3
 have hd:e (b.1+b.2.2)=e b.1+b.2.2/\s (b.2.1+b.2.2)=s b.2.1+b.2.2:=by
  rcases h1 with zR | zR
  ·obtain ⟨QA,_⟩:=zR
   exact ⟨QA,QA⟩
  ·obtain ⟨x,y,_,c2,QA,_⟩:=zR
   have hl:=DR M U _ _ _ _ c2
   obtain ⟨f1,f2,f3,f4⟩:=(g.runE c2)
   rw [show x+1 - An M U Y0 Y1 x y+An M U Y0 Y1 x y=x+1 by exact Ou hl.1,show y+1 - An M U Y0 Y1 x y+An M U Y0 Y1 x y=y+1 by exact Ou hl.2]
   exact ⟨UP f1,UP f2⟩
 obtain ⟨k1,k2,_⟩:=h2
 have e1:b.1 - u+(b.2.2+u+r)=b.1+b.2.2+r:=by exact UO k1
 have e2:b.2.1 - u+(b.2.2+u+r)=b.2.1+b.2.2+r:=by exact UO k2
 have m1:=BA Q0a (i:=b.1 - u) (j:=b.1) (by exact Ld)
 have m2:=BA Q0a (i:=b.1+b.2.2) (j:=b.1+b.2.2+r) (by exact agN)
 have m3:=BA Q2H (i:=b.2.1 - u) (j:=b.2.1) (by exact Ld)
 rw [e1,e2]
 refine ⟨⟨(e b.1,s b.2.1,b.2.2),e b.1 - e (b.1 - u),e (b.1+b.2.2+r) - e (b.1+b.2.2),b1,l1,?_,?_,?_,?_⟩,by exact agM l2 r2 hd.1 hd.2⟩
 ·skip
  rw [<- hd.1,<- hd.2]
  exact r1
 ·exact Vw e1 e2 m1
 ·exact Vv l2 e1 e2 m1
 ·exact Vt hd.1 e1 e2 m1 m2
def mvT (e s:QH->QH) (t:Ap):Ap:=(e t.1,s t.2.1,e (t.1+t.2.2) - e t.1)
def Jl (e s:QH->QH) (t:Ap):Prop:=e (t.1+t.2.2)+s t.2.1=s (t.2.1+t.2.2)+e t.1
theorem Grow.blk {w:Win} {L:QC Ap} (h:Blk M U w L):Y0<=Q0R->Y1<=Q0I->Blk M' U' (mvW e s w) (L.map (mvT e s))/\∀t∈L,Jl e s t:=by
 induction h with
 | leaf hf =>
  intro ha hb
  have:=(g.flm hf ha hb).1
  rw [Q0j,Q7G]at this
  exact ⟨.leaf this,fun t q=>(by cases q)⟩
 | @node w i j k l1 l2 hf hk c1 n1 c2 n2 ih1 ih2 =>
  intro ha hb
  obtain (⟨hf',hg⟩):=g.flm hf ha hb
  have m1:=BA Q0a (i:=i) (j:=i+k) (by exact Gc)
  have m2:=BA Q2H (i:=j) (j:=j+k) (by exact Gc)
  have x1:e i+(e (i+k) - e i)=e (i+k):=by exact SZ m1
  have x2:s j+(e (i+k) - e i)=s (j+k):=by exact SY hg x1
  refine ⟨?_,fun t ht=>?_⟩
  ·rw [Qt,XV]
   refine .node hf' (by show 0 < e (i+k) - e i;exact aeH hk m1 x1) (fun q=>?_) (fun q=>?_) (fun q=>?_) (fun q=>?_)
   ·have q':Y0 < i/\Y1 < j:=⟨(At Q0a).mp q.1,(At Q2H).mp q.2⟩
    exact (ih1 q' (X7 q'.1) (X7 q'.2)).1
   ·rw [n1 fun r=>q ⟨(At Q0a).mpr r.1,(At Q2H).mpr r.2⟩];rfl
   ·rw [x1,x2]at q ⊢
    have q':i+k < Q0R/\j+k < Q0I:=⟨(At Q0a).mp q.1,(At Q2H).mp q.2⟩
    exact (ih2 q' (X7 q'.1) (X7 q'.2)).1
   ·rw [x1,x2]at q
    rw [n2 fun r=>q ⟨(At Q0a).mpr r.1,(At Q2H).mpr r.2⟩];rfl
  ·rcases Y4 ht with q | q
   ·by_cases c:Y0 < i/\Y1 < j
    ·exact (ih1 c (X7 c.1) (X7 c.2)).2 t q
    ·rw [n1 c]at q;cases q
   ·rcases XT q with QA | q
    ·exact hg
    ·by_cases c:i+k < Q0R/\j+k < Q0I
     ·exact (ih2 c (X7 c.1) (X7 c.2)).2 t q
     ·rw [n2 c]at q;cases q
theorem QGX:∀(L:QC Ap) (c:Ap),Jl e s c->(∀t∈L,Jl e s t)->Q5d (mvT e s c) (L.map (mvT e s))=(Q5d c L).map (mvT e s)
 | [],c,hc,_=>by
  have:=At Q0a (i:=c.1) (j:=c.1+c.2.2)
  rw [Q54,Q5d,Q5d]
  by_cases q:c.2.2=0
  ·rw [QY q,QY (by unfold mvT;dsimp only;rw [q];simp)];rfl
  ·rw [QN q,QN (show ¬(mvT e s c).2.2=0 from Nat.sub_ne_zero_of_lt (this.mpr (Nat.lt_add_of_pos_right (Q3U q))))];rfl
 | t::r,c,hc,h=>by
  have ht:=h t (.Zf _)
  have m1:=BA Q0a (i:=c.1) (j:=c.1+c.2.2) (by exact Gc)
  have m2:=BA Q0a (i:=t.1) (j:=t.1+t.2.2) (by exact Gc)
  have m3:=BA Q2H (i:=c.2.1) (j:=c.2.1+c.2.2) (by exact Gc)
  unfold Jl at hc ht
  have x1:e c.1+(e (c.1+c.2.2) - e c.1)=e (c.1+c.2.2):=by exact SZ m1
  have x2:s c.2.1+(e (c.1+c.2.2) - e c.1)=s (c.2.1+c.2.2):=by exact SY hc x1
  have y1:=GW Q0a (i:=c.1+c.2.2) (j:=t.1)
  have y2:=GW Q2H (i:=c.2.1+c.2.2) (j:=t.2.1)
  rw [XV,Q5d,Q5d]
  have e1:((mvT e s c).1+(mvT e s c).2.2=(mvT e s t).1/\(mvT e s c).2.1+(mvT e s c).2.2=(mvT e s t).2.1)↔(c.1+c.2.2=t.1/\c.2.1+c.2.2=t.2.1):=by
   unfold mvT;dsimp only
   rw [x1,x2,y1,y2]
  by_cases q:c.1+c.2.2=t.1/\c.2.1+c.2.2=t.2.1
  ·rw [QY q,QY (e1.mpr q)]
   have z1:c.1+(c.2.2+t.2.2)=t.1+t.2.2:=by exact SX q.1
   have z2:c.2.1+(c.2.2+t.2.2)=t.2.1+t.2.2:=by exact SX q.2
   have w1:e (c.1+c.2.2)=e t.1:=by rw [q.1]
   have w2:s (c.2.1+c.2.2)=s t.2.1:=by rw [q.2]
   have hm:mvT e s (c.1,c.2.1,c.2.2+t.2.2)=((mvT e s c).1,(mvT e s c).2.1,(mvT e s c).2.2+(mvT e s t).2.2):=by
    unfold mvT;dsimp only
    rw [z1]
    have:e (t.1+t.2.2) - e c.1=e (c.1+c.2.2) - e c.1+(e (t.1+t.2.2) - e t.1):=by exact Vs m2 x1 w1
    rw [this]
   rw [<- hm]
   exact QGX r _ (by unfold Jl;dsimp only;rw [z1,z2];exact aeG hc ht w1 w2) fun u hu=>h u (.Q38 _ hu)
  ·rw [QN q,QN fun x=>q (e1.mp x),Qt,QGX r t ht fun u hu=>h u (.Q38 _ hu)]
   congr 1
   have:=At Q0a (i:=c.1) (j:=c.1+c.2.2)
   by_cases z:c.2.2=0
   ·rw [QY z,QY (by unfold mvT;dsimp only;rw [z];simp)];rfl
   ·rw [QN z,QN (by unfold mvT;dsimp only;exact aeF m1 x1 z)];rfl
theorem Grow.gmb {la lb:QH} {R:QC Ap} (h:Gmb M U la lb R):Gmb M' U' (e la) (s lb) (R.map (mvT e s))/\∃n,n<=la/\∀L',Blk M' U' ⟨0,e la,0,s lb⟩ L'->L'.length=n:=by
 injections M M' U U' e s _ la lb R _
 obtain ⟨L,hB,QA⟩:=h
 obtain ⟨k1,k2⟩:=g.blk hB (XQ _) (XQ _)
 have hw:mvW e s ⟨0,la,0,lb⟩=⟨0,e la,0,s lb⟩:=by unfold mvW;dsimp only;rw [g.e0,g.s0]
 rw [hw]at k1
 have hc:mvT e s (0,0,0)=(0,0,0):=by unfold mvT;dsimp only;rw [g.e0,g.s0]
 have hm:=g.mrg L (0,0,0) (by show e (0+0)+s 0=s (0+0)+e 0;rw [Q0j,g.e0,g.s0]) k2
 rw [hc]at hm
 refine ⟨⟨_,k1,?_⟩,Q6l,?_,?_⟩
 ·rw [Qt,<- hm]
  congr 1
  show [mvT e s (la,lb,0)]=_
  unfold mvT;dsimp only
  rw [Q0j,Q7G]
 ·have Q9j:=QBK (XQ _) (XQ _)
  have:=CJ (L:=L) (a:=0) (n:=la) (fun t ht=>by have:=Q9j.1 t ht;dsimp only at this;exact ⟨zq8,DK this.2.1,Lf this.2.2.2.2⟩) (Q9j.2.imp fun r=>r.1)
  exact this
 ·intros L' h'
  rw [h'.uniq k1,QK]
end
end
section
variable (M:Nat->Nat->Bool) (U:Nat->Bool)
noncomputable def Gap (x y i j:Nat):Prop:=M x y=false/\∀u v,x<=u->u < i->y<=v->v < j->¬(M u v=true/\U v=false)
noncomputable def CQ (hi hj:Nat):Nat->Nat->List Ap->Prop
 | x,y,[]=>x < hi/\y < hj->Gap M U x y hi hj
 | x,y,t::r=>(x < t.1/\y < t.2.1->Gap M U x y t.1 t.2.1/\M (t.1 - 1) (t.2.1 - 1)=false)/\CQ hi hj (t.1+t.2.2) (t.2.1+t.2.2) r
variable {M U}
mutual
theorem CQ.app {hi hj i j k a b:QH} {l2:QC Ap} (hl:a < i/\b < j->M (i - 1) (j - 1)=QM->U (j - 1)=QJ) (h2:CQ M U hi hj (i+k) (j+k) l2) :
  ∀ {x y:QH} {l1:QC Ap},a<=x->b<=y->(∀t∈l1,a<=t.1/\b<=t.2.1)->CQ M U i j x y l1->CQ M U hi hj x y (l1++(i,j,k)::l2)
 | x,y,[],hx,hy,_,h=>by
  refine ⟨fun q=>⟨h q,?_⟩,h2⟩
  dsimp only at q ⊢
  cases hm:M (i - 1) (j - 1) with
  | QJ=>rfl
  | QM=>exact ((h q).2 (i - 1) (j - 1) (by exact SW q.1) (by exact SV q.1) (by exact SW q.2) (by exact SV q.2) ⟨hm,hl (by exact ⟨Os hx q.1,Os hy q.2⟩) hm⟩).Q2m
 | x,y,t::r,hx,hy,ht,h=>⟨h.1,CQ.app hl h2 (by have:=ht t (.Zf _);exact SU this.1) (by have:=ht t (.Zf _);exact SU this.2) (fun u hu=>ht u (.Q38 _ hu)) h.2⟩
theorem Flm.leaf {w:Win} {i j:QH} (h:Flm M U w i j 0) (ha:Y0<=Q0R) (hb:Y1<=Q0I):Y0 < Q0R/\Y1 < Q0I->Gap M U Y0 Y1 Q0R Q0I:=by
 injections M U w i j _ _ _
 intros q
 obtain ⟨b,u,r,h1,h2,h3,QA,QA,h4⟩:=h
 have h4:b.2.2=0/\u=0/\r=0:=by exact ⟨aeE h4,aeD h4,aeC h4⟩
 rcases h1 with zR | zR
 ·obtain ⟨QA,h1⟩:=zR
  obtain ⟨_,QA,QA⟩:=h4
  have hn:∀u v,Y0<=u->u < Q0R->Y1<=v->v < Q0I->¬(M u v=QM/\U v=QJ):=by
   intros u v a1 a2 a3 a4 m
   have:=h1 u v ⟨a1,a2,a3,a4⟩
   rw [AQ,QY ⟨m.1,m.2,a1,a3⟩]at this
   exact adB this
  refine ⟨?_,hn⟩
  cases hm:M Y0 Y1 with
  | QJ=>rfl
  | QM =>
   cases hu:U Y1 with
   | QJ=>exact (hn _ _ (Qh _) q.1 (Qh _) q.2 ⟨hm,hu⟩).Q2m
   | QM=>exact (h3.2.2 ⟨q.1,q.2,hm,hu⟩).Q2m
 ·obtain ⟨x,y,c1,c2,QA,_⟩:=zR
  exact XF h4.1 (Y8 c2)
theorem Blk.gaps {w:Win} {L:QC Ap} (h:Blk M U w L):Y0<=Q0R->Y1<=Q0I->CQ M U Q0R Q0I Y0 Y1 L:=by
 induction h with
 | leaf hf=>intro ha hb;exact hf.leaf ha hb
 | @node w i j k l1 l2 hf hk c1 n1 c2 n2 ih1 ih2 =>
  intro ha hb
  have hi:=QEI ha hb
  refine CQ.app (a:=Y0) (b:=Y1) (fun c hm=>?_) ?_ (Qh _) (Qh _) (fun t ht=>?_) ?_
  ·obtain (⟨b,u,r,h1,h2,h3,QA,QA,QA⟩):=hf
   cases hu:U (b.2.1 - u - 1) with
   | QJ=>rfl
   | QM=>exact (h2.2.2.2.2.2 ⟨c.1,c.2,hm,hu⟩).Q2m
  ·by_cases c:i+k < Q0R/\j+k < Q0I
   ·exact ih2 c (X7 c.1) (X7 c.2)
   ·rw [n2 c];intro q;exact (c q).Q2m
  ·by_cases c:Y0 < i/\Y1 < j
   ·have:=((c1 c).inside (X7 c.1) (X7 c.2)).1 t ht
    exact ⟨Hr this.1,Hr this.2.2.1⟩
   ·rw [n1 c]at ht;cases ht
  ·by_cases c:Y0 < i/\Y1 < j
   ·exact ih1 c (X7 c.1) (X7 c.2)
   ·rw [n1 c];intro q;exact (c q).Q2m
theorem QFJ {hi hj:QH}:∀ {L:QC Ap} {c:Ap} {x y:QH},(∀t∈L,0 < t.2.2)->(c.2.2=0->c.1=x/\c.2.1=y)->(x < c.1/\y < c.2.1->Gap M U x y c.1 c.2.1/\M (c.1 - 1) (c.2.1 - 1)=QJ)->CQ M U hi hj (c.1+c.2.2) (c.2.1+c.2.2) L->CQ M U hi hj x y (mrg c L)
 | [],c,x,y,_,h0,hg,h=>by
  unfold Q5d
  by_cases q:c.2.2=0
  ·rw [QY q]
   rw [q]at h
   obtain (⟨QA,QA⟩):=h0 q
   exact h
  ·rw [QN q];exact ⟨hg,h⟩
 | t::r,c,x,y,hp,h0,hg,h=>by
  have tp:=hp t (.Zf _)
  unfold Q5d
  by_cases q:c.1+c.2.2=t.1/\c.2.1+c.2.2=t.2.1
  ·rw [QY q]
   refine QFJ (fun u hu=>hp u (.Q38 _ hu)) (fun z=>?_) hg ?_
   ·exact ⟨SS tp z,SS tp z⟩
   ·have:=h.2
    rwa [<- q.1,<- q.2,Q2O,Q2O]at this
  ·rw [QN q]
   by_cases z:c.2.2=0
   ·rw [QY z]
    obtain (⟨QA,QA⟩):=h0 z
    rw [z]at h
    exact QFJ (fun u hu=>hp u (.Q38 _ hu)) (fun z=>by exact ⟨PQ tp z,PQ tp z⟩) h.1 h.2
   ·rw [QN z]
    exact ⟨hg,QFJ (fun u hu=>hp u (.Q38 _ hu)) (fun z=>by exact ⟨PP tp z,PP tp z⟩) h.1 h.2⟩
def Jm (M:QH->QH->Qu) (U:QH->Qu):QH->QH->QC Ap->Prop
 | _,_,[]=>Q44
 | x,y,t::r=>(x < t.1/\y < t.2.1->Gap M U x y t.1 t.2.1/\(0 < t.2.2->M (t.1 - 1) (t.2.1 - 1)=QJ))/\Jm M U (t.1+t.2.2) (t.2.1+t.2.2) r
theorem CQ.ends {hi hj:QH}:∀ {L:QC Ap} {x y:QH},CQ M U hi hj x y L->Jm M U x y (L++[(hi,hj,0)])
 | [],x,y,h=>⟨fun q=>⟨h q,fun z=>XF z (XO _)⟩,ZQ⟩
 | t::r,x,y,h=>⟨fun q=>⟨(h.1 q).1,fun _=>(h.1 q).2⟩,CQ.ends h.2⟩
theorem Gmb.gaps {la lb:QH} {R:QC Ap} (h:Gmb M U la lb R):Jm M U 0 0 R:=by
 obtain (⟨L,hB,QA⟩):=h
 have Q9j:=QBK (XQ _) (XQ _)
 exact (QFJ (c:=(0,0,0)) (x:=0) (y:=0) (fun t ht=>(Q9j.1 t ht).2.2.2.2) (fun _=>⟨QA,QA⟩) (fun q=>XF q.1 (XO _)) (hB.gaps (XQ _) (XQ _))).ends
end
end
end Mini
end
section
namespace Mini
noncomputable def eOf (tm:Nat->Nat) (a:List Nat) (i:Nat):Nat:=((a.take i).map tm).sum+(i - a.length)
noncomputable def grown {α:Type} (tm:Nat->Nat) (f:Nat->α) (a:List Nat):List α:=a.flatMap fun k=>List.replicate (tm k) (f k)
section
variable {tm:Nat->Nat}
mutual
theorem C8 (a:QC QH):eOf tm a 0=0:=by unfold eOf;simp
theorem Cz (k:QH) (a:QC QH) (i:QH):eOf tm (k::a) (i+1)=tm k+eOf tm a i:=by
 unfold eOf
 rw [Q8r,XV,Zu,Xg];exact aeB
def Gh (tm:QH->QH) (a:QC QH) (i:QH):QH:=match a[i]? with
 | QB k=>tm k
 | QG=>1
theorem Cy:∀(a:QC QH) (i:QH),eOf tm a (i+1)=eOf tm a i+Gh tm a i
 | [],i=>by unfold eOf Gh;simp
 | k::a,0=>by rw [Cz,C8,C8];unfold Gh;simp
 | k::a,i+1=>by
  rw [Cz,Cz,Cy a i]
  have:Gh tm (k::a) (i+1)=Gh tm a i:=by unfold Gh;rw [Q6m]
  exact aeA this
theorem JX (ht:∀k,1<=tm k) (a:QC QH) (i:QH):eOf tm a i < eOf tm a (i+1):=by
 rw [Cy]
 have:1<=Gh tm a i:=by unfold Gh;split;exact ht _;exact Qh _
 exact aez this
theorem Ep {α:Type} (f:QH->α):∀(a:QC QH) (i x:QH),eOf tm a i<=x->x < eOf tm a (i+1)->(Q0J tm f a)[x]?=(a[i]?).map f
 | [],i,x,_,_=>by simp [Q0J]
 | k::a,0,x,_,h=>by
  rw [Cz,C8]at h
  unfold Q0J
  rw [Q0V,Q5l (by rw [Q0A];omega),List.getElem?_replicate,QY (by omega)];rfl
 | k::a,i+1,x,h,h2=>by
  rw [Cz]at h h2
  have ih:=Ep f a i (x - tm k) (by exact aey h) (by exact aex h h2)
  unfold Q0J at ih ⊢
  rw [Q0V,Q5e (by rw [Q0A];exact GQ h),Q0A,ih,Q6m]
theorem Dj {α:Type} (f:QH->α):∀(a:QC QH),(Q0J tm f a).ZT=eOf tm a ZI
 | []=>by simp [Q0J,eOf]
 | k::a=>by
  rw [Xg,Cz,<- Dj f a]
  unfold Q0J
  rw [Q0V,Xz,Q0A]
theorem JY (hb:∀k,tm k<=3) (a:QC QH):eOf tm a ZI<=3*ZI:=by
 unfold eOf
 rw [Q0u,Q7G]
 induction a with
 | Zo=>simp
 | Xx k a ih=>rw [XV,Zu,Xg];have:=hb k;exact aew ih this
end
end
section
variable {α β:Type} [DecidableEq α] [DecidableEq β]
mutual
def Mq (A B:QC α) (i j:QH):Qu:=match A[i]?,B[j]? with
 | QB x,QB y=>XY (x=y)
 | _,_=>QJ
def Uq (B:QC α) (J:α->Qu) (j:QH):Qu:=match B[j]? with
 | QB x=>J x
 | QG=>QJ
theorem H2 (f:QH->α) (a b:QC QH) (i j:QH) (hf:∀x∈a,∀y∈b,f x=f y->x=y):Mq (a.map f) (b.map f) i j=Mq a b i j:=by
 unfold Mq
 rw [QT,QT]
 cases e1:a[i]? with
 | QG=>rfl
 | QB x =>
  cases e2:b[j]? with
  | QG=>rfl
  | QB y =>
   have:=hf x (XG e1) y (XG e2)
   exact Q1P ⟨this,fun h=>by rw [h]⟩
theorem Pf {tm:QH->QH} {f:QH->α} {g:QH->β} {J:α->Qu} {J':β->Qu} {a b:QC QH} (ht:∀k,1<=tm k) (hs:∀k,k < 3->tm k=1) (hf:∀x∈a,∀y∈b,f x=f y->x=y) (hg:∀x∈a,∀y∈b,g x=g y->x=y)
  (hJ:∀y∈b,J (f y)=XY (2 < y)) (hJ':∀y∈b,J' (g y)=XY (2 < y)) :
  Grow (Mq (a.map f) (b.map f)) (Mq (Q0J tm g a) (Q0J tm g b)) (Uq (b.map f) J) (Uq (Q0J tm g b) J') (eOf tm a) (eOf tm b) where
 e0:=C8 a
 s0:=C8 b
 eup:=JX ht a
 sup:=JX ht b
 same:=fun i j x y h1 h2 h3 h4=>by
  rw [H2 f a b i j hf]
  unfold Mq Uq
  rw [Ep g a i x h1 h2,Ep g b j y h3 h4,QT]
  cases e2:b[j]? with
  | QG=>cases a[i]? <;> exact ⟨QA,QA⟩
  | QB y =>
   refine ⟨?_,?_⟩
   ·cases e1:a[i]? with
    | QG=>rfl
    | QB x =>
     have:=hg x (XG e1) y (XG e2)
     exact Q1P ⟨this,fun h=>by rw [h]⟩
   ·show J' (g y)=J (f y)
    rw [hJ y (XG e2),hJ' y (XG e2)]
 Q7d:=fun i j hm hu=>by
  rw [H2 f a b i j hf]at hm
  rw [Cy,Cy]
  unfold Mq at hm
  unfold Uq at hu
  rw [QT]at hu
  unfold Gh
  split at hm
  ·rename_i x y e1 e2
   rw [e2]at hu
   rw [e1,e2]
   have:=YG hm
   subst this
   have hu:J (f x)=QJ:=hu
   rw [hJ x (XG e2)]at hu
   have:=ZN hu
   have:=hs x (by exact aev this)
   dsimp only;exact ⟨SR this,SR this⟩
  ·cases hm
 times:=fun i j hm=>by
  rw [H2 f a b i j hf]at hm
  rw [Cy,Cy]
  unfold Mq at hm
  unfold Gh
  split at hm
  ·rename_i x y e1 e2
   rw [e1,e2]
   have:=YG hm
   subst this
   dsimp only;exact aeu
  ·cases hm
end
end
end Mini
end
section
open PySem
namespace Mini
mutual
def rep (m c:QH):QC QH:=Q10 m c
def DS (w v n m:QH):QH->QC QH
 | 0=>35::(rep m w++[35])
 | 1=>w::n::(rep (m % 2) 35++[v])
 | 2=>35::n::rep m w
 | 3=>rep m w
 | 4=>rep m w++[v]
 | 5=>rep m w++35::rep (m % 2) v
 | _=>v::35::v::rep m w
def nsp (l:QC QH):QC QH:=l.filter fun c=>!Qr c
theorem O4 (a b:QC QH):nsp (a++b)=nsp a++nsp b:=Q5b ..
theorem Ht (l:QC QH):Ws l↔nsp l=[]:=by
 unfold Ws nsp
 rw [Q7F]
 simp
theorem aeM:Qr 35=QJ:=by decide +XD
theorem NC:∀(l:QC QH),Op l↔nsp l=[]\/nsp l=[35]:=by
 intro l
 constructor
 ·rintro (h | ⟨a,b,ha,hb,QA⟩)
  ·exact .inl ((Ht l).mp h)
  ·right
   rw [O4,(Ht a).mp ha]
   unfold nsp
   rw [Q1n,aeM]
   show 35::nsp b=_
   rw [(Ht b).mp hb]
 ·rintro (h | h)
  ·exact .inl ((Ht l).mpr h)
  ·right
   unfold nsp at h
   refine ew2 (List.filter_eq_cons_iff.mp h) fun a b yq0f=>?_;refine an3 yq0f fun h1 h2 h3=>?_;clear yq0f
   refine ⟨a,b,fun c hc=>?_,fun c hc=>?_,h1⟩
   ·have:=h2 c hc;simpa using this
   ·have:=List.filter_eq_nil_iff.mp h3.2 c hc;simpa using this
def cl (c:QH):QH:=if Qr c=QM then 0 else if c=35 then 1 else 2
theorem K4 {c:QH} (h:Qr c=QM):cl c=0:=QY h
theorem NV {c:QH} (h:Qr c=QJ):cl c=if c=35 then 1 else 2:=QN (by rw [h];exact Qj)
theorem Hn:cl 35=1:=(NV aeM).QR (QY QA)
theorem Th {c:QH} (h:Qr c=QJ) (k:c≠35):cl c=2:=(NV h).QR (QN k)
theorem Uj (c:QH):(cl c != 0)=!Qr c:=by
 cases h:Qr c with
 | QM=>rw [K4 h];rfl
 | QJ =>
  rw [NV h]
  by_cases k:c=35
  ·rw [QY k];rfl
  ·rw [QN k];rfl
theorem Ui {c:QH} (h:cl c=1):c=35:=by
 cases e:Qr c with
 | QM=>rw [K4 e]at h;exact nomatch h
 | QJ =>
  by_cases k:c=35
  ·exact k
  ·rw [Th e k]at h;exact nomatch h
theorem TY (l:QC QH):(nsp l).map cl=(QH0 cl).Q9R (· != 0):=by
 unfold nsp
 rw [List.filter_map]
 congr 1
 congr 1
 funext c
 exact (Uj c).Q37
def M4 (m:QH):QH->QC QH
 | 0=>1::(rep m 0++[1])
 | 1=>0::2::(rep (m % 2) 1++[0])
 | 2=>1::2::rep m 0
 | 3=>rep m 0
 | 4=>rep m 0++[0]
 | 5=>rep m 0++1::rep (m % 2) 0
 | _=>0::1::0::rep m 0
theorem M3:∀m,m < 3->∀k,k < 7->∀k',k' < 7->M4 m k=M4 m k'->k=k':=by decide +XD
theorem M2:∀m,m < 3->∀k,k < 7->(((M4 m k).Q9R (· != 0)=[]\/(M4 m k).Q9R (· != 0)=[1])↔2 < k):=by decide +XD
theorem CW (m c:QH):(rep m c).map cl=rep m (cl c):=Q9k
end
section
variable {w v n m:Nat} (hw:Unicode.isSpace w=true) (hv:Unicode.isSpace v=true) (hn:Unicode.isSpace n=false) (hn5:n≠35) (hm:m < 3)
include hw hv hn hn5
theorem Jy (k:Nat) (hk:k < 7):(DS w v n m k).map cl=M4 m k:=by
 injections w v n m _ _ _ _ k _
 have a:=K4 hw
 have b:=K4 hv
 have d:=Th hn hn5
 rcases k with _ | _ | _ | _ | _ | _ | _ | k
 ·show cl 35::List.map cl (rep m w++[35])=_;rw [List.map_append,CW,a];show cl 35::(_++[cl 35])=_;rw [Hn];rfl
 ·show cl w::cl n::List.map cl (rep (m % 2) 35++[v])=_;rw [List.map_append,CW,Hn,a,d];show _::_::(_++[cl v])=_;rw [b];rfl
 ·show cl 35::cl n::List.map cl (rep m w)=_;rw [CW,Hn,a,d];rfl
 ·show List.map cl (rep m w)=_;rw [CW,a];rfl
 ·show List.map cl (rep m w++[v])=_;rw [List.map_append,CW,a];show _++[cl v]=_;rw [b];rfl
 ·show List.map cl (rep m w++35::rep (m % 2) v)=_;rw [List.map_append,CW,a];show _++cl 35::List.map cl (rep (m % 2) v)=_;rw [CW,b,Hn];rfl
 ·show cl v::cl 35::cl v::List.map cl (rep m w)=_;rw [CW,a,b,Hn];rfl
 ·exact absurd hk (Nat.not_lt.mpr (Nat.le_add_left 7 k))
include hm
mutual
theorem OZ (k:QH) (hk:k < 7):((nsp (DS w v n m k)=[]\/nsp (DS w v n m k)=[35])↔2 < k):=by
 rw [<- M2 m hm k hk,<- Jy hw hv hn hn5 k hk,<- TY]
 constructor
 ·rintro (h | h)
  ·exact .inl (by rw [h];rfl)
  ·exact .inr (by rw [h];show [cl 35]=_;rw [Hn])
 ·rintro (h | h)
  ·exact .inl (List.map_eq_nil_iff.mp h)
  ·right
   rcases e:nsp (DS w v n m k) with _ | ⟨c,_ | ⟨d,r⟩⟩ <;> rw [e]at h
   ·exact nomatch h
   ·rw [Ui (QDb h).1]
   ·exact nomatch (QDb h).2
theorem IC (k:QH) (hk:k < 7):rxJ (DS w v n m k).Xe=XY (2 < k):=by
 have h:=OZ hw hv hn hn5 hm k hk
 rw [<- NC]at h
 cases e:rxJ (DS w v n m k).Xe with
 | QM=>exact (Yz (h.mp (MZ e))).Q37
 | QJ =>
  refine (Yl fun q=>?_).Q37
  rw [TL (h.mpr q)]at e;cases e
theorem O0 (k k':QH) (hk:k < 7) (hk':k' < 7) (h:DS w v n m k=DS w v n m k'):k=k':=by
 refine M3 m hm k hk k' hk' ?_
 rw [<- Jy hw hv hn hn5 k hk,h,Jy hw hv hn hn5 k' hk']
end
end
mutual
def Hz:QC QH:=[9,10,11,12,13,28,29,30,31,32,133,160,5760]++[8192,8193,8194,8195,8196,8197,8198,8199,8200,8201,8202]++[8232,8233,8239,8287,12288]
def Nm:QC QH:=[8,14,27,33,97,134,159,161,6158,5761,65279,8203,8231,8234,8238,8240,8286,8288,12287,12289]
theorem GU:∀c∈Hz,Qr c=QM:=by decide +XD
theorem IQ:∀c∈Nm,Qr c=QJ/\c≠35:=by decide +XD
end
end Mini
end
section
open PySem PySem.W PySem.Calls PyProof.Rows
namespace Mini
mutual
theorem D4 {α:Type} (xs:QC α) (a:QH):∀n,a+n<=Qn->((X6 n).map (a+·)).QDm (fun i=>xs[i]?)=(Q7C a).take n
 | 0,_=>by simp
 | n+1,h=>by
  rw [Q3M,Qt,List.filterMap_append,D4 xs a n (by exact acy h),Q00,Q3Z]
  have:xs[a+n]?=QB (xs[a+n]'(by exact acx h)):=Qg _
  simp [this]
theorem IE {α:Type} (xs:QC α) {a b:QH} (hab:a<=b) (hb:b<=Qn):Bm xs (QB (a:X4)) (QB (b:X4)) QG=(Q7C a).take (b - a):=by
 unfold Bm
 rw [Q68]
 dsimp only [Q8F]
 have e1:QAg Qn (a:X4)=a:=(Da ..).QR (Yk (Qz hab hb))
 have e2:QAg Qn (b:X4)=b:=(Da ..).QR (Yk hb)
 rw [e1,e2,Q5f]
 exact D4 xs a (b - a) (by exact acw hab hb)
theorem Ha {α:Type} (xs:QC α) {b:QH} (hb:b<=Qn):Bm xs QG (QB (b:X4)) QG=xs.take b:=by
 unfold Bm
 rw [Q68]
 dsimp only [Q8F]
 have e2:QAg Qn (b:X4)=b:=(Da ..).QR (Yk hb)
 rw [e2,Q5f]
 have:=D4 xs 0 (b - 0) (by exact acu hb)
 rw [QCe,Nat.sub_zero]at this
 exact this
theorem Ls {α:Type} (xs:QC α) (a:QH):Bm xs (QB (a:X4)) QG QG=Q7C a:=by
 unfold Bm
 rw [Q68]
 dsimp only [Q8F]
 by_cases h:a<=Qn
 ·have e1:QAg Qn (a:X4)=a:=(Da ..).QR (Yk h)
  rw [e1,Q5f,D4 xs a _ (by exact act h)]
  exact Q74 (by rw [Q1j];exact Qh _)
 ·have e1:QAg Qn (a:X4)=Qn:=(Da ..).QR (Q4C (Nat.le_of_not_le h))
  rw [e1,Q5f,Q7G,Q7H (by exact acs h)];rfl
def NX (sc:Q0M) (x:X8):Qu:=!(x == ("__debug__":X8))&&!(x == ("__classdict__":X8))&&(Q19 x == QB .YV || Q19 x == QB .QGB)
end
section
variable {G:Pg} {cal:Av} {n:Nat} {fm:Fm} {σ:Mini.St} {x y:Str} {p:Pos} {cl:List (Str×Nat)} {l k:Nat}
mutual
theorem ajv:QGY x ((x,l)::cl)=QB l:=by rw [Z5];simp
theorem aju (h:(x == y)=QJ) (q:QB4 x=QB l):QGY x ((y,k)::cl)=QB l:=by rw [Z5,h];exact q
theorem aiW {v:QU} {P:QU->QE->Prop} (h1:Q22 x=QB l) (h2:QS l=.YV (QB v)) (h:NX Zr x=QM) (q:P v σ):ev G YX (n+1) fm (.Q0y x p) σ P:=by
 simp only [NX,X9,ZD,Q2D,ZM]at h
 exact JW h.1.1 h.1.2 (T3 h.2 h1 h2 q)
theorem Kd {v:QU} {u:QW QU} {P:Yb->QE->Prop} (h1:Q22 x=QB l) (h2:QS l=.YV u) (h:(ZL x == QB .YV)=QM) (q:P () (Yy l (.YV (QB v)))):asg G YX (n+1) fm (.Q0y x p) v σ P:=by
 refine Om ?_
 unfold Br
 rw [Z4 h]
 dsimp only
 rw [h1];refine BD.mk h2 ?_;exact q
end
end
theorem CB (cm:Str->Option Val):∀(ns:List Str) (σ:Mini.St),(AA cm ns σ).nx=σ.nx+ns.length/\(AA cm ns σ).loc=σ.loc/\(∀l,l < σ.nx->(AA cm ns σ).hp l=σ.hp l)/\∀i x,ns[i]?=some x->(AA cm ns σ).hp (σ.nx+i)=.cell (cm x)
 | [],σ=>⟨rfl,rfl,fun _ _=>rfl,fun i x h=>by simp at h⟩
 | n::r,σ=>by
  refine an4 (CB cm r (σ.alloc (.cell (cm n)))) fun h1 h2 h3 h4=>?_
  show (AA cm r (σ.alloc (.cell (cm n)))).nx=_/\(AA cm r (σ.alloc (.cell (cm n)))).loc=_/\(∀l,_->(AA cm r (σ.alloc (.cell (cm n)))).hp l=_)/\∀i x,_->(AA cm r (σ.alloc (.cell (cm n)))).hp _=_
  rw [Ab]at h1 h3 h4
  refine ⟨by rw [h1,List.length_cons];exact Ff,h2,fun l hl=>(h3 l (by exact Le hl)).trans (if_neg (by exact Ag hl)),fun i x h=>?_⟩
  cases i with
  | zero =>
   cases h
   exact (h3 σ.nx (by exact Hq)).trans (if_pos rfl)
  | succ i =>
   rw [show σ.nx+(i+1)=σ.nx+1+i by exact Me]
   exact h4 i x h
section
variable {G:Pg} {rec:Av} {σ:Mini.St}
theorem FG {a:Addr} {args:List Val} {fd:FuncData} {body:List Stmt} {xs:List Str} {dv:List (Str×Value)} {tb:Option (Addr×Nat)} {P:Val->Mini.St->Prop} (F:FnIs G.K a fd body xs dv) (hl:args.length=xs.length) (cs:List Str) (hcs:AZ fd.scope=cs) (hnd:cs.Nodup)
  (hbo:K7 fd.scope (xs++dv.map (·.1))=true) (n:Nat) (cl:List (Str×Nat)) (hcl:HH cs σ.nx=cl)
  (h:∀σ1:Mini.St,σ1.nx=σ.nx+cs.length->(∀l,l < σ.nx->σ1.hp l=σ.hp l)->σ1.loc=CK (fun x=>fd.scope.names.lookup x) (AK xs args dv) (fun _=>none)->(∀i x,cs[i]?=some x->σ1.hp (σ.nx+i)=.cell (B5 (fun x=>fd.scope.names.lookup x) (AK xs args dv) (fun _=>none) x)) ->
   exs G rec n ⟨fd.scope,cl,fd.code,tb⟩ body σ1 fun fl σ'=>P (Lo fl) {σ' with loc:=σ.loc}):JG G rec tb a args σ P:=by
 have k:=CB (B5 (fun x=>fd.scope.names.lookup x) (AK xs args dv) fun _=>none) cs {σ with loc:=CK (fun x=>fd.scope.names.lookup x) (AK xs args dv) fun _=>none}
 refine ⟨fd,body,xs,dv,n,F,hl,by rw [hcs];exact hnd,hbo,?_⟩
 rw [hcs,hcl]
 exact h _ k.1 k.2.2.1 k.2.1 k.2.2.2
end
section
variable {σ:Mini.St}
mutual
theorem QGZ {hp:QH->Ob}:∀(xs:QC QH),DVs hp (QB7 fun k:QH=>Q13 k) (QB7 fun k:QH=>QC5 k)
 | []=>.Zo
 | x::r=>.Xx (.Qm _) (QGZ r)
theorem O3 (xs:QC QH):∀d∈QB7 fun k:QH=>QC5 k,kqdOk 8 d=QM:=by
 intro d hd
 refine ew1 (Z2 hd) fun k yq76=>?_;refine an2 yq76 fun _ yq77=>?_;obtain QA:=yq77;clear yq76
 rfl
theorem LM {l i:QH} {xs:QC QH} {P:QU->QE->Prop} (h:QS l=.Qs (QB7 fun k:QH=>Q13 k)) (p:P (.Ys (XY (i∈xs))) σ):BK .In (.Qm (i:X4)) (.QQ l) σ P:=by
 refine Q46 h ?_
 refine ⟨.Qm i,QB7 fun k:QH=>QC5 k,.Qm _,QGZ xs,QA,O3 xs,?_⟩
 have:(QC5 (i:X4)∈QB7 fun k:QH=>QC5 k)↔i∈xs:=by
  rw [QFE]
  constructor
  ·intro Q2X
   refine ew1 Q2X fun k yq78=>?_;refine an2 yq78 fun hk e=>?_;clear yq78
   have:(k:X4)=i:=by injection e
   have:k=i:=by exact (Q0D this)
   rwa [<- this]
  ·intro h;exact ⟨i,h,QA⟩
 rw [Q1P this];exact p
theorem N7 {l k:QH} {P:QU->QE->Prop} (h1:QS l=.Qs []) (h2:QS k=.Qs []) (p:P (.Ys QJ) σ):BK .QHD (.QQ l) (.QQ k) σ P:=by
 refine Q46 h1 ?_;refine Q46 h2 ?_
 refine ⟨[],[],.Zo,.Zo,(fun d h=>by cases h),(fun d h=>by cases h),?_⟩
 rw [Yz QA];exact p
theorem N8 {l k:QH} {P:QU->QE->Prop} (h1:QS l=.Qs []) (h2:QS k=.Qs []) (p:P (.Ys QM) σ):BK .Eq (.QQ l) (.QQ k) σ P:=by
 refine Q46 h1 ?_;refine Q46 h2 ?_
 refine ⟨[],[],.Zo,.Zo,(fun d h=>by cases h),(fun d h=>by cases h),?_⟩
 rw [Yz QA];exact p
end
end
mutual
def TP (t:Qf->PT Qu) (r:QC Qf) (P:Qu->QE->Prop):Qu->QE->Prop:=fun b σ=>(b=QJ->BL t .Or r σ P)/\(b=QM->P QM σ)
theorem JD {P Q:Qu->QE->Prop} (h:P=Q) {t:PT Qu} {σ:QE} (k:t σ P):t σ Q:=h▸k
end
section
variable {σ:Mini.St}
mutual
theorem ae1 {t:Qf->PT Qu} {e:Qf} {r:QC Qf} {P:Qu->QE->Prop} (h:t e σ (TP t r P)):BL t .Or (e::r) σ P:=by
 show t e σ _
 refine JD ?_ h
 funext b σ1
 cases b
 ·exact QFD ⟨fun q=>q.1 QA,fun q=>⟨fun _=>q,fun q=>(by cases q)⟩⟩
 ·exact QFD ⟨fun q=>q.2 QA,fun q=>⟨fun q=>(by cases q),fun _=>q⟩⟩
theorem ajj {t:Qf->PT Qu} {r:QC Qf} {P:Qu->QE->Prop} (h2:P QM σ):TP t r P QM σ:=⟨fun q=>(by cases q),fun _=>h2⟩
theorem ajk {t:Qf->PT Qu} {r:QC Qf} {P:Qu->QE->Prop} (h2:BL t .Or r σ P):TP t r P QJ σ:=⟨fun _=>h2,fun q=>(by cases q)⟩
theorem aeZ {t:Qf->PT Qu} {P:Qu->QE->Prop} (h:P QJ σ):BL t .Or [] σ P:=h
end
end
section
variable {σ:Mini.St}
mutual
theorem Es {f:Qf->PT QU} {t:Qf->PT Qu} {a:Qf->QU->PT Yb} {elt:Qf} {g:Qx} {Xr:QC QU} {Q3J:QE->Prop} {P:QU->QE->Prop} (O:QH->QC QU->(QH->Ob)->QH->Prop)
  (h0:O 0 [] (Qw (.Qs [])).hp (QO+1)) (hst:∀XH,YU [] σ XH->Q3J XH)
  (Q9X:∀i x XH vs,Xr[i]?=QB x->YU [] σ XH->QO < Xh->X5 QO=.Qs vs->O i vs X5 Xh->∀R:QE->Prop,(∀Q5g vs',YU [] σ Q5g->QO < Q66->Q67 QO=.Qs vs'->O (i+1) vs' Q67 Q66->R Q5g) ->
   a Q3K x XH fun _ σ1=>BL t .And QBd σ1 fun ok σ1=>(ok=QJ->R σ1)/\(ok=QM->f elt σ1 fun v σ2=>Bx [.QQ QO,v] σ2 fun _ σ3=>R σ3))
  (Q55:∀XH vs,YA=Xy->YU [] σ XH->QO < Xh->X5 QO=.Qs vs->O Yi vs X5 Xh->P (.QQ QO) XH) :
  CO f t a QO elt [g] Xr Q3J {Qw (.Qs []) with loc:=fun _=>QG} fun _ XH=>P (.QQ QO) {XH with loc:=Xy} :=
 NK (fun i vs XH=>O i vs X5 Xh) h0 hst Q9X fun XH vs k1 k2 k3 k4=>Q55 _ vs QA ⟨k1.nx,k1.hp⟩ k2 k3 k4
theorem ED (n:QH):(Ay 0 n 1).map Q13=(X6 n).map fun i:QH=>Q13 i:=by
 have e:Ay 0 n 1=(X6 n).map fun i:QH=>(i:X4):=by
  have hl:=Fy (a:=0) (b:=n) (by exact zq8)
  refine List.ext_getElem? fun i=>?_
  cases q:(Ay ((0:QH):X4) n 1)[i]? with
  | QG =>
   rw [Q5h,hl]at q
   rw [Q2Q (by rw [QK,Y9];omega)]
  | QB z =>
   have:=Fz (a:=0) (b:=n) (by exact zq8) q
   rw [QT,Yj (by exact acr this.2)]
   rw [this.1];simp
 rw [e,YZ];rfl
def Hm (f:Qf->PT QU) (t:Qf->PT Qu) (a:Qf->QU->PT Yb) (elt:Qf) (g:Qx) (gs:QC Qx) (P:QU->QE->Prop):QU->QE->Prop:=fun v σ =>
 ∃its st,Cn v σ (its,st)/\CO f t a QO elt (g::gs) its st {Qw (.Qs []) with loc:=fun _=>QG} fun _ XH=>P (.QQ QO) {XH with loc:=Xy}
theorem Dm {G:Pg} {YX:Av} {n:QH} {fm:Fm} {p:Pos} {elt:Qf} {g:Qx} {gs:QC Qx} {Qv:Q0M} {P:QU->QE->Prop} (cl:QC (X8×QH)) (h1:Ev Q99 Q1N []=QB cl) (h2:Eu Qv (g::gs)=QM)
  (h:ev G YX n fm Q6L σ (Hm (ev G YX n ⟨Aj Qv Zr,cl,Q2R,Q2S⟩) (tst G YX n ⟨Aj Qv Zr,cl,Q2R,Q2S⟩) (asg G YX n ⟨Aj Qv Zr,cl,Q2R,Q2S⟩) elt g gs P)):ev G YX (n+1) fm (.ZF elt (g::gs) Qv p) σ P :=
 NQ cl ⟨h1,h2,h⟩
theorem Dc {G:Pg} {YX:Av} {n:QH} {fm:Fm} {p q:Pos} {tg elt:Qf} {g:Qx} {gs:QC Qx} {Qv:Q0M} {P:Fl->QE->Prop} (h0:B2 tg=QJ) (cl:QC (X8×QH)) (h1:Ev Q99 Q1N []=QB cl) (h2:Eu Qv (g::gs)=QM)
  (h:ev G YX n fm Q6L σ (Hm (ev G YX n ⟨Aj Qv Zr,cl,Q2R,Q2S⟩) (tst G YX n ⟨Aj Qv Zr,cl,Q2R,Q2S⟩) (asg G YX n ⟨Aj Qv Zr,cl,Q2R,Q2S⟩) elt g gs fun v σ=>asg G YX n fm tg v σ fun _ σ=>P .YE σ)):ex1 G YX (n+1) fm (.Q77 [tg] (.ZF elt (g::gs) Qv q) p) σ P :=
 Tn h0 cl ⟨h1,h2,h⟩
end
section
variable {f:Expr->PT Val} {t:Expr->PT Bool} {a:Expr->Val->PT Unit} {elt:Expr} {g:Comprehension} {P:Val->Mini.St->Prop}
mutual
theorem Dn {l:QH} {Xr:QC QU} (O:QH->QC QU->(QH->Ob)->QH->Prop) (hl:l < QO) (h:QS l=.Qs Xr) (h0:O 0 [] (Qw (.Qs [])).hp (QO+1))
  (Q9X:∀i x XH vs,Xr[i]?=QB x->YU [] σ XH->QO < Xh->X5 QO=.Qs vs->O i vs X5 Xh->∀R:QE->Prop,(∀Q5g vs',YU [] σ Q5g->QO < Q66->Q67 QO=.Qs vs'->O (i+1) vs' Q67 Q66->R Q5g) ->
   a Q3K x XH fun _ σ1=>BL t .And QBd σ1 fun ok σ1=>(ok=QJ->R σ1)/\(ok=QM->f elt σ1 fun v σ2=>Bx [.QQ QO,v] σ2 fun _ σ3=>R σ3))
  (Q55:∀XH vs,YA=Xy->YU [] σ XH->QO < Xh->X5 QO=.Qs vs->O Yi vs X5 Xh->P (.QQ QO) XH):Hm f t a elt g [] P (.QQ l) σ :=
 ⟨Xr,fun σ=>QS l=.Qs Xr,QEt h,Es O h0 (fun XH g'=>(Q0S l hl (by simp)).QR h) Q9X Q55⟩
theorem NW {l:QH} {Xr:QC QU} (O:QH->QC QU->(QH->Ob)->QH->Prop) (hl:l < QO) (h:QS l=.YM Xr) (h0:O 0 [] (Qw (.Qs [])).hp (QO+1))
  (Q9X:∀i x XH vs,Xr[i]?=QB x->YU [] σ XH->QO < Xh->X5 QO=.Qs vs->O i vs X5 Xh->∀R:QE->Prop,(∀Q5g vs',YU [] σ Q5g->QO < Q66->Q67 QO=.Qs vs'->O (i+1) vs' Q67 Q66->R Q5g) ->
   a Q3K x XH fun _ σ1=>BL t .And QBd σ1 fun ok σ1=>(ok=QJ->R σ1)/\(ok=QM->f elt σ1 fun v σ2=>Bx [.QQ QO,v] σ2 fun _ σ3=>R σ3))
  (Q55:∀XH vs,YA=Xy->YU [] σ XH->QO < Xh->X5 QO=.Qs vs->O Yi vs X5 Xh->P (.QQ QO) XH):Hm f t a elt g [] P (.QQ l) σ :=
 ⟨Xr,fun σ=>QS l=.YM Xr,⟨l,QA,.inr (.inl ⟨_,h,QA⟩)⟩,Es O h0 (fun XH g'=>(Q0S l hl (by simp)).QR h) Q9X Q55⟩
theorem F2 {l n:QH} (O:QH->QC QU->(QH->Ob)->QH->Prop) (h:QS l=.Q7K 0 n 1) (hn:n < 2 ^ 60) (h0:O 0 [] (Qw (.Qs [])).hp (QO+1))
  (Q9X:∀i XH vs,i < n->YU [] σ XH->QO < Xh->X5 QO=.Qs vs->O i vs X5 Xh->∀R:QE->Prop,(∀Q5g vs',YU [] σ Q5g->QO < Q66->Q67 QO=.Qs vs'->O (i+1) vs' Q67 Q66->R Q5g) ->
   a Q3K (.Qm i) XH fun _ σ1=>BL t .And QBd σ1 fun ok σ1=>(ok=QJ->R σ1)/\(ok=QM->f elt σ1 fun v σ2=>Bx [.QQ QO,v] σ2 fun _ σ3=>R σ3))
  (Q55:∀XH vs,YA=Xy->YU [] σ XH->QO < Xh->X5 QO=.Qs vs->O n vs X5 Xh->P (.QQ QO) XH):Hm f t a elt g [] P (.QQ l) σ:=by
 refine ⟨(Ay 0 n 1).map .Qm,fun _=>Q44,?_,?_⟩
 ·have h1:=CX (a:=0) (b:=n) (by exact zq8) (by exact Sh hn)
  have h2:=A5 (a:=0) (b:=n) (by exact zq8)
  exact ⟨l,QA,.inr (.inr ⟨_,_,_,h,⟨h1,by rw [show (0:X4)=((0:QH):X4) from QA,h2];exact YF (PO)⟩,QA⟩)⟩
 ·rw [ED]
  refine Es O h0 (fun _ _=>ZQ) (fun i x XH vs hx=>?_) (fun XH vs k1 k2 k3 k4 k5=>?_)
  ·rw [QT]at hx
   by_cases hi:i < n
   ·rw [Yj hi]at hx
    obtain QA:=X2 hx
    exact Q9X i XH vs hi
   ·rw [Q2Q (by rw [Y9];exact L6 hi)]at hx;cases hx
  ·rw [QK,Y9]at k5
   exact Q55 XH vs k1 k2 k3 k4 k5
end
end
end
mutual
theorem ajD {A B:Prop} (h:B):(QM=QJ->A)/\(QM=QM->B):=⟨fun q=>(by cases q),fun _=>h⟩
theorem ajE {A B:Prop} (h:A):(QJ=QJ->A)/\(QJ=QM->B):=⟨fun _=>h,fun q=>(by cases q)⟩
theorem K5 {σ:QE} {f:Qf->PT QU} {t:Qf->PT Qu} {a:Qf->QU->PT Yb} {elt:Qf} {g:Qx} {gs:QC Qx} {P:QU->QE->Prop} {l:QH} {Xr:QC QU} (h:QS l=.Qs Xr)
  (k:CO f t a QO elt (g::gs) Xr (fun σ=>QS l=.Qs Xr) {Qw (.Qs []) with loc:=fun _=>QG} fun _ XH=>P (.QQ QO) {XH with loc:=Xy}):Hm f t a elt g gs P (.QQ l) σ :=
 ⟨Xr,_,QEt h,k⟩
theorem S7 {σ:QE} {l n:QH} {P:QC QU->(QE->Prop)->Prop} (h:QS l=.Q7K 0 n 1) (hn:n < 2 ^ 60) (k:P ((X6 n).map fun i:QH=>Q13 i) fun _=>Q44):∃its st,Cn (.QQ l) σ (its,st)/\P its st:=by
 refine ⟨(Ay 0 n 1).map .Qm,fun _=>Q44,?_,?_⟩
 ·have h1:=CX (a:=0) (b:=n) (by exact zq8) (by exact Sh hn)
  have h2:=A5 (a:=0) (b:=n) (by exact zq8)
  exact ⟨l,QA,.inr (.inr ⟨_,_,_,h,⟨h1,by rw [show (0:X4)=((0:QH):X4) from QA,h2];exact YF (PO)⟩,QA⟩)⟩
 ·rw [ED];exact k
theorem ID {n i:QH} {x:QU} (h:((X6 n).map fun i:QH=>Q13 i)[i]?=QB x):i < n/\x=.Qm i:=by
 rw [QT]at h
 by_cases hi:i < n
 ·rw [Yj hi]at h;exact ⟨hi,(X2 h).Q37⟩
 ·rw [Q2Q (by rw [Y9];exact L6 hi)]at h;cases h
theorem ahA {G:Pg} {YX:Av} {n:QH} {fm:Fm} {σ:QE} {p q:Pos} {k:QH} {es:QC Qf} {e:Qf} {P:Fl->QE->Prop} (h1:(A3 e=QJ/\Am [.Zs es k q]=QM/\Bg [.Zs es k q] e=QJ)) (h2:BV Zr [.Zs es k q] e=QG) (h:ev G YX n fm e σ fun v σ=>A7 (asg G YX n fm) v [.Zs es k q] σ fun _ σ=>P .YE σ):ex1 G YX (n+1) fm (.Q77 [.Zs es k q] e p) σ P:=aeJ h1 h2 h
end
end Mini
end
section
open PySem PySem.W PySem.Calls PyProof.Rows
namespace Mini
mutual
def Gq (sa P:Qq):Lab:=⟨fun l=>if l=0 then sa else P,2⟩
def st2 (ps:QC (X4×Tok)):St:={loc:=fun _=>QG,hp:=fun l=>if l=0 then .Q4t ps 0 else if l=1 then .tab [] else .any,nx:=2}
theorem JZ {c:Cx} {G:Pg} {A:Q2z} {d:QH} (hc:Q3S) (hK:G.K=c.K) (hgl:GlOk c QGV) (hA:Q8u (d+1) A) {s:QZ} {a sa P:Qq} {ps:QC (X4×Tok)} {R:Q87->QZ->Prop}
  (hcg:c.g=QHj QV [sa,P]) (h1:Qc sa=QB (Q4e (Q15 fun p=>Q5D p.1 p.2).Xe 0)) (h2:Qc P=QB (QCH #[])) (hne:sa≠P) (low:Q3R < QD)
  (n1:(sa == Q3R)=QJ) (n2:(P == Q3R)=QJ) (hos:s.os=c.O) (hgens:s.gens=#[])
  (h:JG G (Ae G d) (QB (P,1)) a [.QQ 0] (st2 ps) fun v XH=>v=.Ys QM/\X5 0=.Q4t ps 0/\∃es,X5 1=.tab es)
  (q:∀s',(∀b o,Qc b=QB o->b≠P->Q3x b=QB o)->(∃ps',Q3x P=QB (QCH ps'))->s'.os=s.os->s'.gens=#[]->R (.ok (.ret (.Ys QM))) s') :
  Q1L (Qi XK c.w) A (.Q0Q (.QQ a) ⟨[.QQ sa],[]⟩) R s:=by
 injections c G A d _ _ _ _ s a sa P ps R _ _ _ _ _ _ _ _ _ _ _
 have hK':=hK
 have S:∀A' Q2V fm' n,Q8u d A'->Snd c A' Q2V fm' G (Ae G d) n:=fun A' Q2V fm' n hA'=>S5 hc hA'.aok hK hgl (fun X1 fm fv Λ σ P vs as x hx ha h=>Eg hc hK hgl d hA' fv Λ σ P vs as x hx ha h) n Q2V fm'
 have gk:∀b o,Q39 b=QB o->Qc b=QB o:=fun b o e=>of_hideAll [sa,P] (by rw [<- hcg];exact e)
 obtain ⟨fd,Yf,xs,dv,n,F,Q2Y,hnd,hbo,h⟩:=h
 rw [hK]at F
 have X:=ZR gk
 have ha:VRs (Gq sa P) [.QQ 0] [.QQ sa]:=.Xx ⟨by show 0 < 2;exact Kv,QA⟩ .Zo
 obtain ⟨oc,od,osl,hat⟩:=F.at'
 refine Q7c (fd:=fd) (Yf:=Yf) (by have:=Q5Z;exact Ie this) (X _ _ hat) QA F.co F.gen F.body (codeRec_of X F.code) ?_
 refine kp_binds X (fun S=>F.bind S [.QQ sa] (by rw [<- QEB];exact Q2Y)) _ _ _ _ ?_
 rw [F.clo]
 have hcn:∀k,(Q5G k Q8T []).map (·.1)=AZ Q1O:=fun k=>Cg _ _ _ _ QA _
 refine wpAny_newFunctionEnv_cells F.kd ?_ ?_
 ·intros x hx
  have hall:=Q1b hbo
  have hm:x.1∈xs++QB8 (·.1):=by
   rcases Y4 hx with hx | hx
   ·exact Q34 (.inl (QBo hx).1)
   ·exact Q34 (.inr (Q0G ⟨x,hx,QA⟩))
  have:=hall _ hm
  simp only [Q2D,X9,ZM]at this
  rcases this with h | zR
  ·exact .inl h
  ·obtain ⟨h1,h2⟩:=zR
   refine .inr ⟨h1,Ci ?_⟩
   rw [hcn]
   simpa using h2
 intros Q2V he s' I
 ·subst he
  obtain ⟨⟨hh,tk,QA⟩,hns,Q8N,hfresh⟩:=I.toInCall
  have hbr:BR (Gq sa P) (AK xs [.QQ 0] dv) (Q9f [.QQ sa]++dv):=(QGs ha).Q7z (QGt dv)
  have lsa:=X0 h1
  have lP:=X0 h2
  have gn:∀b o,Q39 b=QB o->b≠sa/\b≠P:=by
   intros b o e
   rw [hcg]at e
   constructor
   ·rintro QA;rw [QFK _ (Q9l ..)]at e;cases e
   ·rintro QA;rw [QFK _ (List.mem_cons_of_mem _ (Q9l ..))]at e;cases e
  have r':Rel c (fzN (Gq sa P) QV) QD (Gq sa P) {st2 ps with loc:=CK (fun x=>Q14 x) (AK xs [.QQ 0] dv) fun _=>QG} {s with YO:=hh,Q0T:=tk}:={
   nn:=QA
   ns:=⟨_,hns,fun x=>by rw [Ew];exact hbr.bindL (m:=fun _=>QG) (m':=fun _=>QG) (fun _=>ZQ) x⟩
   Q4c:=fun b o e=>Q8N b o (B3 e)
   Q8m:=fun b o e=>by
    refine DH (gk b o e) fun l hl e2=>?_
    have:=gn b o e
    have hl:l=0\/l=1:=lt2 hl
    rcases hl with QA | QA
    ·exact this.1 QFL
    ·exact this.2 QFL
   fzL:=by
    cases q:fzN (Gq sa P) QV QD with
    | QG=>rfl
    | QB o=>exact XF (X0 (B3 q)) (XO _)
   ob:=fun l hl=>by
    have hl:l=0\/l=1:=lt2 hl
    rcases hl with QA | QA
    ·exact ⟨_,Q8N _ _ h1,QA⟩
    ·exact ⟨_,Q8N _ _ h2,fun e he=>(by cases he),QA⟩
   fzl:=fun l h=>by unfold fzN;rw [QY ⟨l,h,QA⟩]
   lne:=fun l hl=>by
    have hl:l=0\/l=1:=lt2 hl
    rcases hl with QA | QA
    ·exact Xv lsa
    ·exact Xv lP
   inj:=fun l l' hl hl' e=>by
    have hl:l=0\/l=1:=lt2 hl
    have hl':l'=0\/l'=1:=lt2 hl'
    rcases hl with QA | QA <;> rcases hl' with QA | QA
    ·rfl
    ·exact (hne e).Q2m
    ·exact (hne QGp).Q2m
    ·rfl
   Q4x:=by rw [hcg,hideAll_size];exact Qh _
   low:=low
   nsm:=fun l hl=>by
    have hl:l=0\/l=1:=lt2 hl
    rcases hl with QA | QA
    ·exact n1
    ·exact n2
   os:=hos
   Q0P:=hgens}
  have hnd':((Q5G (QD+1) Q8T []).map (·.1)).QED:=by rw [hcn];exact hnd
  obtain ⟨Zd,e',r2,hl⟩:=C2 (cm:=B5 (fun x=>Q14 x) (AK xs [.QQ 0] dv) fun _=>QG) (cm':=B5 (fun x=>Q14 x) (Q9f [.QQ sa]++dv) fun _=>QG) (Q5G (QD+1) Q8T []) r' (fun x=>hbr.bindC (m:=fun _=>QG) (m':=fun _=>QG) (fun _=>ZQ) x)
   (fun p hp=>by
    have:=I.cell p.1 p.2 (CG hnd' hp)
    rw [Ex]at this;exact this) I.apart (fun p hp=>by
    have hgt:=I.above p.1 p.2 hp
    have hsz:QD < p.2:=hgt
    refine ⟨hgt,?_,fun l hlt e=>?_⟩
    ·cases hq:fzN (Gq sa P) QV p.2 with
     | QG=>rfl
     | QB o=>exact XF (X0 (B3 hq)) (YW (X7 hsz))
    ·have hlt:l=0\/l=1:=lt2 hlt
     rcases hlt with QA | QA
     ·have e:sa=p.2:=e
      rw [e]at lsa;exact XO _ (Q1G lsa hsz)
     ·have e:P=p.2:=e
      rw [e]at lP;exact XO _ (Q1G lP hsz))
  rw [hcn]at r2 hl
  refine ⟨(Q8I gk).keeps Q8N,QF2 ?_⟩
  refine (S _ _ ⟨Q1O,HH (AZ Q1O) 2,QAM,QB (P,1)⟩ n (Q8i _)).xs Yf Zd _ _ h (fzN (Gq sa P) QV) _ _ _ ⟨QA,F.gl,F.bl,F.kd,?_,QA,?_⟩ r2 ?_
  ·intros x l hl'
   exact hl x l hl'
  ·intros P' l h
   cases h
   have h1:1 < (Gq sa P).n:=by show 1 < 2;exact Ku
   exact ⟨QP h1 e'.1,by rw [e'.2 1 h1];rfl⟩
  ·intros Λ2 s2 fl f σ2 e2 p2 hf r3
   obtain ⟨p2,p3,es,p4⟩:=p2
   have z0:0 < (Gq sa P).n:=by show 0 < 2;exact Kv
   have z1:1 < (Gq sa P).n:=by show 1 < 2;exact Ku
   have l0:0 < Λ2.n:=QP z0 (QD5 e2).1
   have l1:1 < Λ2.n:=QP z1 (QD5 e2).1
   have f0:Λ2.f 0=sa:=(QD5 e2).2 0 z0
   have f1:Λ2.f 1=P:=(QD5 e2).2 1 z1
   obtain ⟨o0,g0,k0⟩:=(r3.ob 0 l0)
   rw [p3]at k0
   rw [f0,k0]at g0
   obtain ⟨o1,g1,k1⟩:=(r3.ob 1 l1)
   rw [p4]at k1
   rw [f1,k1.2]at g1
   have fin:=q s2 (fun b o e hb=>?_) ⟨_,g1⟩ (r3.os.trans hos.symm) r3.gens
   ·cases fl with
    | YE=>cases p2
    | brk=>cases p2
    | QAy=>cases p2
    | ret v =>
     injections v zI
     obtain ⟨cv,QA,hv⟩:=hf
     cases p2
     cases hv
     exact fin
   ·by_cases hs:b=sa
    ·subst hs
     rw [h1]at e
     cases e
     exact g0
    ·refine r3.keep b o (DH e ?_);intros l hl e2
     have hl:l=0\/l=1:=lt2 hl
     rcases hl with QA | QA
     ·exact hs QFL
     ·exact hb QFL
end
end Mini
end
section
open PySem PySem.W PySem.Calls PyProof.Rows
set_option maxRecDepth 100000
set_option maxHeartbeats 2000000
namespace Mine01
open Mini
mutual
theorem Ly {R:QD6} {cl:X8->QW Qq} {h:ZS} (ns:QC X4):∀(vs:QC QI) (as:QC Qq),ReadsAllW R cl h vs (Q4Q .Qm) as->∃ps:QC (X4×Tok),vs=Q15 (fun p=>Q5D p.1 p.2)/\ns=Q15 fun p=>p.1:=by
 refine ns.rec ?_ ?_
 ·exact fun _ _ r=>⟨[],(QAX r).1,QA⟩
 intros i ns ih vs as r
 obtain ⟨v,ws,as1,as2,e,e0,r1,r2⟩:=Q9m r
 obtain ⟨t,e1,e4⟩:=readsW_int_inv r1
 obtain ⟨ps,e2,e3⟩:=ih _ _ r2
 exact ⟨(i,t)::ps,QBv (congr (Z8 QEJ e1) e2),Z8 (i::·) e3⟩
theorem afZ (K:Q1B) (c:Cx) (h:c.K=K):GlOk c (Ub K) where
 is:=fun x v e=>by
  rw [h]
  unfold Ub at e
  split at e
  ·rename_i u hu;cases e;exact .inl hu
  ·rename_i hu
   split at e
   ·cases e
   ·rename_i hx;exact .inr ⟨hu,e,hx⟩
  ·cases e
theorem afS (P:Ql):((K P).map (·.1)).QGN 296=QJ:=by kernel_rfl
theorem O6 (P:Ql):((K P).all fun p=>match p.2.cls with | .Qk t=>t != "list" | _=>QM)=QM:=by kernel_rfl
theorem Em {b:Qq} {o:ZG}:∀ {K:Q1B},QA4 b=QB o->(b,o)∈K
 | [],h=>by simp at h
 | (a,o')::r,h=>by
  rw [Z5]at h
  cases e:b == a with
  | QM=>rw [e]at h;cases h;rw [Z4 e];exact .Zf _
  | QJ=>rw [e]at h;exact .Q38 _ (Em h)
theorem O9 {R:QD6} {xs:QC QGa} {n:QH} (h:(WTm.and (.not (.lt (.lit (.Qm n)) (.len (.arg 0)))) (.lit (.Ys QM))).holds R {Xc:=[.Qs xs]}=QM):Qn<=n:=by
 by_cases q:(n:X4) < Qn
 ·exfalso
  have e:Num.less? (WData.int n) (WData.int Qn)=QB QM:=by unfold Num.less?;simp [q]
  simp [WTm.holds,WTm.value,less?,e]at h
 ·exact Q6k (fun e=>q (YS e))
theorem Lr {R:QD6} {a b:QC QGa}:(WShape.has R (.Ys QM) .Ys&&(WTm.eq .res (.lit (.Ys QM))).holds R {Xc:=a,res:=QB (.Ys QM),after:=b})=QM:=by
 refine Bool.and_eq_true_iff.mpr ⟨QA,?_⟩
 first | rfl | kernel_rfl | simp [WTm.holds,WTm.value,same]
theorem FI {K:Q1B} {h:ZS} {N:Qq} {mg:X8->QW QI} {n:X8} {v:QI} (X:QAw h) (G:h.Ns N mg) (e:nsIn K N n=QB (QB v)):mg n=QB v:=by
 injections K h N mg n v _ _ _
 obtain ⟨o,es,ep,ho,hd,_,hf⟩:=G
 delta nsIn at e
 generalize hq:QA4 N=q at e
 cases q with
 | QG=>exact nomatch e
 | QB o' =>
  injections o' zI
  have ee:o'=o:=X2 ((X _ _ hq).QCn ho)
  rw [ee]at e
  obtain ⟨c1,d1,dt1,sl1⟩:=o
  have hd:dt1=.Q04 es ep:=hd
  rw [hd]at e
  have e:(match QBu (·.key.isStr n) with | QB e=>QB (QB e.val) | QG=>if Q9E (·.refKey) then QG else QB QG)=QB (QB v):=e
  generalize he:QBu (·.key.isStr n)=w at e
  cases w with
  | QB a =>
   rw [<- hf]
   unfold nsFind findBy
   rw [<- Array.find?_toList,he]
   exact X2 e
  | QG =>
   have e:(if Q9E (·.refKey)=QM then QG else QB QG)=QB (QB v):=e
   by_cases hb:Q9E (·.refKey)=QM
   ·rw [QY hb]at e;cases e
   ·rw [QN hb]at e;cases e
theorem Nx (P:Ql):nsIn (K P) Q3e "law"=QB (QB (.QQ 299)):=by kernel_rfl
theorem T2 (P:Ql):(K P).QF0 299=QB (AO P):=by kernel_rfl
theorem K3 (P:Ql):(K P).QF0 298=QB (Nh P):=by kernel_rfl
theorem Pc:(recsOf q).any (fun d=>d.name == "law")=QM:=by kernel_rfl
instance:Q2B QGa:=⟨.QG⟩
instance:Q2B DefRec:=⟨⟨Zv,Zv,[],Zv,Zv⟩⟩
def WL (P:Ql) (h:ZS) (v:QI) (d:QGa):Prop:=d.casesOn Q44 (fun _=>Q44) (fun _=>Q44) (fun _=>Q44) (fun xs=>∃a vs,v=.QQ a/\Q05 a=QB {cls:=.Qk "list",YC:=.seq Xw}/\WellAll P h vs xs) (fun _=>Q44) (fun _=>Q44) (fun _=>Q44) (fun _=>Q44) (fun _=>Q44) (fun _=>Q44) (fun _=>Q44) (fun _ _=>Q44)
theorem aeK {P:Ql} {h:ZS} {v:QI} {d:QGa} (w:Well P h v d):WL P h v d:=by
 cases w with
 | Qs g1 g2=>exact ⟨_,_,QA,g1,g2⟩
 | _=>trivial
theorem Pd {P:Ql} {h:ZS} {R:QD6} {cl:X8->QW Qq} {Q7V:QC QI} {Xc:QC QGa} {as:QC Qq} (p:WShape.hasAll R Xc [.Qs .Qm]=QM) (w:WellAll P h Q7V Xc) (r:ReadsAllW R cl h Q7V Xc as) :
  ∃(sa:Qq) (ps:QC (X4×Tok)),Xc=[.Qs (Q15 fun p=>.Qm p.1)]/\Q7V=[.QQ sa]/\Q05 sa=QB {cls:=.Qk "list",YC:=.seq (Q15 fun p=>Q5D p.1 p.2).Xe}/\sa∈as:=by
 injections P h R cl Q7V Xc as _ _ _
 obtain ⟨dt,QA3,e0,e1,e2⟩:=hasAllW_cons (e:=.Qs .Qm) (es:=[]) p
 obtain ⟨xs,e3,e4⟩:=hasW_list e1
 obtain ⟨ns,e5⟩:=items_int e4
 have e6:Xc=[.Qs (Q4Q .Qm)]:=e0.trans (congr (Z8 QEJ (e3.trans (Z8 _ e5))) (hasAllW_nil e2))
 rw [e6]at w r
 obtain ⟨v,vs,as1,as2,e7,e8,r1,r2⟩:=Q9m r
 obtain ⟨sa,us,as3,e10,⟨o,ho,hc,n,hd⟩,r3,e11⟩:=readsW_list_inv r1
 obtain ⟨ps,e12,e13⟩:=Ly _ _ _ r3
 have e14:Q7V=[.QQ sa]:=e7.trans (congr (Z8 QEJ e10) (QAX r2).1)
 rw [e14]at w
 obtain ⟨a,ws,e15,g1,g2⟩:=aeK (wellAll_head w).1
 refine ⟨sa,ps,?_,e14,?_,?_⟩
 ·rw [e6,e13,YZ];rfl
 ·have e16:a=sa:=(Value.ref.inj e15).Q37
  rw [e16]at g1
  have e17:Q21=.seq ws.toArray 0:=Z8 Obj.data (X2 (ho.symm.trans g1))
  rw [g1,<- e12]
  have e18:us=ws.toArray:=by injection hd.symm.trans e17
  rw [e18]
 ·rw [e8,e11];exact .Zf _
theorem Tr (law:∀(P:Ql) (ps:QC (X4×Tok)),Zj<=63->JG (G P) (Ae (G P) 20) (QB (296,1)) 299 [.QQ 0] (st2 ps) fun v XH=>v=.Ys QM/\X5 0=.Q4t ps 0/\∃es,X5 1=.tab es) :
  WalkO q QCA (Q0 q []) (QDh H) (Xq).QCB ⟨Qb "law",fnP (st 13),fnB (st 13),fnS (st 13),Tf (st 13)⟩ [] fun f vs=>PySem.call f vs:=by
 intros w s₀ Q1p mg mb Gd Y a o pm cd doc dV kV h1 h2 h3 h4 h5 hgens Xc Q7V as hpre hlay hrd hwell hsm
 have X:(K Q0O).In QEK:=kIn_of Y
 obtain ⟨p1,p2⟩:=pre_splitW hpre
 obtain ⟨sa,ps,QA,QA,g1,hlow⟩:=Pd p1 hwell hrd
 have Q2Y:Zj<=63:=by
  have:=O9 (n:=63) (R:=(Xq).row.toRowW.records) p2
  rwa [QK]at this
 have ha:mg "law"=QB (.QQ a):=h5
 rw [FI X Gd.T.g (Nx Q0O)]at ha
 obtain QA:299=a:=by injection ha with ha;injection ha
 obtain ⟨dr,hdr,hdn⟩:=(List.any_eq_true.mp Pc)
 obtain ⟨a',o',fd,c,Pt,t1,t2,t3,t4,t5,⟨⟨oc,vc,t6,t7,t8,t9⟩,t10⟩⟩:=(Gd.T.tab dr hdr)
 rw [Z4 hdn,FI X Gd.T.g (Nx Q0O)]at t1
 obtain QA:299=a':=by injection t1 with t1;injection t1
 rw [X _ _ (T2 Q0O)]at t2
 cases t2
 have t4':c=298:=by
  have e:(fdO (AO Q0O)).Q0s=.QQ c:=by
   have:(AO Q0O).YC=.Q7j fd:=t3
   unfold fdO;rw [this];exact t4
  have e':(fdO (AO Q0O)).Q0s=.QQ 298:=by kernel_rfl
  rw [e']at e;injection e with e;exact QGp
 subst t4'
 rw [X _ _ (K3 Q0O)]at t6
 cases t6
 have t9':Pt=296:=by
  have e:(Nh Q0O).YC=.Xp vc:=t8
  have e':(match (Nh Q0O).YC with | .Xp vc=>vc[11]? | _=>QG)=QB (.QQ 296):=by kernel_rfl
  rw [e]at e'
  have e':vc[11]?=QB (.QQ 296):=e'
  rw [e']at t9
  injection t9 with t9;injection t9 with t9;exact t9.symm
 subst t9'
 have hdict:∀b o es n,s₁.heap.get? b=QB o->Q21=.Q04 es n->b∉[sa,296]:=by
  intros b o es n e ed hb
  rcases XT hb with QA | hb
  ·rw [g1]at e;cases e;cases ed
  ·rw [Xj]at hb;subst hb
   rw [t10]at e;cases e;cases ed
 have hns:∀ {N m},s₁.heap.Ns N m->(QHj QEK [sa,296]).Ns N m:=fun {N m} n=>by
  obtain (⟨o,es,ep,k1,k2,k3⟩):=n
  exact ⟨o,es,ep,QBf _ k1 (hdict _ _ _ _ k1 k2),k2,k3⟩
 have T:=topRead_of Gd.T
 have hc:Cx.Ok ⟨(Xq).row.toRowW.prog,w,K Q0O,QHj QEK [sa,296],q,looseW q QCA,mg,mb,s₁.os⟩:={
  inK:=fun b o e=>by
   refine QBf _ (X b o e) fun hb=>?_
   rcases XT hb with QA | hb
   ·have hl:=O6 Q0O
    have:=Q1b hl _ (Em e)
    have e':=X _ _ e
    rw [g1]at e'
    cases e'
    simp at this
   ·rw [Xj]at hb;subst hb
    have hk:=afS Q0O
    have:((K Q0O).map (·.1)).QGN 296=QM:=List.contains_iff_mem.mpr (Q0G ⟨_,Em e,QA⟩)
    rw [hk]at this;cases this
  top:=⟨hns T.g,hns T.b,let ⟨mc,k1,k2⟩:=T.nolimit;⟨mc,hns k1,k2⟩,T.builtins,T.free⟩
  bmain:=by
   obtain ⟨bm,ob,k1,k2,k3,k4,k5,k6⟩:=Gd.T.bmain
   refine ⟨bm,ob,k1,k2,QBf _ k3 ?_,k4,k5,k6⟩;intros hb
   rcases XT hb with QA | hb
   ·rw [g1]at k3;cases k3;cases k6
   ·rw [Xj]at hb;subst hb
    rw [t10]at k3;cases k3;cases k6}
 refine enter_call ?_
 have hne:sa≠296:=by
  intros e
  rw [e,t10]at g1;cases g1
 refine JZ (d:=20) (ps:=ps) (P:=296) hc QA (afZ _ _ QA) ?_ QA g1 t10 hne ?_ ?_ (by decide) QA hgens (law Q0O ps Q2Y) ?_
 ·exact ⟨by decide,by decide,by decide⟩
 ·exact Q3c (by decide) (X0 t10)
 ·refine Yo ?_;intros e
  have:=hsm sa hlow
  rw [e]at this;simp at this
 intros s' q1 q2 q3 q4
 ·refine ⟨.inl ⟨.Ys QM,.Ys QM,[],QA,fun cls=>QA,.Ys QM,?_,fun _=>⟨.Zo,fun _ ha=>nomatch ha⟩⟩,⟨?_,?_⟩,q3,.of_eq q4⟩
  ·exact Lr
  ·intros b o e
   by_cases hb:b=296
   ·subst hb
    obtain ⟨ps',q2⟩:=q2
    rw [t10]at e;cases e
    refine .inr (.inl ⟨⟨_,_,_,X _ _ (K3 Q0O),t7,t8,t9⟩,QA,#[],ps',QA,?_⟩)
    rw [q2];simp [QCH]
   ·exact .inl (q1 b o e hb)
  ·intros b o e
   by_cases hb:b=296
   ·subst hb;obtain ⟨ps',q2⟩:=q2;exact ⟨_,q2⟩
   ·exact ⟨o,q1 b o e hb⟩
end
end Mine01
end
section
open PySem PySem.W PySem.Calls PyProof.Rows
set_option maxRecDepth 100000
set_option maxHeartbeats 2000000
namespace Mine01
open Mini
local macro_rules | `(tactic| kc_close)=>D1 true "!m :_ :^. :^_ :!"
local macro_rules | `(tactic| keq_rows)=>D1 false "!m :~ afK:1 T0:1 DZ:6 ajn:!1"
local macro_rules | `(tactic| kcj_m)=>D1 false "!m :~ UH aft afw:7 afr:7 afs:7 agt:7 Nat.le_refl agu:7 afB:7 afx:7 afy:7 afv:a7 afA:a7 afu:a7 Ni:~ afz:~ afC:~ afL:7"
local macro_rules | `(tactic| kwd_less)=>D1 true "!m :_ :~ :7 afp:7 afq:7 afo:~ :^. :^7 :^(7 :^[7 :& :^&"
local macro_rules | `(tactic| kas_types)=>D1 false "!m :~ HN:2 D3:36 Cu:36 FQ:32 Ct:32 :_"
local macro_rules | `(tactic| kwd_rel)=>D1 false "!m GroH.refl :~ GroH.set GroH.alloc GroH.updR:)"
local macro_rules | `(tactic| kp_flats)=>D1 false "!m :% :!"
local macro_rules | `(tactic| kts_caught)=>D1 false "!m afX aiP afY aiN agB aiO Ph aiM aiQ af1 ajs aiR af0 UJ Ua agv agx agw afJ aiB aiC"
local macro_rules | `(tactic| kaf_pre)=>D1 false "!m ai9 UN ai7 UM ai8:!5 ai6:!5"
local macro_rules | `(tactic| keq_hits)=>D1 false "!m Ar S3 ahx:0 agi:;0 agh:;0 aeR aeQ aeJ:;0 ajb ahw ajJ ajd ahy aje Ug Uf agI agG af3:01 aiV:04 ajt af5:0 agD:0 aiT:0 agF aiY:0 aiU:0 aiS:+ aiX:00 ajf ahE ajg:0 ahC ahD ahF ajI:0 PK:0 aja ajH ahO agr ags ae3 O1 II agl aeS:0 AB TI agk ahJ ajK ajL ai2 ajM Tj ajz ae0 ae2 ajm ajl ai5 ahz:,1 ajr:- ajo:- ajp:0- ajq:2- agL:= UI ai0 ajA ai1 ajx ajw ajy ajC UK:2 Uc:2 af6 Ms:2! agA:2! agy:2! aiL:2! aiZ ajc aeL:!04 ahI:!! ajh aji:2 ago:2 agp:232 ahN:2 agq:2! ajB OD ahB agj ajG ajF agC:2205* ahK:22005 agz:2245"
section
variable {P:Params} {d:Nat} {σ:Mini.St}
theorem J7 {i j k:Int} {Q:Val->Mini.St->Prop} (h:∀l σ',Gro σ σ'->σ.nx<=l->l < σ'.nx->σ'.hp l=.sub 152 [.int i,.int j,.int k]->Q (.ref l) σ') :
  Ae (G P) (d+1) (.imm (.ref 152)) [.int i,.int j,.int k] σ Q:=by
 injections P d σ i j k Q _
 refine LJ ⟨153,99,.type "type",Ts P,rfl,?_⟩
 refine AE (FV P) rfl ?_ ?_ 40 ?_
 ·kernel_rfl
 ·kernel_rfl
 intros σ1 hh hn hl
 have h1:σ1.loc "_cls"=some (.imm (.ref 152)):=hl _ _ (by kernel_rfl)
 have h2:σ1.loc "a"=some (.int i):=hl _ _ (by kernel_rfl)
 have h3:σ1.loc "b"=some (.int j):=hl _ _ (by kernel_rfl)
 have h4:σ1.loc "size"=some (.int k):=hl _ _ (by kernel_rfl)
 refine Ar ?_
 repeat keq_hits
 refine Ho (Ts P) (xs:=[.int i,.int j,.int k]) ?_ ?_ ?_
 ·kas_types
 ·simp [sizeLine_eq]
 keq_hits
 have hG:Gro σ {(σ1.alloc (.tuple [.int i,.int j,.int k])).alloc (.sub 152 [.int i,.int j,.int k]) with loc:=σ.loc}:=by
  refine ⟨?_,rfl,?_⟩
  ·show σ.nx<=σ1.nx+1+1;exact W2 hn
  ·intros l hl
   show (if l=σ1.nx+1 then _ else if l=σ1.nx then _ else σ1.hp l)=_
   rw [if_neg (by exact W1 hn hl),if_neg (by exact WZ hn hl),hh]
 refine ⟨⟨σ1.nx+1,_,rfl,if_pos rfl⟩,h _ _ hG ?_ ?_ (if_pos rfl)⟩
 ·show σ.nx<=σ1.nx+1;exact WY hn
 ·show σ1.nx+1 < σ1.nx+1+1;exact WX
end
section
variable {P:Params} {d:Nat} {σ:Mini.St}
mutual
def iD1 (fv:QU):QC (X8×QU):=[("isjunk",fv),("a",.QG),("b",.QG),("autojunk",.Ys QJ)]
def iD2 (fv av:QU):QC (X8×QU):=[("isjunk",fv),("a",av),("b",.QG),("autojunk",.Ys QJ),("matching_blocks",.QG),("opcodes",.QG)]
def iD3 (fv av bv:QU):QC (X8×QU):=[("isjunk",fv),("a",av),("b",bv),("autojunk",.Ys QJ),("matching_blocks",.QG),("opcodes",.QG),("fullbcount",.QG)]
theorem LH {s ds la:QH} {fv:QU} {Q:QU->QE->Prop} (hs:QS s=.Q5L 259 ds) (hd:QS ds=.Q1X (iD1 fv)) (hne:s≠ds)
  (h:∀XH,QGW [ds] σ XH->X5 ds=.Q1X (iD2 fv (.QQ la))->Q .QG XH) :
  Ae (G P) (d+1) (.imm (.QQ 191)) [.QQ s,.QQ la] σ Q:=by
 injections P d σ s ds la fv Q _ _ _ _
 refine BQ (AE (BP P) QA ?_ ?_ 40 ?_)
 ·kernel_rfl
 ·kernel_rfl
 intros σ1 hh hn hl
 have h1:Za "self"=QB (.QQ s):=hl _ _ (by kernel_rfl)
 have h2:Za "a"=QB (.QQ la):=hl _ _ (by kernel_rfl)
 rw [<- hh]at hs hd
 unfold iD1 at hd
 refine Ar ?_
 repeat keq_hits
 refine h _ (.of hh hn ?_) ?_
 ·repeat kwd_rel
 ·exact QY QA
end
end
structure JF (P:Params) (d:Nat) (fv:Val) (J:Key->Bool) (ok:Key->Prop) (S:List Nat) (σ:Mini.St):Prop where
 lt:∀l∈S,l < σ.nx
 hand:Bf fv=true
 truth:∀σ':Mini.St,(∀l∈S,σ'.hp l=σ.hp l)->∀R:Bool->Mini.St->Prop,R true σ'->AC (K P) fv σ' R
 keep:∀σ':Mini.St,(∀l∈S,σ'.hp l=σ.hp l)->Bw (K P) σ' fv
 call:∀σ':Mini.St,(∀l∈S,σ'.hp l=σ.hp l)->∀k,ok k->∀Q:Val->Mini.St->Prop,(∀σ'',Gro σ' σ''->Q (.bool (J k)) σ'')->Ae (G P) d fv [k.val] σ' Q
noncomputable def iD4 (fv av bv xv jv pv:Val):List (Str×Val):=[("isjunk",fv),("a",av),("b",bv),("autojunk",.bool false),("matching_blocks",.none),("opcodes",.none),("fullbcount",.none),("b2j",xv),("bjunk",jv),("bpopular",pv)]
section
variable {P:Params} {d:Nat} {σ:Mini.St}
theorem J6 {s ds lb:Nat} {fv av:Val} {B:List Key} {J:Key->Bool} {ok:Key->Prop} {S:List Nat} {Q:Val->Mini.St->Prop} (hs:σ.hp s=.inst 259 ds) (hd:σ.hp ds=.idict (iD3 fv av (.ref lb))) (hb:σ.hp lb=.list (B.map Key.val))
  (hne:s≠ds) (hne2:lb≠ds) (ls:s < σ.nx) (lds:ds < σ.nx) (llb:lb < σ.nx) (hB:B.length<=4000) (hJ:JF P d fv J ok S σ) (hok:∀k∈B,ok k) (hS:ds∉S) (hH:Bf fv=true) (hHa:Bf av=true)
  (h:∀σ' bj js bp kvs xs,GroX [ds] σ σ'->σ'.hp ds=.idict (iD4 fv av (.ref lb) (.ref bj) (.ref js) (.ref bp))->σ.nx<=bj->bj < σ'.nx->σ.nx<=js->js < σ'.nx->σ'.hp bj=.dict kvs ->
   (∀k,k∈B->J k=false->∃l,Ak kvs k=some (.ref l)/\σ.nx<=l/\l < σ'.nx/\σ'.hp l=.list ((B6 B k).map fun i:Nat=>.int i))->(∀k,(k∉B\/J k=true)->Ak kvs k=none) ->
   σ'.hp js=.set xs->(∀k,k∈xs↔k∈B/\J k=true)->Q .none σ') :
  Ae (G P) (d+1) (.imm (.ref 205)) [.ref s] σ Q:=by
 injections P d σ s ds lb fv av B J ok S Q _ _ _ _ _ _ _ _ _ _ _ _ _ _ _
 refine BQ (AE (BF P) rfl ?_ ?_ 40 ?_)
 ·kernel_rfl
 ·kernel_rfl
 intros σ1 hh hn hl
 have h1:σ1.loc "self"=some (.ref s):=hl _ _ (by kernel_rfl)
 rw [<- hh]at hs hd hb
 rw [<- hn]at ls lds llb
 unfold iD3 at hd
 refine Ar ?_
 repeat keq_hits
 refine Ax (fun t σ'=>(σ'.loc "self"=some (.ref s)/\σ'.loc "b"=some (.ref lb)/\σ'.loc "b2j"=some (.ref σ1.nx))/\GroH [ds] σ1 σ'/\σ1.nx < σ'.nx/\σ'.hp ds=.idict (("isjunk",fv)::("a",av)::("b",.ref lb)::("autojunk",.bool false)::("matching_blocks",.none)::("opcodes",.none)::("fullbcount",.none)::("b2j",.ref σ1.nx)::[])/\∃kvs,σ'.hp σ1.nx=.dict kvs/\L1 σ'.hp (σ1.nx+1) σ'.nx kvs (B.take t)) (fun _=>False) (fun _ _=>False) ?_ ?_ ?_ ?_ (fun _ q=>q.elim) (fun _ _ q=>q.elim)
 ·refine ⟨⟨?_,?_,?_⟩,?_,?_,?_,?_⟩
  ·keq_rows
  ·keq_rows
  ·keq_rows
  ·repeat kwd_rel
  ·kwd_less
  ·kas_types
  ·exact ⟨[],by have:=Cj lds;kas_types,.nil⟩
 ·intros t σ2 xq01
  obtain ⟨_,g,_⟩:=xq01
  rw [g.hp lb llb (by simpa using hne2),hb]
 ·intros t x σ2 hx hI R hn' hc' u1 u2
  obtain ⟨⟨i1,i2,i3⟩,g,hx0,i4,kvs,i5,L⟩:=hI
  have zO:∃e,B[t]?=some e/\x=(t,e.val):=by
   have ht:t < B.length:=by
    have:=(List.getElem?_eq_some_iff.mp hx).1
    rw [Dk,List.length_map]at this;exact this
   have h3:(B.map Key.val)[t]?=some (B[t]'ht).val:=by rw [List.getElem?_map,List.getElem?_eq_getElem ht];rfl
   have h2:=Hi h3
   rw [h2]at hx
   exact ⟨B[t]'ht,List.getElem?_eq_getElem ht,(Option.some.inj hx).symm⟩
  obtain ⟨e,he,rfl⟩:=zO
  dsimp only
  have:=Ag hx0;repeat keq_hits
  have gL:∀l,Ak kvs e=some (.ref l)->σ1.nx+1<=l/\l < σ2.nx/\σ2.hp l=.list ((B6 (B.take t) e).map fun i:Nat=>.int i):=by
   intros l hu
   have:e∈B.take t:=Classical.byContradiction fun n=>by rw [L.not e n]at hu;cases hu
   obtain ⟨l',g1,g2,g3,g4⟩:=(L.has e this)
   rw [hu]at g1;cases g1;exact ⟨g2,g3,g4⟩
  refine GB (kvs:=kvs) (k:=e) ?_ rfl ?_ ?_ ?_
  ·have:=Ag hx0;kas_types
  ·have:=L.len;rw [List.length_take]at this;rw [sizeLine_eq];exact Nat.le_trans this (Nat.le_trans (Nat.min_le_right _ _) (Nat.le_trans hB (Nat.le_of_ble_eq_true rfl)))
  ·intros u hu
   have zO:∃l,u=.ref l:=by
    have:e∈B.take t:=Classical.byContradiction fun n=>by rw [L.not e n]at hu;cases hu
    obtain ⟨l',g1,_⟩:=(L.has e this)
    rw [hu]at g1;cases g1;exact ⟨l',rfl⟩
   obtain ⟨l,rfl⟩:=zO
   obtain ⟨g2,g3,g4⟩:=(gL l hu)
   have:=Ag g3;repeat keq_hits
   refine Bc (xs:=(B6 (B.take t) e).map fun i:Nat=>.int i) ?_ ?_ ?_
   ·have:=Ag g3;kas_types
   ·rw [List.length_map,sizeLine_eq]
    have:(B6 (B.take t) e).length<=t:=by
     unfold B6
     exact Nat.le_trans (List.length_filter_le ..) (by rw [List.length_range,List.length_take];exact Nat.min_le_left _ _)
    have:=(List.getElem?_eq_some_iff.mp he).1
    exact WW hB (by assumption) this
   repeat keq_hits
   refine hn' _ ⟨⟨?_,?_,?_⟩,?_,?_,?_,kvs,?_,?_⟩
   ·keq_rows
   ·keq_rows
   ·keq_rows
   ·have:=GL g2;repeat kwd_rel
   ·kwd_less
   ·have:=WV lds g2;have:=RI lds g2 g3;have:=WU lds g2 g3;kas_types
   ·have:=WT g2;have:=Ag hx0;kas_types
   ·refine L.old he hu ?_ ?_ ?_
    ·kwd_less
    ·rw [List.map_append,List.map_singleton];kas_types
    ·intros k k1 k2 k3
     have:=Ag k2;kas_types
  ·intros hu
   repeat keq_hits
   refine Bc (xs:=[]) ?_ ?_ ?_
   ·kas_types
   ·simp
   rw [List.nil_append]
   repeat keq_hits
   refine hn' _ ⟨⟨?_,?_,?_⟩,?_,?_,?_,kvs++[(e,.ref (σ2.nx+1))],?_,?_⟩
   ·keq_rows
   ·keq_rows
   ·keq_rows
   ·have:=Sy hx0;repeat kwd_rel
   ·kwd_less
   ·have:=Ds lds hx0;have:=Ag lds;have:=DJ lds hx0;kas_types
   ·rw [<- Lu hu];kas_types
   ·refine L.new he hu ?_ ?_ ?_ ?_ ?_
    ·exact EA
    ·exact WS hx0
    ·kwd_less
    ·kas_types
    ·intros k k1 k2
     have:=Rm k1;have:=Ag k2;kas_types
 ·intros σ' hI
  obtain ⟨⟨i1,i2,i3⟩,g,hx0,i4,kvs,i5,L⟩:=hI
  have gn:=g.nx
  rw [Dk,List.length_map,List.take_length]at L
  have e1:σ'.hp s=.inst 259 ds:=by rw [g.hp s ls (by simpa using hne)];exact hs
  have e2:σ'.hp lb=.list (B.map Key.val):=by rw [g.hp lb llb (by simpa using hne2)];exact hb
  have:=DJ ls hx0;have:=DJ lds hx0;repeat keq_hits
  have hJs:∀l∈S,l < σ1.nx:=fun l hl=>by rw [hn];exact hJ.lt l hl
  have hSd:∀l∈S,l≠ds:=fun l hl q=>hS (q▸hl)
  refine hJ.truth _ ?_ _ ?_
  ·intros l hl
   have k1:=hJs l hl
   have k2:=hSd l hl
   rw [<- hh,<- g.hp l k1 (by simpa using k2)]
   have:=WR hx0 k1;kas_types
  have:=Cj lds;have:=Ag hx0;repeat keq_hits
  refine Pv (kvs:=kvs) ?_ ?_
  ·have:=Cj lds;have:=Ag hx0;kas_types
  have:=Cj lds;have:=Ag hx0;repeat keq_hits
  intros co
  refine Ax (fun t σ2=>(σ2.loc "self"=some (.ref s)/\σ2.loc "b"=some (.ref lb)/\σ2.loc "b2j"=some (.ref σ1.nx)/\σ2.loc "junk"=some (.ref σ'.nx)/\σ2.loc "isjunk"=some fv)/\GroH [ds,σ1.nx] σ' σ2/\σ'.nx < σ2.nx/\σ2.hp ds=.idict (("isjunk",fv)::("a",av)::("b",.ref lb)::("autojunk",.bool false)::("matching_blocks",.none)::("opcodes",.none)::("fullbcount",.none)::("b2j",.ref σ1.nx)::("bjunk",.ref σ'.nx)::[])/\σ2.hp σ1.nx=.raw co/\∃xs,σ2.hp σ'.nx=.set xs/\(∀k,k∈xs↔k∈(kvs.map (·.1)).take t/\J k=true)/\xs.Nodup/\xs.length<=t) (fun _=>False) (fun _ _=>False) ?_ ?_ ?_ ?_ (fun _ q=>q.elim) (fun _ _ q=>q.elim)
  ·refine ⟨⟨?_,?_,?_,?_,?_⟩,?_,?_,?_,?_,[],?_,?_,.nil,Nat.le_refl _⟩
   ·keq_rows
   ·keq_rows
   ·keq_rows
   ·keq_rows
   ·keq_rows
   ·repeat kwd_rel
   ·kwd_less
   ·have:=Ag lds;have:=Ds lds hx0;kas_types
   ·kas_types
   ·have:=Cj hx0;have:=Rl lds hx0;kas_types
   ·simp
  ·intros t σ2 xq02
   obtain ⟨_,_,_,_,q,_⟩:=xq02
   exact q
  ·intros t x σ2 hx hI R hn' hc' u3 u4
   obtain ⟨⟨j1,j2,j3,j4,j5⟩,g2,hx2,j6,j7,xs,j8,j9,j10,j11⟩:=hI
   have zO:∃e,(kvs.map (·.1))[t]?=some e/\x=e.val:=by
    rw [show (kvs.map fun p=>p.1.val)=(kvs.map (·.1)).map Key.val by rw [List.map_map];rfl,List.getElem?_map]at hx
    cases q:(kvs.map (·.1))[t]? with
    | none=>rw [q]at hx;cases hx
    | some e=>rw [q]at hx;exact ⟨e,rfl,(Option.some.inj hx).symm⟩
   obtain ⟨e,he,rfl⟩:=zO
   have heB:e∈B:=by
    refine Classical.byContradiction ?_
    intros n
    have:=BU.mpr (List.mem_of_getElem? he)
    rw [L.not e n]at this;cases this
   have htl:t < kvs.length:=by
    have:=(List.getElem?_eq_some_iff.mp he).1
    rwa [List.length_map]at this
   have hlen:=L.len
   have gn2:=g2.nx
   have hSk:∀σ3:Mini.St,(∀l,l < σ'.nx->l≠ds->l≠σ1.nx->σ3.hp l=σ2.hp l)->∀l∈S,σ3.hp l=σ.hp l:=by
    intros σ3 q l hl
    have k1:=hJs l hl
    have k2:=hSd l hl
    have k3:l≠σ1.nx:=by exact Ag k1
    rw [q l (by exact Dr hx0 k1) k2 k3,g2.hp l (by exact Dr hx0 k1) (by simp;exact ⟨k2,k3⟩),g.hp l k1 (by simpa using k2),hh]
   try dsimp only
   repeat keq_hits
   refine ⟨hJ.keep _ (hSk _ fun l q1 q2 q3=>by kas_types),?_⟩
   refine hJ.call _ (hSk _ fun l q1 q2 q3=>by kas_types) e (hok e heB) _ ?_;intros σ3 g3
   have gn3:σ2.nx<=σ3.nx:=g3.nx
   have hq:∀l,l < σ2.nx->σ3.hp l=σ2.hp l:=fun l hl=>g3.hp l hl
   have a1:σ3.loc "self"=some (.ref s):=by rw [g3.loc];keq_rows
   have a2:σ3.loc "b"=some (.ref lb):=by rw [g3.loc];keq_rows
   have a3:σ3.loc "b2j"=some (.ref σ1.nx):=by rw [g3.loc];keq_rows
   have a4:σ3.loc "junk"=some (.ref σ'.nx):=by rw [g3.loc];keq_rows
   have a5:σ3.loc "isjunk"=some fv:=by rw [g3.loc];keq_rows
   have a6:σ3.loc "elt"=some e.val:=by rw [g3.loc];keq_rows
   have b1:=(hq ds (by exact H5 lds hx0 hx2)).trans j6
   have b2:=(hq σ1.nx (by exact Ds hx0 hx2)).trans j7
   have b3:=(hq σ'.nx hx2).trans j8
   have G3:GroH [ds,σ1.nx] σ' σ3:=⟨by exact Rs hx2 gn3,fun l hl hx=>(hq l (by exact Dr hx2 hl)).trans (g2.hp l hl hx)⟩
   have hnx:e∉xs:=by
    intros q
    have q1:=((j9 e).mp q).1
    obtain ⟨i,hi⟩:=List.mem_iff_getElem?.mp q1
    rw [List.getElem?_take]at hi
    split at hi
    ·rename_i hlt
     have:=(List.getElem?_inj (i:=i) (j:=t) (by rw [List.length_map];exact Dr htl hlt) L.nd).mp (by rw [hi,he])
     exact Rk hlt this
    ·cases hi
   have hmem:∀k,k∈(kvs.map (·.1)).take (t+1)↔k∈(kvs.map (·.1)).take t\/k=e:=fun k=>Az he
   refine OD ?_
   refine BE ?_ ?_
   ·intros hJe
    repeat keq_hits
    refine Up (xs:=xs) (k:=e) ?_ rfl ?_ ?_
    ·kas_types
    ·have:scanBound=4096:=rfl
     exact WQ hB j11 htl hlen this
    rw [if_neg hnx]
    repeat keq_hits
    refine hn' _ ⟨⟨?_,?_,?_,?_,?_⟩,?_,?_,?_,?_,xs++[e],?_,?_,?_,?_⟩
    ·keq_rows
    ·keq_rows
    ·keq_rows
    ·keq_rows
    ·keq_rows
    ·repeat kwd_rel
    ·have:=B8 hx2 gn3;kwd_less
    ·have:=DJ lds hx0;kas_types
    ·have:=Ag hx0;kas_types
    ·kas_types
    ·intros k
     rw [List.mem_append,List.mem_singleton,j9,hmem]
     constructor
     ·rintro (q | rfl)
      ·exact ⟨.inl q.1,q.2⟩
      ·exact ⟨.inr rfl,hJe⟩
     ·rintro ⟨q | rfl,q2⟩
      ·exact .inl ⟨q,q2⟩
      ·exact .inr rfl
    ·rw [List.nodup_append]
     exact ⟨j10,by simp,fun a ha b hb=>by rw [List.mem_singleton]at hb;subst hb;intro q;subst q;exact hnx ha⟩
    ·rw [List.length_append,List.length_singleton];exact zq2 j11
   ·intros hJe
    repeat keq_hits
    refine hn' _ ⟨⟨a1,a2,a3,a4,a5⟩,G3,by exact B8 hx2 gn3,b1,b2,xs,b3,?_,j10,by exact Hs j11⟩
    intros k
    rw [j9,hmem]
    constructor
    ·rintro q;exact ⟨.inl q.1,q.2⟩
    ·rintro ⟨q | rfl,q2⟩
     ·exact ⟨q,q2⟩
     ·rw [hJe]at q2;cases q2
  ·intros σ2 hI
   obtain ⟨⟨j1,j2,j3,j4,j5⟩,g2,hx2,j6,j7,xs,j8,j9,j10,j11⟩:=hI
   have gn2:=g2.nx
   refine ⟨j7,?_⟩
   rw [List.length_map,<- List.length_map (f:=(·.1)),List.take_length]at j9
   have c1:σ2.hp s=.inst 259 ds:=by rw [g2.hp s (by exact Ds ls hx0) (by simp;exact ⟨hne,by exact Ag ls⟩)];exact e1
   have c2:σ2.hp lb=.list (B.map Key.val):=by rw [g2.hp lb (by exact Ds llb hx0) (by simp;exact ⟨hne2,by exact Ag llb⟩)];exact e2
   have:=Cj hx0;repeat keq_hits
   intros co2 ys hys
   refine Ax (fun t σ4=>(σ4.loc "self"=some (.ref s)/\σ4.loc "b"=some (.ref lb)/\σ4.loc "b2j"=some (.ref σ1.nx))/\GroH [ds,σ1.nx] σ' σ4/\σ'.nx < σ4.nx/\σ4.hp ds=.idict (("isjunk",fv)::("a",av)::("b",.ref lb)::("autojunk",.bool false)::("matching_blocks",.none)::("opcodes",.none)::("fullbcount",.none)::("b2j",.ref σ1.nx)::("bjunk",.ref σ'.nx)::[])/\σ4.hp σ'.nx=.raw co2/\∃kvs',σ4.hp σ1.nx=.dict kvs'/\(∀k,Ak kvs' k=if k∈ys.take t then none else Ak kvs k)/\kvs'.length<=kvs.length) (fun _=>False) (fun _ _=>False) ?_ ?_ ?_ ?_ (fun _ q=>q.elim) (fun _ _ q=>q.elim)
   ·refine ⟨⟨?_,?_,?_⟩,?_,?_,?_,?_,kvs,?_,?_,Nat.le_refl _⟩
    ·keq_rows
    ·keq_rows
    ·keq_rows
    ·repeat kwd_rel
    ·kwd_less
    ·have:=DJ lds hx0;have:=Ag lds;kas_types
    ·kas_types
    ·have:=Ag hx0;kas_types
    ·intros k;simp
   ·intros t σ4 xq03
    obtain ⟨_,_,_,_,q,_⟩:=xq03
    exact q
   ·intros t x σ4 hx hI R hn' hc' u5 u6
    obtain ⟨⟨d1,d2,d3⟩,g4,hx4,d4,d5,kv4,d6,d7,d8⟩:=hI
    have gn4:=g4.nx
    have zO:∃e,ys[t]?=some e/\x=e.val:=by
     rw [List.getElem?_map]at hx
     cases q:ys[t]? with
     | none=>rw [q]at hx;cases hx
     | some e=>rw [q]at hx;exact ⟨e,rfl,(Option.some.inj hx).symm⟩
    obtain ⟨e,he,rfl⟩:=zO
    have hyn:ys.Nodup:=hys.nodup_iff.mpr j10
    have het:e∉ys.take t:=by
     intros q
     obtain ⟨i,hi⟩:=List.mem_iff_getElem?.mp q
     rw [List.getElem?_take]at hi
     split at hi
     ·rename_i hlt
      have hil:i < ys.length:=(List.getElem?_eq_some_iff.mp hi).1
      have:=(List.getElem?_inj (i:=i) (j:=t) hil hyn).mp (by rw [hi,he])
      exact Rk hlt this
     ·cases hi
    have hek:(Ak kv4 e).isSome=true:=by
     rw [d7,if_neg het]
     exact BU.mpr ((j9 e).mp (hys.mem_iff.mp (List.mem_of_getElem? he))).1
    have hlen:=L.len
    try dsimp only
    repeat keq_hits
    refine Pm (kvs:=kv4) (k:=e) ?_ rfl ?_ hek ?_
    ·kas_types
    ·rw [sizeLine_eq];exact WP hB d8 hlen
    repeat keq_hits
    refine hn' _ ⟨⟨?_,?_,?_⟩,?_,?_,?_,?_,EL kv4 e,?_,?_,?_⟩
    ·keq_rows
    ·keq_rows
    ·keq_rows
    ·repeat kwd_rel
    ·kwd_less
    ·have:=Ag lds;kas_types
    ·have:=Cj hx0;kas_types
    ·kas_types
    ·intros k
     rw [Lw,d7]
     by_cases q:k=e
     ·rw [if_pos q,if_pos (((Az he).mpr (.inr q)))]
     ·rw [if_neg q]
      by_cases q2:k∈ys.take t
      ·rw [if_pos q2,if_pos ((Az he).mpr (.inl q2))]
      ·rw [if_neg q2,if_neg (fun r=>((Az he).mp r).elim q2 q)]
    ·have:=HK kv4 e;exact WO d8 this
   ·intros σ4 hI
    obtain ⟨⟨d1,d2,d3⟩,g4,hx4,d4,d5,kv4,d6,d7,d8⟩:=hI
    have gn4:=g4.nx
    refine ⟨d5,?_⟩
    rw [List.length_map,List.take_length]at d7
    have f1:σ4.hp s=.inst 259 ds:=by rw [g4.hp s (by exact Ds ls hx0) (by simp;exact ⟨hne,by exact Ag ls⟩)];exact e1
    have f2:σ4.hp lb=.list (B.map Key.val):=by rw [g4.hp lb (by exact Ds llb hx0) (by simp;exact ⟨hne2,by exact Ag llb⟩)];exact e2
    have:=H5 ls hx0 hx4;have:=DJ ls hx0;have:=H5 lds hx0 hx4;have:=DJ lds hx0;repeat keq_hits
    refine F3 (xs:=B.map Key.val) ?_ ?_ ?_
    ·have:=H5 llb hx0 hx4;have:=DJ llb hx0;kas_types
    ·rw [List.length_map,sizeLine_eq];exact GK hB
    have:=H5 ls hx0 hx4;have:=DJ ls hx0;repeat keq_hits
    refine h _ σ1.nx σ'.nx σ4.nx kv4 xs (.of hh hn ?_) ?_ ?_ ?_ ?_ ?_ ?_ ?_ ?_ ?_ ?_
    ·have:GroH [ds,σ1.nx] σ' {loc:=σ4.loc,hp:=σ4.hp,nx:=σ4.nx}:=g4
     have g5:GroH [ds] σ1 σ4:=⟨by exact WN hx0 hx4,fun l hl hx=>by
      have:l≠ds:=by simpa using hx
      rw [g4.hp l (by exact Dr hx0 hl) (by simp;exact ⟨this,by exact Ag hl⟩),g.hp l hl hx]⟩
     repeat kwd_rel
    ·dsimp only
     unfold iD4
     kas_types
    ·exact Ko hn
    ·dsimp only
     have:=Ds hx0 hx4;kwd_less
    ·exact WM hn hx0
    ·dsimp only
     kwd_less
    ·dsimp only
     have:=Cj lds;have:=Ds hx0 hx4;have:=Ag hx0;kas_types
    ·intros k hk hkJ
     obtain ⟨l,r1,r2,r3,r4⟩:=(L.has k hk)
     refine ⟨l,?_,by exact WK hn r2,?_,?_⟩
     ·rw [d7,if_neg]
      ·exact r1
      ·intros q
       have:=((j9 k).mp (hys.mem_iff.mp q)).2
       rw [hkJ]at this;cases this
     ·dsimp only
      have:=Dr hx4 r3;kwd_less
     ·dsimp only
      have hlds:l≠ds:=by exact WJ lds r2
      have hl5:σ4.hp l=.list ((B6 B k).map fun i:Nat=>.int i):=by rw [g4.hp l r3 (by simp;exact ⟨hlds,by exact Rm r2⟩)];exact r4
      have:=Dr hx4 r3;have:=Ag r3;kas_types
    ·intros k hk
     rw [d7]
     split
     ·rfl
     ·rename_i q
      rcases hk with hk | hk
      ·exact L.not k hk
      ·refine Classical.byContradiction ?_;intros n;refine q ?_
       refine hys.mem_iff.mpr ((j9 k).mpr ⟨BU.mp ?_,hk⟩)
       cases e:Ak kvs k with
       | none=>exact absurd e n
       | some _=>rfl
    ·dsimp only
     have:=Rl lds hx0;kas_types
    ·intros k
     rw [j9]
     constructor
     ·intros xq04
      obtain ⟨q,q2⟩:=xq04
      refine ⟨Classical.byContradiction ?_,q2⟩;intros n
      have:=BU.mpr q
      rw [L.not k n]at this;cases this
     ·intros xq05
      obtain ⟨q,q2⟩:=xq05
      refine ⟨BU.mp ?_,q2⟩
      obtain ⟨l,r1,_⟩:=(L.has k q)
      rw [r1];rfl
end
mutual
theorem JF.mono {P:Ql} {d:QH} {fv:QU} {J:Yh->Qu} {ok:Yh->Prop} {S:QC QH} {σ XH:QE} (h:JF P d fv J ok S σ) (hn:QO<=Xh) (hs:∀l∈S,X5 l=QS l):JF P d fv J ok S XH where
 lt:=fun l hl=>QP (h.lt l hl) hn
 hand:=h.hand
 truth:=fun σ2 q=>h.truth σ2 fun l hl=>(q l hl).QR (hs l hl)
 Q4c:=fun σ2 q=>h.keep σ2 fun l hl=>(q l hl).QR (hs l hl)
 Q0Q:=fun σ2 q=>h.call σ2 fun l hl=>(q l hl).QR (hs l hl)
structure SMOk (hp:QH->Ob) (hi:QH) (s ds bj js bp la lb:QH) (fv mb:QU) (Y5:QC (Yh×QU)) (xs A B:QC Yh) (J:Yh->Qu):Prop where
 Q5L:hp s=.Q5L 259 ds
 Q1X:hp ds=.Q1X [("isjunk",fv),("a",.QQ la),("b",.QQ lb),("autojunk",.Ys QJ),("matching_blocks",mb),("opcodes",.QG),("fullbcount",.QG),("b2j",.QQ bj),("bjunk",.QQ js),("bpopular",.QQ bp)]
 a:hp la=.Qs (Q9F Q12)
 b:hp lb=.Qs (Q9G Q12)
 b2j:hp bj=.Q04 Y5
 junk:hp js=.set xs
 has:∀k,k∈B->J k=QJ->∃l,Ak Y5 k=QB (.QQ l)/\l < hi/\l≠ds/\hp l=.Qs ((B6 B k).map fun i:QH=>.Qm i)
 not:∀k,(k∉B\/J k=QM)->Ak Y5 k=QG
 mem:∀k,k∈xs↔k∈B/\J k=QM
 ls:s < hi
 lds:ds < hi
 lla:la < hi
 llb:lb < hi
 lbj:bj < hi
 ljs:js < hi
 sds:s≠ds
 ads:la≠ds
 bds:lb≠ds
 jds:bj≠ds
 sjs:js≠ds
end
section
variable {P:Params} {d:Nat} {σ:Mini.St}
mutual
theorem LG {s ds lb:QH} {fv av:QU} {B:QC Yh} {J:Yh->Qu} {ok:Yh->Prop} {S:QC QH} {Q:QU->QE->Prop} (hs:QS s=.Q5L 259 ds) (hd:QS ds=.Q1X (iD2 fv av)) (hb:QS lb=.Qs (Q9G Q12))
  (hne:s≠ds) (hne2:lb≠ds) (ls:s < QO) (lds:ds < QO) (llb:lb < QO) (hB:Xn<=4000) (hJ:JF P d fv J ok S σ) (hok:∀k∈B,ok k) (hS:ds∉S) (hH:Bf fv=QM) (hHa:Bf av=QM)
  (h:∀XH bj js bp Y5 xs,QGW [ds] σ XH->X5 ds=.Q1X (iD4 fv av (.QQ lb) (.QQ bj) (.QQ js) (.QQ bp))->QO<=bj->bj < Xh->QO<=js->js < Xh->X5 bj=.Q04 Y5 ->
   (∀k,k∈B->J k=QJ->∃l,Ak Y5 k=QB (.QQ l)/\QO<=l/\l < Xh/\X5 l=.Qs ((B6 B k).map fun i:QH=>.Qm i))->(∀k,(k∉B\/J k=QM)->Ak Y5 k=QG) ->
   X5 js=.set xs->(∀k,k∈xs↔k∈B/\J k=QM)->Q .QG XH) :
  Ae (G P) (d+2) (.imm (.QQ 198)) [.QQ s,.QQ lb] σ Q:=by
 injections P d σ s ds lb fv av B J ok S Q _ _ _ _ _ _ _ _ _ _ _ _ _ _ _
 refine BQ (AE (BO P) QA ?_ ?_ 40 ?_)
 ·kernel_rfl
 ·kernel_rfl
 intros σ1 hh hn hl
 have h1:Za "self"=QB (.QQ s):=hl _ _ (by kernel_rfl)
 have h2:Za "b"=QB (.QQ lb):=hl _ _ (by kernel_rfl)
 rw [<- hh]at hs hd hb
 rw [<- hn]at ls lds llb
 unfold iD2 at hd
 refine Ar ?_
 repeat keq_hits
 refine J6 (B:=B) (J:=J) (ok:=ok) (S:=S) (fv:=fv) (av:=av) ?_ ?_ ?_ hne hne2 ls lds llb hB ?_ hok hS hH hHa ?_
 ·kas_types
 ·unfold iD3;kas_types
 ·kas_types
 ·refine QFM (by have:=Ko hn;kwd_less) ?_;intros l hl
  rw [<- hh]
  have:l≠ds:=fun q=>hS (q▸hl)
  kas_types
 intros XH bj js bp Y5 xs g g1 g2 g3 g4 g5 g6 g7 g8 g9 g10
 repeat keq_hits
 have gn:=Q7f
 refine h _ bj js bp Y5 xs ⟨?_,QA,?_⟩ g1 (by rw [<- hn];exact g2) g3 (by rw [<- hn];exact g4) g5 g6 ?_ g8 g9 g10
 ·rw [<- hn];exact gn
 ·intros l hl hx
  have hx':l≠ds:=by simpa using hx
  rw [<- hn]at hl
  refine (Q1a l hl hx).QR ?_
  rw [<- hh]
  kas_types
 ·intros k k1 k2
  obtain ⟨l,r1,r2,r3,r4⟩:=(g7 k k1 k2)
  exact ⟨l,r1,by rw [<- hn];exact r2,r3,r4⟩
theorem LF {s ds la lb:QH} {fv:QU} {A B:QC Yh} {J:Yh->Qu} {ok:Yh->Prop} {S:QC QH} {Q:QU->QE->Prop} (hs:QS s=.Q5L 259 ds) (hd:QS ds=.Q1X (iD1 fv)) (ha:QS la=.Qs (Q9F Q12)) (hb:QS lb=.Qs (Q9G Q12))
  (hne:s≠ds) (hne1:la≠ds) (hne2:lb≠ds) (ls:s < QO) (lds:ds < QO) (lla:la < QO) (llb:lb < QO) (hB:Xn<=4000) (hJ:JF P d fv J ok S σ) (hok:∀k∈B,ok k) (hS:ds∉S) (hH:Bf fv=QM)
  (h:∀XH bj js bp Y5 xs,QGW [ds] σ XH->SMOk X5 Xh s ds bj js bp la lb fv .QG Y5 xs A B J->Q .QG XH) :
  Ae (G P) (d+3) (.imm (.QQ 184)) [.QQ s,.QQ la,.QQ lb] σ Q:=by
 injections P d σ s ds la lb fv A B J ok S Q _ _ _ _ _ _ _ _ _ _ _ _ _ _ _ _ _
 refine BQ (AE (BN P) QA ?_ ?_ 40 ?_)
 ·kernel_rfl
 ·kernel_rfl
 intros σ1 hh hn hl
 have h1:Za "self"=QB (.QQ s):=hl _ _ (by kernel_rfl)
 have h2:Za "a"=QB (.QQ la):=hl _ _ (by kernel_rfl)
 have h3:Za "b"=QB (.QQ lb):=hl _ _ (by kernel_rfl)
 rw [<- hh]at hs hd ha hb
 rw [<- hn]at ls lds lla llb
 unfold iD1 at hd
 refine Ar ?_
 repeat keq_hits
 have hd':Q2A ds=.Q1X (iD1 fv):=hd
 refine LH hs hd' hne ?_;intros σ2 g k1
 have gn:=Q7f
 have c1:Z3 s=.Q5L 259 ds:=(Q1a s ls (by simpa using hne)).QR hs
 have c2:Z3 la=.Qs (Q9F Q12):=(Q1a la lla (by simpa using hne1)).QR ha
 have c3:Z3 lb=.Qs (Q9G Q12):=(Q1a lb llb (by simpa using hne2)).QR hb
 unfold iD2 at k1
 have a1:Q41 "self"=QB (.QQ s):=by rw [QAY];exact h1
 have a3:Q41 "b"=QB (.QQ lb):=by rw [QAY];exact h3
 repeat keq_hits
 have hSl:∀l∈S,l≠ds/\l < YD:=fun l hl=>⟨fun q=>hS (q▸hl),by rw [hn];exact hJ.lt l hl⟩
 refine LG (B:=B) (J:=J) (ok:=ok) (S:=S) c1 (show Z3 ds=.Q1X (iD2 fv (.QQ la)) from k1) c3 hne hne2 (by exact B8 ls gn) (by exact B8 lds gn) (by exact B8 llb gn) hB (QFM (by exact WH hn gn) ?_) hok hS hH QA ?_
 ·intros l hl
  rw [<- hh]
  exact Q1a l (hSl l hl).2 (by simpa using (hSl l hl).1)
 intros σ3 bj js bp Y5 xs g' g1 g2 g3 g4 g5 g6 g7 g8 g9 g10
 have gn':=Q52
 repeat keq_hits
 have gg:QGW [ds] σ1 {σ3 with loc:=Za}:=⟨by show YD<=Q0l;exact WG gn g4 g5,QA,fun l hl hx=>(Q0S l (by exact Be gn hl) hx).QR (Q1a l hl hx)⟩
 refine h _ bj js bp Y5 xs ⟨by rw [<- hn];exact gg.nx,QA,fun l hl hx=>by rw [<- hh];exact gg.hp l (by rw [hn];exact hl) hx⟩ ?_
 exact {
     Q5L:=(Q0S s (by exact B8 ls gn) (by simpa using hne)).QR c1,Q1X:=g1,a:=(Q0S la (by exact B8 lla gn) (by simpa using hne1)).QR c2,b:=(Q0S lb (by exact B8 llb gn) (by simpa using hne2)).QR c3,b2j:=g6,junk:=g9,has:=fun k q1 q2=>by
      refine ew1 (g7 k q1 q2) fun l yq8w=>?_;refine an4 yq8w fun r1 r2 r3 r4=>?_;clear yq8w
      exact ⟨l,r1,r3,by exact L5 lds gn r2,r4⟩
     not:=g8,mem:=g10,ls:=(by show s < Q0l;exact Kj ls gn g4 g5),lds:=(by show ds < Q0l;exact Kj lds gn g4 g5),lla:=(by show la < Q0l;exact Kj lla gn g4 g5),llb:=(by show lb < Q0l;exact Kj llb gn g4 g5),lbj:=g3,ljs:=g5,sds:=hne,ads:=hne1,bds:=hne2,jds:=(by exact L5 lds gn g2),sjs:=(by exact L5 lds gn g4)}
theorem Px {la lb:QH} {fv:QU} {A B:QC Yh} {J:Yh->Qu} {ok:Yh->Prop} {S:QC QH} {Q:QU->QE->Prop} (ha:QS la=.Qs (Q9F Q12)) (hb:QS lb=.Qs (Q9G Q12))
  (lla:la < QO) (llb:lb < QO) (hB:Xn<=4000) (hJ:JF P d fv J ok S σ) (hok:∀k∈B,ok k) (hH:Bf fv=QM)
  (h:∀XH s ds bj js bp Y5 xs,Gro σ XH->QO<=s->QO<=ds->SMOk X5 Xh s ds bj js bp la lb fv .QG Y5 xs A B J->Q (.QQ s) XH) :
  Ae (G P) (d+4) (.imm (.QQ 259)) [fv,.QQ la,.QQ lb,.Ys QJ] σ Q:=by
 injections P d σ la lb fv A B J ok S Q _ _ _ _ _ _ _ _ _
 refine N1 ⟨177,Np P,by kernel_rfl,by kernel_rfl,?_⟩
 refine AE (B7 P) QA ?_ ?_ 40 ?_
 ·kernel_rfl
 ·kernel_rfl
 intros σ1 hh hn hl
 have h1:Za "self"=QB (.QQ (QO+1)):=hl _ _ (by kernel_rfl)
 have h2:Za "isjunk"=QB fv:=hl _ _ (by kernel_rfl)
 have h3:Za "a"=QB (.QQ la):=hl _ _ (by kernel_rfl)
 have h4:Za "b"=QB (.QQ lb):=hl _ _ (by kernel_rfl)
 have h5:Za "autojunk"=QB (.Ys QJ):=hl _ _ (by kernel_rfl)
 have hn2:YD=QO+2:=hn
 have hs:Q2A (QO+1)=.Q5L 259 QO:=by rw [hh];kas_types
 have hd:Q2A QO=.Q1X []:=by rw [hh];kas_types
 have ha1:Q2A la=.Qs (Q9F Q12):=by rw [hh];have:=Ag lla;kas_types
 have hb1:Q2A lb=.Qs (Q9G Q12):=by rw [hh];have:=Ag llb;kas_types
 have hold:∀l,l < QO->Q2A l=QS l:=fun l hl=>by rw [hh];have:=Ag hl;kas_types
 refine Ar ?_
 repeat keq_hits
 refine LF (A:=A) (B:=B) (J:=J) (ok:=ok) (S:=S) (fv:=fv) (ds:=QO) (la:=la) (lb:=lb) ?_ ?_ ?_ ?_ (by exact acd) (by exact Ag lla) (by exact Ag llb) ?_ ?_ ?_ ?_ hB ?_ hok ?_ hH ?_
 ·kas_types
 ·unfold iD1;kas_types
 ·have:=Ag lla;kas_types
 ·have:=Ag llb;kas_types
 ·have:=WF hn2;kwd_less
 ·have:=WE hn2;kwd_less
 ·have:=Rj lla hn2;kwd_less
 ·have:=Rj llb hn2;kwd_less
 ·refine QFM ?_ ?_
  ·have:=Ri hn2;kwd_less
  intros l hl
  have:=hJ.lt l hl
  rw [<- hold l this]
  have:=Ag this;kas_types
 ·intros q
  have:=hJ.lt _ q
  exact WD this
 intros σ2 bj js bp Y5 xs g sm
 have gn:=Q7f
 repeat keq_hits
 refine ⟨QA,h _ (QO+1) QO bj js bp Y5 xs ⟨?_,QA,?_⟩ (by exact EA) (Qh _) sm⟩
 ·dsimp only
  refine Qz ?_ gn
  have:=Ri hn2;kwd_less
 ·intros l hl
  dsimp only
  rw [Q1a l (by have:=WC hn2 hl;kwd_less) (by simp;exact Ag hl),<- hold l hl]
  have:=Ag hl;kas_types
end
end
mutual
def MM (A B:QC Yh) (i j:QH):Qu:=match A[i]?,B[j]? with
 | QB x,QB y=>XY (x=y)
 | _,_=>QJ
def UU (B:QC Yh) (J:Yh->Qu) (j:QH):Qu:=match B[j]? with
 | QB y=>J y
 | QG=>QJ
theorem JM {A B:QC Yh} {i j:QH}:MM A B i j=QM↔∃x,A[i]?=QB x/\B[j]?=QB x:=by
 unfold MM
 cases ha:A[i]? with
 | QG=>simp
 | QB x =>
  cases hb:B[j]? with
  | QG=>simp
  | QB y =>
   simp only [Xm]
   constructor
   ·rintro QA;exact ⟨x,QA,QA⟩
   ·rintro ⟨z,h1,h2⟩;cases h1;cases h2;rfl
theorem M1 {hp:QH->Ob} {hi s ds bj js bp la lb no:QH} {fv mb:QU} {Y5:QC (Yh×QU)} {xs A B:QC Yh} {J:Yh->Qu} (sm:SMOk hp hi s ds bj js bp la lb fv mb Y5 xs A B J) {hp':QH->Ob} (hno:hp' no=.Qs []) (hk:∀l,l < hi->hp' l=hp l) {i:QH} {k:Yh} (hi:A[i]?=QB k) :
  ∃(l:QH) (L:QC QH),(Ak Y5 k).Q4m (.QQ no)=.QQ l/\hp' l=.Qs (L.map fun i:QH=>.Qm i)/\(∀j,j∈L↔MM A B i j=QM/\UU B J j=QJ)/\Q5c (· < ·)/\(∀j∈L,j < Xn)/\Q6l<=Xn:=by
 have len:(B6 B k).ZT<=Xn:=by
  unfold B6;exact Qz (Q49 ..) (by rw [Y9];exact Qh _)
 have nomem:(k∉B\/J k=QM)->∀j,¬(MM A B i j=QM/\UU B J j=QJ):=by
  intro h j Q2X
  obtain (⟨h1,h2⟩):=Q2X
  refine ew1 (JM.mp h1) fun x yq8x=>?_;refine an2 yq8x fun e1 e2=>?_;clear yq8x
  rw [hi]at e1;cases e1
  unfold UU at h2
  rw [e2]at h2
  dsimp only at h2
  rcases h with h | h
  ·exact h (XG e2)
  ·rw [h]at h2;cases h2
 by_cases hB:k∈B
 ·cases hJ:J k with
  | QJ =>
   refine ew1 (sm.has k hB hJ) fun l yq8y=>?_;refine an4 yq8y fun h1 h2 h3 h4=>?_;clear yq8y
   refine ⟨l,B6 B k,by rw [h1];rfl,by rw [hk l h2];exact h4,fun j=>?_,I3 B k,fun j hj=>?_,len⟩
   ·rw [IR]
    constructor
    ·intro q;exact ⟨JM.mpr ⟨k,hi,q⟩,by unfold UU;rw [q];exact hJ⟩
    ·intro Q6r
     obtain (⟨q,_⟩):=Q6r
     refine ew1 (JM.mp q) fun x yq8z=>?_;refine an2 yq8z fun e1 e2=>?_;clear yq8z
     rw [hi]at e1;cases e1;exact e2
   ·exact (QX (IR.mp hj)).1
  | QM =>
   rw [sm.not k (.inr hJ)]
   exact ⟨no,[],QA,hno,fun j=>⟨fun q=>(by cases q),fun q=>(nomem (.inr hJ) j q).Q2m⟩,.Zo,fun j q=>(by cases q),XQ _⟩
 ·rw [sm.not k (.inl hB)]
  exact ⟨no,[],QA,hno,fun j=>⟨fun q=>(by cases q),fun q=>(nomem (.inl hB) j q).Q2m⟩,.Zo,fun j q=>(by cases q),XQ _⟩
def Ei (M:QH->QH->Qu) (U:QH->Qu) (w:Win) (i:QH) (C:QH->Prop) (kv:QC (Yh×QU)):Prop :=
 ∀z:X4,(∀y:QH,z=y->C y->Y1<=y->y < Q0I->0 < An M U Y0 Y1 i y->Ak kv (.i z)=QB (.Qm (An M U Y0 Y1 i y))) /\
  ((∀y:QH,z=y->C y->Y1<=y->y < Q0I->An M U Y0 Y1 i y=0)->Ak kv (.i z)=QG)
theorem Ei.prev {M:QH->QH->Qu} {U:QH->Qu} {w:Win} {i t j:QH} {kv:QC (Yh×QU)} (h:Ei M U w (i - 1) (fun _=>0 < t) kv) (hi:Y0+t=i) (hj:j < Q0I) :
  (Ak kv (.i ((j:X4) - 1))).Q4m (.Qm 0)=.Qm (FA M U Y0 Y1 i j):=by
 obtain (⟨h1,h2⟩):=h ((j:X4) - 1)
 cases i with
 | Q1x =>
  rw [h2 fun y _ q=>XF q (YW (Q20 (Nat.add_eq_zero_iff.mp hi).2))]
  cases j <;> rfl
 | Q1y i =>
  cases j with
  | Q1x=>rw [h2 fun y q=>(Int.ne_of_lt (Int.lt_of_lt_of_le (Q8k 0) (Yt y)) q).Q2m];rfl
  | Q1y j =>
   show _=Q13 (An M U Y0 Y1 i j)
   by_cases r:0 < An M U Y0 Y1 i j
   ·have:¬(i < Y0\/j < Y1):=fun q=>by rw [M0 M U _ _ _ _ q]at r;exact Rh r
    rw [h1 j (by exact ia1 (Kg)) (Q3U fun e=>this (.inl (Nat.lt_of_lt_of_eq (Xu i) (by rw [e]at hi;exact hi.symm)))) (Q6k fun e=>this (.inr e)) (by exact GO hj) r];rfl
   ·rw [h2 fun y q _ _ _=>?_]
    ·rw [Q7I r];rfl
    ·have:y=j:=(Q0D (q.symm.trans (ia1 QA)))
     subst this;exact Q7I r
theorem Ei.skip {M:QH->QH->Qu} {U:QH->Qu} {w:Win} {i:QH} {C C':QH->Prop} {kv:QC (Yh×QU)} (h:Ei M U w i C kv) (hC:∀y,Y1<=y->y < Q0I->0 < An M U Y0 Y1 i y->(C y↔C' y)):Ei M U w i C' kv:=fun z=>by
 obtain (⟨h1,h2⟩):=h z
 refine ⟨fun y q c a b r=>h1 y q ((hC y a b r).mpr c) a b r,fun q=>h2 fun y e c a b=>?_⟩
 refine Q17 fun n=>?_
 have r:0 < An M U Y0 Y1 i y:=Q3U n
 exact n (q y e ((hC y a b r).mp c) a b)
theorem Ei.add {M:QH->QH->Qu} {U:QH->Qu} {w:Win} {i j:QH} {C C':QH->Prop} {kv:QC (Yh×QU)} (h:Ei M U w i C kv) (hC:∀y,C' y↔C y\/y=j) (hb:Y1<=j) (hb2:j < Q0I) (hr:0 < An M U Y0 Y1 i j) :
  Ei M U w i C' (Ce kv (.i j) (.Qm (An M U Y0 Y1 i j))):=fun z=>by
 obtain (⟨h1,h2⟩):=h z
 rw [Lv]
 by_cases e:z=j
 ·subst e
  rw [QY QA]
  refine ⟨fun y q _ _ _ _=>?_,fun q=>?_⟩
  ·have:y=j:=by exact UV (Q0D q)
   rw [this]
  ·have:=q j QA ((hC j).mpr (.inr QA)) hb hb2
   exact XF this (Y8 hr)
 ·rw [QN fun q=>e (by cases q;rfl)]
  refine ⟨fun y q c a b r=>h1 y q (((hC y).mp c).Q9D fun n=>e (by rw [q,n])) a b r,fun q=>h2 fun y e c a b=>q y e ((hC y).mpr (.inl c)) a b⟩
structure FS (σ1 XH:QE) (la lb js:QH) (w:Win) (x y z:QH):Prop where
 a:YA "a"=QB (.QQ la)
 b:YA "b"=QB (.QQ lb)
 isb:YA "isbjunk"=QB (.QQ YD)
 alo:YA "alo"=QB (.Qm Y0)
 ahi:YA "ahi"=QB (.Qm Q0R)
 blo:YA "blo"=QB (.Qm Y1)
 bhi:YA "bhi"=QB (.Qm Q0I)
 bi:YA "besti"=QB (.Qm x)
 bj:YA "bestj"=QB (.Qm y)
 bz:YA "bestsize"=QB (.Qm z)
 g:YU [] σ1 XH
 hx:YD < Xh
 bm:X5 YD=.bm "set.__contains__" (.QQ js)
end
section
variable {P:Params} {d:Nat} {σ:Mini.St}
theorem N5 {s ds bj js bp la lb:Nat} {fv mb:Val} {kvs:List (Key×Val)} {xs A B:List Key} {J:Key->Bool} {w:Win} {Q:Val->Mini.St->Prop} (sm:SMOk σ.hp σ.nx s ds bj js bp la lb fv mb kvs xs A B J) (hw1:w.alo<=w.ahi) (hw2:w.ahi<=A.length) (hw3:w.blo<=w.bhi) (hw4:w.bhi<=B.length)
  (hA:A.length<=4000) (hB:B.length<=4000) (hlk:∀x∈A,∀y∈B,KS x y=true)
  (h:∀σ' l (i j k:Nat),Gro σ σ'->σ.nx<=l->l < σ'.nx->σ'.hp l=.sub 152 [.int i,.int j,.int k]->Flm (MM A B) (UU B J) w i j k->Q (.ref l) σ') :
  Ae (G P) (d+2) (.imm (.ref 213)) [.ref s,.int w.alo,.int w.ahi,.int w.blo,.int w.bhi] σ Q:=by
 injections P d σ s ds bj js bp la lb fv mb kvs xs A B J w Q _ _ _ _ _ _ _ _ _
 refine BQ (AE (AY P) rfl ?_ ?_ 40 ?_)
 ·kernel_rfl
 ·kernel_rfl
 intros σ1 hh hn hl
 have h1:σ1.loc "self"=some (.ref s):=hl _ _ (by kernel_rfl)
 have h2:σ1.loc "alo"=some (.int w.alo):=hl _ _ (by kernel_rfl)
 have h3:σ1.loc "ahi"=some (.int w.ahi):=hl _ _ (by kernel_rfl)
 have h4:σ1.loc "blo"=some (.int w.blo):=hl _ _ (by kernel_rfl)
 have h5:σ1.loc "bhi"=some (.int w.bhi):=hl _ _ (by kernel_rfl)
 rw [<- hh,<- hn]at sm
 have c1:=sm.inst
 have c2:=sm.idict
 have c3:=sm.a
 have c4:=sm.b
 have c5:=sm.b2j
 have c6:=sm.junk
 have l1:=sm.ls
 have l2:=sm.lds
 have l3:=sm.lla
 have l4:=sm.llb
 have l5:=sm.lbj
 have l6:=sm.ljs
 refine Ar ?_
 repeat keq_hits
 refine M7 (a:=w.alo) (b:=w.ahi) (s:=1) ?_ (CX hw1 (by exact WB hw2 hA)) (by rw [A5 hw1];exact Int.ofNat_le.mpr (UT)) ?_
 ·kas_types
 have hF:∀l,l < σ1.nx->l≠σ1.nx:=fun l h=>Nat.ne_of_lt h
 refine Ax (fun t σ2=>(σ2.loc "a"=some (.ref la)/\σ2.loc "b"=some (.ref lb)/\σ2.loc "b2j"=some (.ref bj)/\σ2.loc "isbjunk"=some (.ref σ1.nx)/\σ2.loc "alo"=some (.int w.alo)/\σ2.loc "ahi"=some (.int w.ahi)/\σ2.loc "blo"=some (.int w.blo)/\σ2.loc "bhi"=some (.int w.bhi)/\σ2.loc "nothing"=some (.ref (σ1.nx+4)))/\GroH [] σ1 σ2/\σ1.nx+4 < σ2.nx/\σ2.hp σ1.nx=.bm "set.__contains__" (.ref js)/\σ2.hp (σ1.nx+4)=.list []/\(∃x y z:Nat,σ2.loc "besti"=some (.int x)/\σ2.loc "bestj"=some (.int y)/\σ2.loc "bestsize"=some (.int z)/\Bst (MM A B) (UU B J) w.alo w.blo (fun x y=>w.alo<=x/\x < w.alo+t/\w.blo<=y/\y < w.bhi) (x,y,z))/\∃jl kv,σ2.loc "j2len"=some (.ref jl)/\σ1.nx<=jl/\jl < σ2.nx/\σ2.hp jl=.dict kv/\Ei (MM A B) (UU B J) w (w.alo+t - 1) (fun _=>0 < t) kv) (fun _=>False) (fun _ _=>False) ?_ (fun _ _ _=>trivial) ?_ ?_ (fun _ q=>q.elim) (fun _ _ q=>q.elim)
 ·refine ⟨⟨?_,?_,?_,?_,?_,?_,?_,?_,?_⟩,?_,?_,?_,?_,⟨w.alo,w.blo,0,?_,?_,?_,.inl ⟨rfl,fun x y q=>absurd q.2.1 (Nat.not_lt.mpr q.1)⟩⟩,σ1.nx+3,[],?_,?_,?_,?_,fun z=>⟨fun _ _ q=>absurd q (Nat.lt_irrefl 0),fun _=>rfl⟩⟩
  all_goals first | keq_rows | kas_types | kwd_less | (repeat kwd_rel)
 ·intros t x σ2 hx hI R hn' hc' u1 u2
  obtain ⟨⟨i1,i2,i3,i4,i5,i6,i7,i8,i9⟩,g,hx0,i10,i11,⟨bx,by',bz,b1,b2,b3,bst⟩,jl,kv,j1,j2,j3,j4,j5⟩:=hI
  have gn:=g.nx
  have zO:w.alo+t < w.ahi/\x=.int ((w.alo+t:Nat):Int):=by
   rw [List.getElem?_map]at hx
   cases q:(Ay (w.alo:Int) (w.ahi:Int) 1)[t]? with
   | none=>rw [q]at hx;cases hx
   | some z =>
    injections z zI
    rw [q]at hx
    obtain ⟨r1,r2⟩:=Fz hw1 q
    subst r1
    exact ⟨r2,(Option.some.inj hx).symm⟩
  obtain ⟨hit,rfl⟩:=zO
  generalize hi:w.alo+t=i at *
  have zO:∃k,A[i]?=some k:=⟨A[i]'(by exact Be hw2 hit),List.getElem?_eq_getElem (by exact Be hw2 hit)⟩
  obtain ⟨k,hk⟩:=zO
  have hgo:∀l,l < σ1.nx->σ2.hp l=σ1.hp l:=fun l hl=>g.hp l hl (by simp)
  have d3:σ2.hp la=.list (A.map Key.val):=(hgo la l3).trans c3
  have d5:σ2.hp bj=.dict kvs:=(hgo bj l5).trans c5
  try dsimp only
  have:=L4 l5 hx0;repeat keq_hits
  refine Ao (k:=i) (xs:=A.map Key.val) (v:=k.val) ?_ rfl (by rw [List.getElem?_map,hk];rfl) (by exact WA hw2 hA hit) ?_
  ·have:=L4 l3 hx0;kas_types
  repeat keq_hits
  refine Uo (k:=k) (kvs:=kvs) ?_ rfl ?_
  ·have:=L4 l5 hx0;kas_types
  obtain ⟨l,L,hv,hl,hL1,hL2,hL3,hL4⟩:=(M1 (no:=σ1.nx+4) (hp':=σ2.hp) sm i11 hgo hk)
  have hlx:l < σ2.nx:=by
   by_cases q:∃u,Ak kvs k=some u
   ·obtain ⟨u,hu⟩:=q
    have:k∈B/\J k=false:=by
     refine ⟨Classical.byContradiction ?_,?_⟩
     ·intros n
      rw [sm.not k (.inl n)]at hu;cases hu
     ·cases hJ:J k with
      | false=>rfl
      | true=>rw [sm.not k (.inr hJ)]at hu;cases hu
    obtain ⟨l',r1,r2,_⟩:=(sm.has k this.1 this.2)
    rw [r1]at hv
    cases hv;exact Wz hx0 r2
   ·cases hu:Ak kvs k with
    | some u=>exact (q ⟨u,hu⟩).elim
    | none=>rw [hu]at hv;cases hv;exact hx0
  rw [hv]
  repeat keq_hits
  refine Ax (fun t2 σ3=>(σ3.loc "a"=some (.ref la)/\σ3.loc "b"=some (.ref lb)/\σ3.loc "b2j"=some (.ref bj)/\σ3.loc "isbjunk"=some (.ref σ1.nx)/\σ3.loc "alo"=some (.int w.alo)/\σ3.loc "ahi"=some (.int w.ahi)/\σ3.loc "blo"=some (.int w.blo)/\σ3.loc "bhi"=some (.int w.bhi)/\σ3.loc "nothing"=some (.ref (σ1.nx+4))/\σ3.loc "i"=some (.int (i:Nat))/\σ3.loc "j2lenget"=some (.ref σ2.nx)/\σ3.loc "newj2len"=some (.ref (σ2.nx+1)))/\GroH [] σ2 σ3/\σ2.nx+1 < σ3.nx/\σ3.hp σ2.nx=.bm "dict.get" (.ref jl)/\(∃x y z:Nat,σ3.loc "besti"=some (.int x)/\σ3.loc "bestj"=some (.int y)/\σ3.loc "bestsize"=some (.int z)/\Bst (MM A B) (UU B J) w.alo w.blo (fun x y=>(w.alo<=x/\x < i/\w.blo<=y/\y < w.bhi)\/(x=i/\y∈L.take t2/\w.blo<=y/\y < w.bhi)) (x,y,z))/\∃kv2,σ3.hp (σ2.nx+1)=.dict kv2/\kv2.length<=t2/\Ei (MM A B) (UU B J) w i (fun y=>y∈L.take t2) kv2) (fun σ3=>(σ3.loc "a"=some (.ref la)/\σ3.loc "b"=some (.ref lb)/\σ3.loc "b2j"=some (.ref bj)/\σ3.loc "isbjunk"=some (.ref σ1.nx)/\σ3.loc "alo"=some (.int w.alo)/\σ3.loc "ahi"=some (.int w.ahi)/\σ3.loc "blo"=some (.int w.blo)/\σ3.loc "bhi"=some (.int w.bhi)/\σ3.loc "nothing"=some (.ref (σ1.nx+4))/\σ3.loc "newj2len"=some (.ref (σ2.nx+1)))/\GroH [] σ2 σ3/\σ2.nx+1 < σ3.nx/\(∃x y z:Nat,σ3.loc "besti"=some (.int x)/\σ3.loc "bestj"=some (.int y)/\σ3.loc "bestsize"=some (.int z)/\Bst (MM A B) (UU B J) w.alo w.blo (fun x y=>w.alo<=x/\x < w.alo+(t+1)/\w.blo<=y/\y < w.bhi) (x,y,z))/\∃kv2,σ3.hp (σ2.nx+1)=.dict kv2/\Ei (MM A B) (UU B J) w i (fun _=>0 < t+1) kv2) (fun _ _=>False) ?_ ?_ ?_ ?_ ?_ (fun _ _ q=>q.elim)
  ·refine ⟨⟨?_,?_,?_,?_,?_,?_,?_,?_,?_,?_,?_,?_⟩,?_,?_,?_,⟨bx,by',bz,?_,?_,?_,bst.grow (fun x y q=>.inl q) (fun x y q n=>?_)⟩,[],?_,Nat.le_refl _,fun z=>⟨fun y _ q=>(by simp at q),fun _=>rfl⟩⟩
   all_goals first | keq_rows | kas_types | kwd_less | (repeat kwd_rel) | skip
   rcases q with q | q
   ·exact (n q).elim
   ·simp at q
  ·intros t2 σ3 xq03
   obtain ⟨_,g3,_⟩:=xq03
   rw [g3.hp l hlx (by simp)];exact hl
  ·intros t2 x σ3 hx2 hI2 R2 hn2 hc2 hb2 u3
   obtain ⟨⟨m1,m2,m3,m4,m5,m6,m7,m8,m9,m10,m11,m12⟩,g3,hx3,m13,⟨cx,cy,cz,n1,n2,n3,cst⟩,kv2,n4,n5,n6⟩:=hI2
   have gn3:=g3.nx
   have zO:∃j:Nat,L[t2]?=some j/\x=.int (j:Int):=by
    rw [List.getElem?_map]at hx2
    cases q:L[t2]? with
    | none=>rw [q]at hx2;cases hx2
    | some j=>rw [q]at hx2;exact ⟨j,rfl,(Option.some.inj hx2).symm⟩
   obtain ⟨j,hj,rfl⟩:=zO
   have hjL:=List.mem_of_getElem? hj
   obtain ⟨hM,hU⟩:=(hL1 j).mp hjL
   have ht2:t2 < L.length:=(List.getElem?_eq_some_iff.mp hj).1
   have hR:=AQ (MM A B) (UU B J) w.alo w.blo i j
   have hjl:σ3.hp jl=.dict kv:=(g3.hp jl j3 (by simp)).trans j4
   try dsimp only
   repeat keq_hits
   refine BE ?_ ?_
   ·intros q
    have q':j < w.blo:=by have:=of_decide_eq_true q;exact (Int.ofNat_lt.mp this)
    repeat keq_hits
    refine hc2 _ ⟨⟨?_,?_,?_,?_,?_,?_,?_,?_,?_,?_,?_,?_⟩,?_,?_,?_,⟨cx,cy,cz,?_,?_,?_,cst.grow (fun x y c=>?_) (fun x y c n=>?_)⟩,kv2,?_,by exact Hs n5,n6.skip fun y y1 y2 y3=>?_⟩
    all_goals first | keq_rows | kas_types | kwd_less | (repeat kwd_rel) | skip
    ·rcases c with c | zR
     ·exact .inl c
     ·obtain ⟨c1,c2,c3,c4⟩:=zR
      exact .inr ⟨c1,(Bj hj).mpr (.inl c2),c3,c4⟩
    ·rcases c with c | zR
     ·exact (n (.inl c)).elim
     ·obtain ⟨c1,c2,c3,c4⟩:=zR
      rcases (Bj hj).mp c2 with r | r
      ·exact (n (.inr ⟨c1,r,c3,c4⟩)).elim
      ·exact Wy q' c3 r
    ·rw [Bj hj]
     constructor
     ·exact .inl
     ·rintro (r | r)
      ·exact r
      ·exact absurd (r▸y1) (Nat.not_le_of_lt q')
   intros q
   have q':w.blo<=j:=by have:=of_decide_eq_false q;exact Nat.le_of_not_lt (fun e=>this (Int.ofNat_lt.mpr e))
   repeat keq_hits
   refine BE ?_ ?_
   ·intros p
    have p':w.bhi<=j:=by have:=of_decide_eq_true p;exact (Int.ofNat_le.mp this)
    have hlast:∀y,y < w.bhi->0 < An (MM A B) (UU B J) w.alo w.blo i y->y∈L.take t2:=by
     intros y y2 y3
     refine Classical.byContradiction ?_;intros n
     rw [AQ]at y3
     split at y3
     ·rename_i r
      have:=Pl hL2 hj ((hL1 y).mpr ⟨r.1,r.2.1⟩) n
      exact Wx p' y2 this
     ·exact Rh y3
    repeat keq_hits
    refine hb2 _ ⟨⟨?_,?_,?_,?_,?_,?_,?_,?_,?_,?_⟩,?_,?_,⟨cx,cy,cz,?_,?_,?_,cst.grow (fun x y c=>c.elim (fun c=>⟨c.1,by exact Rd hi c.2.1,c.2.2.1,c.2.2.2⟩) fun c=>⟨by exact Rc hi c.1,by exact Rb hi c.1,c.2.2.1,c.2.2.2⟩) (fun x y c n=>?_)⟩,kv2,?_,n6.skip fun y y1 y2 y3=>?_⟩
    all_goals first | keq_rows | kas_types | kwd_less | (repeat kwd_rel) | skip
    ·refine Nat.eq_zero_of_not_pos ?_;intros r;refine n ?_
     by_cases e:x < i
     ·exact .inl ⟨c.1,e,c.2.2.1,c.2.2.2⟩
     ·have:x=i:=by exact Rg hi c.2.1 e
      subst this
      exact .inr ⟨rfl,hlast y c.2.2.2 r,c.2.2.1,c.2.2.2⟩
    ·exact ⟨fun _=>by exact Mc,fun _=>hlast y y2 y3⟩
   intros p
   have p':j < w.bhi:=by have:=of_decide_eq_false p;exact Nat.lt_of_not_le (fun e=>this (Int.ofNat_le.mpr e))
   have hR':An (MM A B) (UU B J) w.alo w.blo i j=FA (MM A B) (UU B J) w.alo w.blo i j+1:=by rw [hR,if_pos ⟨hM,hU,by exact Ww hi,q'⟩]
   have hRle:=DR (MM A B) (UU B J) w.alo w.blo i j (by exact Ma hR')
   repeat keq_hits
   refine N0 (k:=.i ((j:Int) - 1)) (kvs:=kv) (l:=jl) ?_ ?_ rfl ?_
   ·kas_types
   ·kas_types
   rw [j5.prev hi p']
   repeat keq_hits
   refine OU (kvs:=kv2) (k:=.i j) ?_ rfl ?_ ?_
   ·kas_types
   ·rw [sizeLine_eq];exact Wv hB hL4 n5 ht2
   repeat keq_hits
   have hz:((FA (MM A B) (UU B J) w.alo w.blo i j:Nat):Int)+1=((An (MM A B) (UU B J) w.alo w.blo i j:Nat):Int):=by exact ia4 (Vj hR')
   have hset:Ei (MM A B) (UU B J) w i (fun y=>y∈L.take (t2+1)) (Ce kv2 (.i j) (.int (An (MM A B) (UU B J) w.alo w.blo i j))):=n6.add (fun y=>Bj hj) q' p' (by exact Ma hR')
   have hmore:=cst.more (C':=fun x y=>(w.alo<=x/\x < i/\w.blo<=y/\y < w.bhi)\/(x=i/\y∈L.take (t2+1)/\w.blo<=y/\y < w.bhi)) (i:=i) (j:=j) (fun x y=>by
     rw [Bj hj]
     constructor
     ·rintro (c | ⟨c1,c2 | c2,c3,c4⟩)
      ·exact .inl (.inl c)
      ·exact .inl (.inr ⟨c1,c2,c3,c4⟩)
      ·exact .inr ⟨c1,c2⟩
     ·rintro ((c | ⟨c1,c2,c3,c4⟩) | ⟨c1,c2⟩)
      ·exact .inl c
      ·exact .inr ⟨c1,.inl c2,c3,c4⟩
      ·exact .inr ⟨c1,.inr c2,by exact Wu q' c2,by exact Wt p' c2⟩) (fun x y c=>by
     rcases c with c | ⟨c1,c2,c3,c4⟩
     ·exact .inl c.2.1
     ·have:=OF hL2 hj c2
      exact .inr ⟨c1,this⟩)
   rw [hz]
   generalize hr:An (MM A B) (UU B J) w.alo w.blo i j=r at *
   dsimp only at hmore
   have hlen2:=HJ kv2 (.i j) (.int r)
   refine BE ?_ ?_
   ·intros g1
    have g1':r > cz:=by have:=of_decide_eq_true g1;exact (Int.ofNat_lt.mp this)
    rw [if_pos g1']at hmore
    have ex:((i:Nat):Int) - (r:Nat)+1=((i+1 - r:Nat):Int):=by exact ia3 (PU hRle.1)
    have ey:((j:Nat):Int) - (r:Nat)+1=((j+1 - r:Nat):Int):=by exact ia3 (PU hRle.2)
    repeat keq_hits
    rw [ex,ey]
    refine hn2 _ ⟨⟨?_,?_,?_,?_,?_,?_,?_,?_,?_,?_,?_,?_⟩,?_,?_,?_,⟨i+1 - r,j+1 - r,r,?_,?_,?_,hmore⟩,_,?_,?_,hset⟩
    all_goals first | keq_rows | ((try have:=GO hx3);kas_types) | ((try have:=Rf n5 hlen2);kwd_less) | (repeat kwd_rel) | omega
   ·intros g1
    have g1':¬r > cz:=by have:=of_decide_eq_false g1;exact (fun e=>this (Int.ofNat_lt.mpr e))
    rw [if_neg g1']at hmore
    repeat keq_hits
    refine hn2 _ ⟨⟨?_,?_,?_,?_,?_,?_,?_,?_,?_,?_,?_,?_⟩,?_,?_,?_,⟨cx,cy,cz,?_,?_,?_,hmore⟩,_,?_,?_,hset⟩
    all_goals first | keq_rows | kas_types | ((try have:=Rf n5 hlen2);kwd_less) | (repeat kwd_rel) | omega
  ·intros σ3 hI2
   obtain ⟨⟨m1,m2,m3,m4,m5,m6,m7,m8,m9,m10,m11,m12⟩,g3,hx3,m13,⟨cx,cy,cz,n1,n2,n3,cst⟩,kv2,n4,n5,n6⟩:=hI2
   have gn3:=g3.nx
   rw [List.length_map,List.take_length]at *
   have hall:∀y,0 < An (MM A B) (UU B J) w.alo w.blo i y->y∈L:=by
    intros y y3
    rw [AQ]at y3
    split at y3
    ·rename_i r
     exact (hL1 y).mpr ⟨r.1,r.2.1⟩
    ·exact absurd y3 (Nat.lt_irrefl 0)
   have hst:Bst (MM A B) (UU B J) w.alo w.blo (fun x y=>w.alo<=x/\x < w.alo+(t+1)/\w.blo<=y/\y < w.bhi) (cx,cy,cz):=by
    refine cst.grow ?_ ?_
    ·intros x y c
     rcases c with c | zR
     ·exact ⟨Hr c.1,Rd hi c.2.1,Hr c.2.2.1,Kq c.2.2.2⟩
     ·obtain ⟨c1,c2,c3,c4⟩:=zR
      exact ⟨Rc hi c1,Rb hi c1,Hr c3,Kq c4⟩
    ·intros x y c n
     refine Nat.eq_zero_of_not_pos ?_;intros r;refine n ?_
     by_cases e:x < i
     ·exact .inl ⟨c.1,e,c.2.2.1,c.2.2.2⟩
     ·have:x=i:=by exact Rg hi c.2.1 e
      subst this
      exact .inr ⟨rfl,hall y r,c.2.2.1,c.2.2.2⟩
   have hrow:Ei (MM A B) (UU B J) w i (fun _=>0 < t+1) kv2:=n6.skip fun y _ _ r=>⟨fun _=>Nat.succ_pos t,fun _=>hall y r⟩
   have g13:GroH [] σ1 σ3:=g.trans g3
   have u1:σ3.hp σ1.nx=.bm "set.__contains__" (.ref js):=(g3.hp _ (by exact L3 hx0) (by simp)).trans i10
   have u2:σ3.hp (σ1.nx+4)=.list []:=(g3.hp _ hx0 (by simp)).trans i11
   have u3:w.alo+(t+1) - 1=i:=by exact Ra hi
   repeat keq_hits
   refine hn' _ ⟨⟨?_,?_,?_,?_,?_,?_,?_,?_,?_⟩,?_,?_,?_,?_,⟨cx,cy,cz,?_,?_,?_,hst⟩,σ2.nx+1,kv2,?_,?_,?_,?_,?_⟩
   all_goals first | keq_rows | kas_types | ((try have:=P9 hx0 hx3);(try have:=P8 hx0);kwd_less) | (rw [u3];exact hrow) | (repeat kwd_rel)
  ·intros σ3 hI2
   obtain ⟨⟨m1,m2,m3,m4,m5,m6,m7,m8,m9,m12⟩,g3,hx3,⟨cx,cy,cz,n1,n2,n3,hst⟩,kv2,n4,hrow⟩:=hI2
   have gn3:=g3.nx
   have g13:GroH [] σ1 σ3:=g.trans g3
   have u1:σ3.hp σ1.nx=.bm "set.__contains__" (.ref js):=(g3.hp _ (by exact L3 hx0) (by simp)).trans i10
   have u2:σ3.hp (σ1.nx+4)=.list []:=(g3.hp _ hx0 (by simp)).trans i11
   have u3:w.alo+(t+1) - 1=i:=by exact Ra hi
   repeat keq_hits
   refine hn' _ ⟨⟨?_,?_,?_,?_,?_,?_,?_,?_,?_⟩,?_,?_,?_,?_,⟨cx,cy,cz,?_,?_,?_,hst⟩,σ2.nx+1,kv2,?_,?_,?_,?_,?_⟩
   all_goals first | keq_rows | kas_types | ((try have:=P9 hx0 hx3);(try have:=P8 hx0);kwd_less) | (rw [u3];exact hrow) | (repeat kwd_rel)
 ·intros σ2 hI
  rw [List.length_map,Fy hw1]at hI
  obtain ⟨⟨i1,i2,i3,i4,i5,i6,i7,i8,i9⟩,g,hx0,i10,i11,⟨bx,by',bz,b1,b2,b3,bst⟩,_⟩:=hI
  have gn:=g.nx
  rw [show w.alo+(w.ahi - w.alo)=w.ahi by exact abN hw1]at bst
  have bst:Bst (MM A B) (UU B J) w.alo w.blo w.cells (bx,by',bz):=bst
  have hin:=bst.inside hw1 hw3
  dsimp only at hin
  obtain ⟨hin1,hin2,hin3,hin4⟩:=hin
  have fs0:FS σ1 σ2 la lb js w bx by' bz:=⟨i1,i2,i4,i5,i6,i7,i8,b1,b2,b3,g,by exact L3 hx0,i10⟩
  repeat keq_hits
  with_reducible refine DL (0+1) ?_
  refine BX (n:=0) (fun n σ3=>FS σ1 σ3 la lb js w bx by' bz) (fun σ3=>FS σ1 σ3 la lb js w bx by' bz) fs0 ?_ ?_
  ·intros n σ3 hI R Q hn2 hc2 hE
   have fs:=hI
   obtain ⟨f1,f2,f3,f4,f5,f6,f7,f8,f9,f10,f11,f12,f13⟩:=fs
   have gn3:=f11.nx
   have d3:σ3.hp la=.list (A.map Key.val):=(f11.hp la l3 (by simp)).trans c3
   have d4:σ3.hp lb=.list (B.map Key.val):=(f11.hp lb l4 (by simp)).trans c4
   have d6:σ3.hp js=.set xs:=(f11.hp js l6 (by simp)).trans c6
   repeat keq_hits
   refine Aw ?_ ?_
   ·intros q1
    have q1:w.alo < bx:=by have:=of_decide_eq_true q1;exact (Int.ofNat_lt.mp this)
    repeat keq_hits
    refine Aw ?_ ?_
    ·intros q2
     have q2:w.blo < by':=by have:=of_decide_eq_true q2;exact (Int.ofNat_lt.mp this)
     have zO:∃k,B[by' - 1]?=some k:=⟨_,List.getElem?_eq_getElem (by exact P7 hw4 hin4 q2)⟩
     obtain ⟨kb,hkb⟩:=zO
     have zO:∃k,A[bx - 1]?=some k:=⟨_,List.getElem?_eq_getElem (by exact P7 hw2 hin3 q1)⟩
     obtain ⟨ka,hka⟩:=zO
     have hkM:MM A B (bx - 1) (by' - 1)=decide (ka=kb):=by unfold MM;rw [hka,hkb]
     have hkU:UU B J (by' - 1)=decide (kb∈xs):=by
      unfold UU;rw [hkb];dsimp only
      have:=sm.mem kb
      cases hJ:J kb with
      | true=>rw [hJ]at this;exact (decide_eq_true (this.mpr ⟨List.mem_of_getElem? hkb,rfl⟩)).symm
      | false=>rw [hJ]at this;exact (decide_eq_false fun q=>by have:=(this.mp q).2;cases this).symm
     repeat keq_hits
     refine Ao (k:=by' - 1) (xs:=B.map Key.val) (v:=kb.val) ?_ (by exact ia1 (H3 q2)) (by rw [List.getElem?_map,hkb];rfl) (by exact LZ hw4 hB hin4) ?_
     ·kas_types
     repeat keq_hits
     refine HW (l:=js) (xs:=xs) (k:=kb) ?_ ?_ rfl ?_
     ·kas_types
     ·kas_types
     rw [<- hkU]
     repeat keq_hits
     refine Aw ?_ ?_
     ·intros q3
      repeat keq_hits
      refine Ao (k:=bx - 1) (xs:=A.map Key.val) (v:=ka.val) ?_ (by exact ia1 (H3 q1)) (by rw [List.getElem?_map,hka];rfl) (by exact LZ hw2 hA hin3) ?_
      ·kas_types
      repeat keq_hits
      refine Ao (k:=by' - 1) (xs:=B.map Key.val) (v:=kb.val) ?_ (by exact ia1 (H3 q2)) (by rw [List.getElem?_map,hkb];rfl) (by exact LZ hw4 hB hin4) ?_
      ·kas_types
      refine K6 (hlk ka (List.mem_of_getElem? hka) kb (List.mem_of_getElem? hkb)) ?_
      rw [<- hkM]
      repeat keq_hits
      refine Aw ?_ ?_
      ·intros q4
       exact (bst.noLeft q1 q2 ⟨q4,by simpa using q3⟩).elim
      ·intros q4
       repeat keq_hits
       exact hE _ ⟨f1,f2,f3,f4,f5,f6,f7,f8,f9,f10,f11,f12,f13⟩
     ·intros q3
      repeat keq_hits
      exact hE _ ⟨f1,f2,f3,f4,f5,f6,f7,f8,f9,f10,f11,f12,f13⟩
    ·intros q2
     repeat keq_hits
     exact hE _ ⟨f1,f2,f3,f4,f5,f6,f7,f8,f9,f10,f11,f12,f13⟩
   ·intros q1
    repeat keq_hits
    exact hE _ ⟨f1,f2,f3,f4,f5,f6,f7,f8,f9,f10,f11,f12,f13⟩
  ·intros σ3 hI
   clear fs0
   have fs0:=hI
   clear hI
   clear i1 i2 i3 i4 i5 i6 i7 i8 i9 b1 b2 b3 g gn hx0 i10 i11
   repeat keq_hits
   with_reducible refine DL (0+1) ?_
   refine BX (n:=0) (fun n σ3=>FS σ1 σ3 la lb js w bx by' bz) (fun σ3=>FS σ1 σ3 la lb js w bx by' bz) fs0 ?_ ?_
   ·intros n σ3 hI R Q hn2 hc2 hE
    have fs:=hI
    obtain ⟨f1,f2,f3,f4,f5,f6,f7,f8,f9,f10,f11,f12,f13⟩:=fs
    have gn3:=f11.nx
    have d3:σ3.hp la=.list (A.map Key.val):=(f11.hp la l3 (by simp)).trans c3
    have d4:σ3.hp lb=.list (B.map Key.val):=(f11.hp lb l4 (by simp)).trans c4
    have d6:σ3.hp js=.set xs:=(f11.hp js l6 (by simp)).trans c6
    repeat keq_hits
    refine Aw ?_ ?_
    ·intros q1
     have q1:bx+bz < w.ahi:=by have:=of_decide_eq_true q1;exact (Int.ofNat_lt.mp this)
     repeat keq_hits
     refine Aw ?_ ?_
     ·intros q2
      have q2:by'+bz < w.bhi:=by have:=of_decide_eq_true q2;exact (Int.ofNat_lt.mp this)
      have zO:∃k,B[by'+bz]?=some k:=⟨_,List.getElem?_eq_getElem (by exact P6 hw4 q2)⟩
      obtain ⟨kb,hkb⟩:=zO
      have zO:∃k,A[bx+bz]?=some k:=⟨_,List.getElem?_eq_getElem (by exact P6 hw2 q1)⟩
      obtain ⟨ka,hka⟩:=zO
      have hkM:MM A B (bx+bz) (by'+bz)=decide (ka=kb):=by unfold MM;rw [hka,hkb]
      have hkU:UU B J (by'+bz)=decide (kb∈xs):=by
       unfold UU;rw [hkb];dsimp only
       have:=sm.mem kb
       cases hJ:J kb with
       | true=>rw [hJ]at this;exact (decide_eq_true (this.mpr ⟨List.mem_of_getElem? hkb,rfl⟩)).symm
       | false=>rw [hJ]at this;exact (decide_eq_false fun q=>by have:=(this.mp q).2;cases this).symm
      repeat keq_hits
      refine Ao (k:=by'+bz) (xs:=B.map Key.val) (v:=kb.val) ?_ (by exact ia2 (CR)) (by rw [List.getElem?_map,hkb];rfl) (by exact LY hw4 hB q2) ?_
      ·kas_types
      repeat keq_hits
      refine HW (l:=js) (xs:=xs) (k:=kb) ?_ ?_ rfl ?_
      ·kas_types
      ·kas_types
      rw [<- hkU]
      repeat keq_hits
      refine Aw ?_ ?_
      ·intros q3
       repeat keq_hits
       refine Ao (k:=bx+bz) (xs:=A.map Key.val) (v:=ka.val) ?_ (by exact ia2 (CR)) (by rw [List.getElem?_map,hka];rfl) (by exact LY hw2 hA q1) ?_
       ·kas_types
       repeat keq_hits
       refine Ao (k:=by'+bz) (xs:=B.map Key.val) (v:=kb.val) ?_ (by exact ia2 (CR)) (by rw [List.getElem?_map,hkb];rfl) (by exact LY hw4 hB q2) ?_
       ·kas_types
       refine K6 (hlk ka (List.mem_of_getElem? hka) kb (List.mem_of_getElem? hkb)) ?_
       rw [<- hkM]
       repeat keq_hits
       refine Aw ?_ ?_
       ·intros q4
        exact (bst.noRight q1 q2 hw1 hw3 ⟨q4,by simpa using q3⟩).elim
       ·intros q4
        repeat keq_hits
        exact hE _ ⟨f1,f2,f3,f4,f5,f6,f7,f8,f9,f10,f11,f12,f13⟩
      ·intros q3
       repeat keq_hits
       exact hE _ ⟨f1,f2,f3,f4,f5,f6,f7,f8,f9,f10,f11,f12,f13⟩
     ·intros q2
      repeat keq_hits
      exact hE _ ⟨f1,f2,f3,f4,f5,f6,f7,f8,f9,f10,f11,f12,f13⟩
    ·intros q1
     repeat keq_hits
     exact hE _ ⟨f1,f2,f3,f4,f5,f6,f7,f8,f9,f10,f11,f12,f13⟩
   ·intros σ3 hI
    clear fs0
    have fs0:=hI
    clear hI
    repeat keq_hits
    with_reducible refine DL (bx+1) ?_
    refine BX (n:=bx) (fun n σ3=>∃u,n+u=bx/\FS σ1 σ3 la lb js w (bx - u) (by' - u) (bz+u)/\u<=by'/\w.alo+u<=bx/\w.blo+u<=by'/\∀t,t < u->MM A B (bx - 1 - t) (by' - 1 - t)=true/\UU B J (by' - 1 - t)=true) (fun σ3=>∃u,FS σ1 σ3 la lb js w (bx - u) (by' - u) (bz+u)/\Kf (MM A B) (UU B J) w bx by' u) ⟨0,by exact Wr,fs0,by exact zq8,hin1,hin2,fun t q=>absurd q (Nat.not_lt_zero t)⟩ ?_ ?_
    ·intros n σ3 hI R Q hn2 hc2 hE
     obtain ⟨u,hu,fs,k1,k2,k3,hall⟩:=hI
     obtain ⟨f1,f2,f3,f4,f5,f6,f7,f8,f9,f10,f11,f12,f13⟩:=fs
     have gn3:=f11.nx
     have d3:σ3.hp la=.list (A.map Key.val):=(f11.hp la l3 (by simp)).trans c3
     have d4:σ3.hp lb=.list (B.map Key.val):=(f11.hp lb l4 (by simp)).trans c4
     have d6:σ3.hp js=.set xs:=(f11.hp js l6 (by simp)).trans c6
     repeat keq_hits
     refine Aw ?_ ?_
     ·intros q1
      have q1:w.alo < bx - u:=by have:=of_decide_eq_true q1;exact (Int.ofNat_lt.mp this)
      repeat keq_hits
      refine Aw ?_ ?_
      ·intros q2
       have q2:w.blo < by' - u:=by have:=of_decide_eq_true q2;exact (Int.ofNat_lt.mp this)
       have zO:∃k,B[by' - u - 1]?=some k:=⟨_,List.getElem?_eq_getElem (by exact P5 hw4 hin4 q2)⟩
       obtain ⟨kb,hkb⟩:=zO
       have zO:∃k,A[bx - u - 1]?=some k:=⟨_,List.getElem?_eq_getElem (by exact P5 hw2 hin3 q1)⟩
       obtain ⟨ka,hka⟩:=zO
       have hkM:MM A B (bx - u - 1) (by' - u - 1)=decide (ka=kb):=by unfold MM;rw [hka,hkb]
       have hkU:UU B J (by' - u - 1)=decide (kb∈xs):=by
        unfold UU;rw [hkb];dsimp only
        have:=sm.mem kb
        cases hJ:J kb with
        | true=>rw [hJ]at this;exact (decide_eq_true (this.mpr ⟨List.mem_of_getElem? hkb,rfl⟩)).symm
        | false=>rw [hJ]at this;exact (decide_eq_false fun q=>by have:=(this.mp q).2;cases this).symm
       repeat keq_hits
       refine Ao (k:=by' - u - 1) (xs:=B.map Key.val) (v:=kb.val) ?_ (by exact ia1 (LR q2)) (by rw [List.getElem?_map,hkb];rfl) (by exact LX hw4 hB hin4 q2) ?_
       ·kas_types
       repeat keq_hits
       refine HW (l:=js) (xs:=xs) (k:=kb) ?_ ?_ rfl ?_
       ·kas_types
       ·kas_types
       rw [<- hkU]
       repeat keq_hits
       refine Aw ?_ ?_
       ·intros q3
        repeat keq_hits
        refine Ao (k:=bx - u - 1) (xs:=A.map Key.val) (v:=ka.val) ?_ (by exact ia1 (LR q1)) (by rw [List.getElem?_map,hka];rfl) (by exact LX hw2 hA hin3 q1) ?_
        ·kas_types
        repeat keq_hits
        refine Ao (k:=by' - u - 1) (xs:=B.map Key.val) (v:=kb.val) ?_ (by exact ia1 (LR q2)) (by rw [List.getElem?_map,hkb];rfl) (by exact LX hw4 hB hin4 q2) ?_
        ·kas_types
        refine K6 (hlk ka (List.mem_of_getElem? hka) kb (List.mem_of_getElem? hkb)) ?_
        rw [<- hkM]
        repeat keq_hits
        refine Aw ?_ ?_
        ·intros q4
         repeat keq_hits
         have x1:((bx - u:Nat):Int) - 1=((bx - (u+1):Nat):Int):=by exact ia1 (PS q1)
         have x2:((by' - u:Nat):Int) - 1=((by' - (u+1):Nat):Int):=by exact ia1 (PS q2)
         have x3:((bz+u:Nat):Int)+1=((bz+(u+1):Nat):Int):=by exact ia4 (Vi)
         rw [x1,x2,x3]
         refine hn2 (n - 1) _ (by exact Wq hu q1) ⟨u+1,by exact Wp hu q1,⟨?_,?_,?_,?_,?_,?_,?_,?_,?_,?_,?_,?_,?_⟩,by exact Wo q2,by exact P4 q1,by exact P4 q2,?_⟩
         all_goals first | keq_rows | ((try have:=Ag f12);kas_types) | kwd_less | ((repeat kwd_rel);done) | skip
         intros t ht
         by_cases e:t=u
         ·subst e;rw [show bx - 1 - t=bx - t - 1 by exact Wn,show by' - 1 - t=by' - t - 1 by exact L8 k1];exact ⟨q4,q3⟩
         ·exact hall t (by exact Bl ht e)
        ·intros q4
         repeat keq_hits
         refine hE _ ⟨u,⟨f1,f2,f3,f4,f5,f6,f7,f8,f9,f10,f11,f12,f13⟩,by exact Ki k2,Nat.le_trans (Nat.le_add_left _ _) k3,k2,k3,hall,?_⟩;intros r;rw [r.2.2.1]at q4;cases q4
       ·intros q3
        repeat keq_hits
        refine hE _ ⟨u,⟨f1,f2,f3,f4,f5,f6,f7,f8,f9,f10,f11,f12,f13⟩,by exact Ki k2,Nat.le_trans (Nat.le_add_left _ _) k3,k2,k3,hall,?_⟩;intros r;rw [r.2.2.2]at q3;cases q3
      ·intros q2
       repeat keq_hits
       refine hE _ ⟨u,⟨f1,f2,f3,f4,f5,f6,f7,f8,f9,f10,f11,f12,f13⟩,by exact Ki k2,Nat.le_trans (Nat.le_add_left _ _) k3,k2,k3,hall,?_⟩;intros r;have q:=of_decide_eq_false q2;have r1:=r.2.1;exact PN (fun e=>q (Int.ofNat_lt.mpr e)) r1
     ·intros q1
      repeat keq_hits
      refine hE _ ⟨u,⟨f1,f2,f3,f4,f5,f6,f7,f8,f9,f10,f11,f12,f13⟩,by exact Ki k2,Nat.le_trans (Nat.le_add_left _ _) k3,k2,k3,hall,?_⟩;intros r;have q:=of_decide_eq_false q1;have r1:=r.1;exact PN (fun e=>q (Int.ofNat_lt.mpr e)) r1
    ·intros σ3 hI
     obtain ⟨u,fs1,hlx⟩:=hI
     have hlx':=hlx
     obtain ⟨k1,k2,k3,k4,_,_⟩:=hlx'
     repeat keq_hits
     with_reducible refine DL ((w.ahi - (bx+bz))+1) ?_
     refine BX (n:=(w.ahi - (bx+bz))) (fun n σ3=>∃r,n+(bx+bz+r)=w.ahi/\FS σ1 σ3 la lb js w (bx - u) (by' - u) (bz+u+r)/\by'+bz+r<=w.bhi/\∀t,t < r->MM A B (bx+bz+t) (by'+bz+t)=true/\UU B J (by'+bz+t)=true) (fun σ3=>∃r,FS σ1 σ3 la lb js w (bx - u) (by' - u) (bz+u+r)/\Ke (MM A B) (UU B J) w (bx+bz) (by'+bz) r) ⟨0,by exact Wm hin3,fs1,hin4,fun t q=>absurd q (Nat.not_lt_zero t)⟩ ?_ ?_
     ·intros n σ3 hI R Q hn2 hc2 hE
      obtain ⟨r,hr,fs,k5,hall⟩:=hI
      obtain ⟨f1,f2,f3,f4,f5,f6,f7,f8,f9,f10,f11,f12,f13⟩:=fs
      have gn3:=f11.nx
      have d3:σ3.hp la=.list (A.map Key.val):=(f11.hp la l3 (by simp)).trans c3
      have d4:σ3.hp lb=.list (B.map Key.val):=(f11.hp lb l4 (by simp)).trans c4
      have d6:σ3.hp js=.set xs:=(f11.hp js l6 (by simp)).trans c6
      repeat keq_hits
      refine Aw ?_ ?_
      ·intros q1
       have q1:bx+bz+r < w.ahi:=by have:=of_decide_eq_true q1;exact PM (Int.ofNat_lt.mp this)
       repeat keq_hits
       refine Aw ?_ ?_
       ·intros q2
        have q2:by'+bz+r < w.bhi:=by have:=of_decide_eq_true q2;exact PM (Int.ofNat_lt.mp this)
        have zO:∃k,B[by'+bz+r]?=some k:=⟨_,List.getElem?_eq_getElem (by exact P3 hw4 q2)⟩
        obtain ⟨kb,hkb⟩:=zO
        have zO:∃k,A[bx+bz+r]?=some k:=⟨_,List.getElem?_eq_getElem (by exact P3 hw2 q1)⟩
        obtain ⟨ka,hka⟩:=zO
        have hkM:MM A B (bx+bz+r) (by'+bz+r)=decide (ka=kb):=by unfold MM;rw [hka,hkb]
        have hkU:UU B J (by'+bz+r)=decide (kb∈xs):=by
         unfold UU;rw [hkb];dsimp only
         have:=sm.mem kb
         cases hJ:J kb with
         | true=>rw [hJ]at this;exact (decide_eq_true (this.mpr ⟨List.mem_of_getElem? hkb,rfl⟩)).symm
         | false=>rw [hJ]at this;exact (decide_eq_false fun q=>by have:=(this.mp q).2;cases this).symm
        repeat keq_hits
        refine Ao (k:=by'+bz+r) (xs:=B.map Key.val) (v:=kb.val) ?_ (by exact ia2 (LQ k2)) (by rw [List.getElem?_map,hkb];rfl) (by exact LW hw4 hB q2) ?_
        ·kas_types
        repeat keq_hits
        refine HW (l:=js) (xs:=xs) (k:=kb) ?_ ?_ rfl ?_
        ·kas_types
        ·kas_types
        rw [<- hkU]
        repeat keq_hits
        refine Aw ?_ ?_
        ·intros q3
         repeat keq_hits
         refine Ao (k:=bx+bz+r) (xs:=A.map Key.val) (v:=ka.val) ?_ (by exact ia2 (LQ k1)) (by rw [List.getElem?_map,hka];rfl) (by exact LW hw2 hA q1) ?_
         ·kas_types
         repeat keq_hits
         refine Ao (k:=by'+bz+r) (xs:=B.map Key.val) (v:=kb.val) ?_ (by exact ia2 (LQ k2)) (by rw [List.getElem?_map,hkb];rfl) (by exact LW hw4 hB q2) ?_
         ·kas_types
         refine K6 (hlk ka (List.mem_of_getElem? hka) kb (List.mem_of_getElem? hkb)) ?_
         rw [<- hkM]
         repeat keq_hits
         refine Aw ?_ ?_
         ·intros q4
          repeat keq_hits
          have x3:((bz+u+r:Nat):Int)+1=((bz+u+(r+1):Nat):Int):=by exact ia4 (Vh)
          rw [x3]
          refine hn2 (n - 1) _ (by exact Wl hr q1) ⟨r+1,by exact Wk hr q1,⟨?_,?_,?_,?_,?_,?_,?_,?_,?_,?_,?_,?_,?_⟩,by exact Wj q2,?_⟩
          all_goals first | keq_rows | kas_types | kwd_less | ((repeat kwd_rel);done) | skip
          intros t ht
          by_cases e:t=r
          ·subst e;exact ⟨q4,q3⟩
          ·exact hall t (by exact Bl ht e)
         ·intros q4
          repeat keq_hits
          refine hE _ ⟨r,⟨f1,f2,f3,f4,f5,f6,f7,f8,f9,f10,f11,f12,f13⟩,.inr ⟨by exact LV q1,k5⟩,hall,?_⟩;intros v;rw [v.2.2.1]at q4;cases q4
        ·intros q3
         repeat keq_hits
         refine hE _ ⟨r,⟨f1,f2,f3,f4,f5,f6,f7,f8,f9,f10,f11,f12,f13⟩,.inr ⟨by exact LV q1,k5⟩,hall,?_⟩;intros v;rw [v.2.2.2]at q3;cases q3
       ·intros q2
        repeat keq_hits
        refine hE _ ⟨r,⟨f1,f2,f3,f4,f5,f6,f7,f8,f9,f10,f11,f12,f13⟩,.inr ⟨by exact LV q1,k5⟩,hall,?_⟩;intros v;have q:=of_decide_eq_false q2;have r1:=v.2.1;exact PL k4 (fun e=>q (Int.ofNat_lt.mpr e)) r1
      ·intros q1
       repeat keq_hits
       refine hE _ ⟨r,⟨f1,f2,f3,f4,f5,f6,f7,f8,f9,f10,f11,f12,f13⟩,.inr ⟨by exact Wi hr,k5⟩,hall,?_⟩;intros v;have q:=of_decide_eq_false q1;have r1:=v.1;exact PL k3 (fun e=>q (Int.ofNat_lt.mpr e)) r1
     ·intros σ3 hI
      obtain ⟨r,fs2,hrx⟩:=hI
      obtain ⟨f1,f2,f3,f4,f5,f6,f7,f8,f9,f10,f11,f12,f13⟩:=fs2
      have gn4:=f11.nx
      repeat keq_hits
      refine J7 ?_;intros l σ5 g5 hl1 hl2 hl3
      repeat keq_hits
      have gn5:=g5.nx
      refine h _ l (bx - u) (by' - u) (bz+u+r) ⟨?_,rfl,?_⟩ ?_ hl2 hl3 ⟨(bx,by',bz),u,r,bst,hlx,hrx,rfl,rfl,rfl⟩
      ·show σ.nx<=σ5.nx;exact Wh hn f12 hl1 hl2
      ·intros l' hl'
       show σ5.hp l'=_
       rw [g5.hp l' (by exact Wg hn f12 hl'),f11.hp l' (by exact Tl hn hl') (by simp),hh]
      ·exact Wf hn f12 hl1
end
mutual
def AF (t:Ap):QC QU:=[.Qm t.1,.Qm t.2.1,.Qm t.2.2]
theorem EK (P:Ql):D0 (G P).K 152=QM:=by kernel_rfl
end
section
variable {P:Params} {d:Nat} {σ:Mini.St}
mutual
theorem Pu {l:QH} {xs:QC QU} {R:QU->QE->Prop} (h:QS l=.sub 152 xs) (hl:Qn<=Xb) (p:R (.Qm Qn) σ):Ae (G P) d (.imm (.Qd "len")) [.QQ l] σ R:=by
 refine A0 ?_
 unfold AD;dsimp only
 rw [QN (by decide),QN (by decide),QY QA]
 refine ⟨QA,.inr ?_⟩;refine Cq.mk h ?_
 exact ⟨EK P,hl,p⟩
theorem LK {m t:QH} {a b c:QU} {Q:QU->QE->Prop} (hm:QS m=.Q9r 106 152) (ht:QS t=.YM [a,b,c])
  (h:∀l XH,Gro σ XH->QO<=l->l < Xh->X5 l=.sub 152 [a,b,c]->Q (.QQ l) XH):Ae (G P) (d+1) (.QQ m) [.QQ t] σ Q:=by
 injections P d σ m t a b c Q _ _ _
 refine Q01 ?_;refine CE.mk hm ?_
 refine AE (FU P) QA ?_ ?_ 40 ?_
 ·kernel_rfl
 ·kernel_rfl
 intros σ1 hh hn hl
 have h1:Za "cls"=QB (.imm (.QQ 152)):=hl _ _ (by kernel_rfl)
 have h2:Za "iterable"=QB (.QQ t):=hl _ _ (by kernel_rfl)
 have ht1:Q2A t=.YM [a,b,c]:=by rw [hh];exact ht
 refine Ar ?_
 repeat keq_hits
 refine Ho (Ts P) (xs:=[a,b,c]) ?_ ?_ ?_
 ·kas_types
 ·simp [XA]
 repeat keq_hits
 refine Pu (xs:=[a,b,c]) ?_ ?_ ?_
 ·kas_types
 ·simp [XA]
 repeat keq_hits
 refine BE ?_ ?_
 ·intros q
  simp at q
 intros q
 repeat keq_hits
 refine h _ _ (.of hh hn ?_) ?_ ?_ ?_
 ·repeat kwd_rel
 ·exact Ko hn
 ·dsimp only;kwd_less
 ·dsimp only;kas_types
theorem Pj {Q:QU->QE->Prop} (h:Q (.QQ QO) (Qw (.Q9r 106 152))):BB (G P).K (.imm (.QQ 152)) "_make" σ Q:=by
 injections P σ Q _
 exact YJ (Cs.mk QA ⟨.Qk "type",108,106,_,(by kernel_rfl),(by kernel_rfl),QA,h⟩)
theorem Un {l:QH} {fv:QU} {xs:QC QU} {R:QU->QE->Prop} (h:QS l=.Qs xs) (p:R (.QQ (QO+2)) (((Qw (.Q8z l 0)).Q9A (.YM [.QQ QO])).Q9A (.QEL fv (QO+1)))):Ae (G P) d (.imm (.Qk "map")) [fv,.QQ l] σ R:=by
 refine D6 (by decide) ?_
 unfold AD;dsimp only
 rw [QY QA]
 refine ⟨QA,?_⟩;refine Q46 h ?_;exact p
theorem Je {m tl il l f:QH} {qs:QC (QH×Ap)} {R:QU->QE->Prop} (hm:QS m=.QEL (.QQ f) tl) (ht:QS tl=.YM [.QQ il]) (hi:QS il=.Q8z l 0) (hl:QS l=.Qs (YL fun q=>.QQ q.1)) (hf:QS f=.Q9r 106 152)
  (lm:m < QO) (ltl:tl < QO) (lil:il < QO) (ll:l < QO) (lf:f < QO) (Q2Y:Q4R<=4000) (ha:∀q∈qs,q.1 < QO/\QS q.1=.YM (AF q.2))
  (h:∀(XH:QE) (rs:QC (QH×Ap)),QGW [il] σ XH->(∀q∈rs,q.1 < Xh/\X5 q.1=.sub 152 (AF q.2))->Q4r (·.2)=YL (·.2)->R (.QQ Xh) (QEG (.Qs (Q4r fun q=>.QQ q.1)))) :
  Ae (G P) (d+2) (.imm (.Qk "list")) [.QQ m] σ R:=by
 refine Q01 ⟨QA,QA,?_⟩;refine DF.mk hm ?_;show FE _ _ _ _ _ _
 have n1:m≠il:=fun e=>by rw [e,hi]at hm;cases hm
 have n2:tl≠il:=fun e=>by rw [e,hi]at ht;cases ht
 have n3:l≠il:=fun e=>by rw [e,hi]at hl;cases hl
 have n4:f≠il:=fun e=>by rw [e,hi]at hf;cases hf
 refine ⟨il,l,YL fun q=>.QQ q.1,by rw [QK,XA];exact GK Q2Y,?_⟩
 have key:∀(QA3 dn:QC (QH×Ap)) (i:QH) (acc:QC (QH×Ap)) (σ2:QE),qs=dn++QA3->QGW [il] σ σ2->Z3 il=.Q8z l i->(∀q∈acc,q.1 < Q02/\Z3 q.1=.sub 152 (AF q.2))->QC0 (·.2)=dn.map (·.2) ->
   Ek (Ae (G P) (d+1)) m tl il l (.QQ f) (YL fun q=>.QQ q.1) (rest.map fun q=>.QQ q.1) i (QC0 fun q=>.QQ q.1) σ2 fun vs XH=>R (.QQ Xh) (QEG (.Qs vs)):=by
  intro QA3
  induction QA3 with
  | Zo =>
   intro dn i acc σ2 hq g k1 k2 k3
   rw [Q3N]at hq
   subst hq
   refine ⟨⟨(Q1a m lm (by simpa using n1)).QR hm,(Q1a tl ltl (by simpa using n2)).QR ht,k1,(Q1a l ll (by simpa using n3)).QR hl⟩,?_⟩
   refine h (σ2.upd il .any) acc ⟨Q7f,QAY,fun l' hl' hx=>?_⟩ (fun q hq=>⟨(k2 q hq).1,?_⟩) k3
   ·have:l'≠il:=by simpa using hx
    rw [Bp,QN this];exact Q1a l' hl' hx
   ·have:q.1≠il:=fun e=>by have:=(k2 q hq).2;rw [e,k1]at this;cases this
    rw [Bp,QN this];exact (k2 q hq).2
  | Xx q QA3 ih =>
   intro dn i acc σ2 hq g k1 k2 k3
   have gn:=Q7f
   obtain (⟨b1,b2⟩):=ha q (by rw [hq];simp)
   have n5:q.1≠il:=fun e=>by rw [e,hi]at b2;cases b2
   refine ⟨⟨(Q1a m lm (by simpa using n1)).QR hm,(Q1a tl ltl (by simpa using n2)).QR ht,k1,(Q1a l ll (by simpa using n3)).QR hl⟩,?_⟩
   refine LK (a:=.Qm q.2.1) (b:=.Qm q.2.2.1) (c:=.Qm q.2.2.2) ?_ ?_ fun l' σ3 g3 h1 h2 h3=>?_
   ·rw [Bp,QN n4];exact (Q1a f lf (by simpa using n4)).QR hf
   ·rw [Bp,QN n5];exact (Q1a q.1 b1 (by simpa using n5)).QR b2
   have gn3:Q02<=Q0l:=Q9H
   have h1':Q02<=l':=h1
   have e2:(QC0 fun q=>Ya q.1)++[Ya l']=(acc++[(l',q.2)]).map fun q=>Ya q.1:=by rw [Qt];rfl
   rw [e2]
   refine ih (dn++[q]) (i+1) (acc++[(l',q.2)]) σ3 (by rw [hq];simp) ⟨by exact VD gn h2 h1',g3.loc.trans QAY,fun x hx hx2=>?_⟩ ?_ (fun r hr=>?_) (by rw [Qt,Qt,k3];rfl)
   ·have:x≠il:=by simpa using hx2
    refine (Q42 x (by show x < Q02;exact Be gn hx)).QR ?_
    rw [Bp,QN this];exact Q1a x hx hx2
   ·refine (Q42 il (by show il < Q02;exact B8 lil gn)).QR ?_
    rw [Bp,QY QA]
   ·rcases Y4 hr with hr | hr
    ·obtain (⟨y1,y2⟩):=k2 r hr
     have:r.1≠il:=fun e=>by rw [e,k1]at y2;cases y2
     refine ⟨by exact GF h2 h1' y1,(Q42 r.1 y1).QR ?_⟩
     rw [Bp,QN this];exact y2
    ·rw [Xj]at hr
     subst hr
     exact ⟨h2,h3⟩
 exact key qs [] 0 [] σ QA ⟨Qh _,QA,fun _ _ _=>QA⟩ hi (fun q hq=>(by cases hq)) QA
end
end
mutual
def Oy (w:Win):QC QU:=[.Qm Y0,.Qm Q0R,.Qm Y1,.Qm Q0I]
theorem JP (P:Ql):Nq (K P) 152=QM:=by kernel_rfl
theorem CS (P:Ql):Du (G P).K 152=QM:=by kernel_rfl
structure Q8 (σ1 σ2:QE) (s na nb:QH) (qs:QC (QH×Win)) (ms:QC (QH×Ap)):Prop where
 Q1g:Q41 "self"=QB (.QQ s)
 la:Q41 "la"=QB (.Qm na)
 lb:Q41 "lb"=QB (.Qm nb)
 queue:Q41 "queue"=QB (.QQ (YD+2))
 mb:Q41 "matching_blocks"=QB (.QQ (YD+3))
 g:YU [] σ1 σ2
 hx:YD+3 < Q02
 hq:Z3 (YD+2)=.Qs ((YL fun q=>Ya q.1).Q65)
 hm:Z3 (YD+3)=.Qs (Q6R fun q=>.QQ q.1)
 qa:∀q∈qs,q.1 < Q02/\Z3 q.1=.YM (Oy q.2)/\q.2.alo<=q.2.ahi/\q.2.ahi<=na/\q.2.blo<=q.2.bhi/\q.2.bhi<=nb
 ma:∀q∈ms,q.1 < Q02/\Z3 q.1=.sub 152 (AF q.2)
theorem OG (ws:QC Win):Q4S<=(QD4 wsz).sum:=by
 induction ws with
 | Zo=>exact Qh _
 | Xx w ws ih=>simp only [Xg,XV,Zu,wsz]at *;exact We ih
def sF (q:QH×Ap):QH×X4×QC QU:=(q.1,(q.2.1:X4),[.Qm q.2.2.1,.Qm q.2.2.2])
def Te:QU->QH
 | .Qm i=>QH7
 | _=>0
def sG (u:QH×X4×QC QU):QH×Ap:=(u.1,u.2.1.Q1Z,Te (u.2.2.Q4m 0 .QG),Te (u.2.2.Q4m 1 .QG))
theorem S6 (q:QH×Ap):sG (sF q)=q:=QA
theorem Gj {ms:QC (QH×Ap)} {L:QC Ap} {us:QC (QH×X4×QC QU)} (hP:(Q6R (·.2)).Perm L) (hL:Q5c (fun x y=>x.1 < y.1)) (hu:QF6 (Q6R sF)) (hs:Q8L (fun x y=>x.2.1 < y.2.1)) :
  ∃vs:QC (QH×Ap),us=Q9n sF/\vs.Perm ms/\Q9n (·.2)=L:=by
 have QDO:∀u∈us,sF (sG u)=u:=fun u h=>by
  refine ew1 (Z2 (hu.mem_iff.mp h)) fun q yq93=>?_;refine an2 yq93 fun _ yq94=>?_;obtain QA:=yq94;clear yq93
  rw [S6]
 have e1:us=(QF7 sG).map sF:=by
  rw [YZ]
  conv=>lhs;rw [<- QGb us]
  exact Q8y fun u h=>(QDO u h).Q37
 have e2:(QF7 sG).Perm ms:=by
  have:=hu.map sG
  rw [YZ]at this
  have e3:Q6R (sG ∘ sF)=ms:=by
   conv=>rhs;rw [<- QGb ms]
   exact Q8y fun q _=>S6 q
  rwa [e3]at this
 refine ⟨QF7 sG,e1,e2,?_⟩
 refine Dv (f:=fun t:Ap=>(t.1:X4)) ((e2.map (·.2)).QR hP) ?_ (hL.imp fun h=>by exact YS h)
 rw [e1,QAZ]at hs
 rw [QAZ]
 exact hs.imp fun h=>h
end
section
variable {P:Params} {d:Nat} {σ:Mini.St}
mutual
theorem SMOk.old {hp hp':QH->Ob} {hi hi' s ds bj js bp la lb:QH} {fv mb:QU} {Y5:QC (Yh×QU)} {xs A B:QC Yh} {J:Yh->Qu} (sm:SMOk hp hi s ds bj js bp la lb fv mb Y5 xs A B J) (hk:∀l,l < hi->hp' l=hp l) (hh:hi<=hi'):SMOk hp' hi' s ds bj js bp la lb fv mb Y5 xs A B J where
 Q5L:=(hk _ sm.ls).QR QHk
 Q1X:=(hk _ sm.lds).QR QGc
 a:=(hk _ sm.lla).QR sm.a
 b:=(hk _ sm.llb).QR sm.b
 b2j:=(hk _ sm.lbj).QR sm.b2j
 junk:=(hk _ sm.ljs).QR sm.junk
 has:=fun k h1 h2=>by
  refine ew1 (sm.has k h1 h2) fun l yq95=>?_;refine an4 yq95 fun r1 r2 r3 r4=>?_;clear yq95
  exact ⟨l,r1,by exact Be hh r2,r3,(hk l r2).QR r4⟩
 not:=sm.not
 mem:=sm.mem
 ls:=by have:=sm.ls;exact Be hh this
 lds:=by have:=sm.lds;exact Be hh this
 lla:=by have:=sm.lla;exact Be hh this
 llb:=by have:=sm.llb;exact Be hh this
 lbj:=by have:=sm.lbj;exact Be hh this
 ljs:=by have:=sm.ljs;exact Be hh this
 sds:=sm.sds
 ads:=sm.ads
 bds:=sm.bds
 jds:=sm.jds
 sjs:=sm.sjs
theorem N3 {s ds bj js bp la lb:QH} {fv:QU} {Y5:QC (Yh×QU)} {xs A B:QC Yh} {J:Yh->Qu} {Q:QU->QE->Prop} (sm:SMOk QS QO s ds bj js bp la lb fv .QG Y5 xs A B J)
  (hA:XR<=4000) (hA':∀L,Blk (MM A B) (UU B J) ⟨0,XR,0,Xn⟩ L->Q6l < 64) (hB:Xn<=4000) (hlk:∀x∈A,∀y∈B,KS x y=QM)
  (h:∀XH l (qs:QC (QH×Ap)),QGW [ds] σ XH->QO<=l->l < Xh->X5 l=.Qs (YL fun q=>.QQ q.1)->(∀q∈qs,q.1 < Xh/\X5 q.1=.sub 152 (AF q.2))->Gmb (MM A B) (UU B J) XR Xn (YL (·.2))->Q (.QQ l) XH) :
  Ae (G P) (d+3) (.imm (.QQ 220)) [.QQ s] σ Q:=by
 injections P d σ s ds bj js bp la lb fv Y5 xs A B J Q _ _ _ _ _ _
 refine BQ (AE (AU P) QA ?_ ?_ 40 ?_)
 ·kernel_rfl
 ·kernel_rfl
 intros σ1 hh hn hl
 have h1:Za "self"=QB (.QQ s):=hl _ _ (by kernel_rfl)
 rw [<- hh,<- hn]at sm
 have c1:=QHk
 have c2:=QGc
 have c3:=sm.a
 have c4:=sm.b
 have l1:=sm.ls
 have l2:=sm.lds
 have l3:=sm.lla
 have l4:=sm.llb
 refine Ar ?_
 repeat keq_hits
 refine F3 (xs:=Q9F Q12) ?_ ?_ ?_
 ·kas_types
 ·rw [QK,XA];exact GK hA
 repeat keq_hits
 refine F3 (xs:=Q9G Q12) ?_ ?_ ?_
 ·kas_types
 ·rw [QK,XA];exact GK hB
 rw [QK,QK]
 repeat keq_hits
 with_reducible refine DL (2*XR+1+1) ?_
 refine BX (n:=2*XR+1) (fun n σ2=>∃qs ms,Q8 σ1 σ2 s XR Xn qs ms/\Eb (MM A B) (UU B J) ⟨0,XR,0,Xn⟩ (Q6R (·.2)) (YL (·.2))/\n=((YL (·.2)).map wsz).sum/\QBL+n<=2*XR+1) (fun σ2=>∃ms,Q8 σ1 σ2 s XR Xn [] ms/\Eb (MM A B) (UU B J) ⟨0,XR,0,Xn⟩ (Q6R (·.2)) []/\QBL<=2*XR+1) ?_ ?_ ?_
 ·refine ⟨[(YD+1,⟨0,XR,0,Xn⟩)],[],⟨?_,?_,?_,?_,?_,?_,?_,?_,?_,?_,fun q hq=>(by cases hq)⟩,Eb.start _,(by simp [wsz]),(by simp)⟩
  all_goals first | keq_rows | kas_types | kwd_less | ((repeat kwd_rel);done) | skip
  intros q hq
  rw [Xj]at hq
  subst hq
  refine ⟨?_,?_,XQ _,Qh _,XQ _,Qh _⟩
  ·kwd_less
  ·show Q2j _ (YD+1)=Q43 [.Qm 0,.Qm XR,.Qm 0,.Qm Xn]
   kas_types
 ·intros n σ2 hI R Q' hn2 hc2 hE
  obtain ⟨qs,ms,qq,qi,QD7,hms⟩:=hI
  obtain ⟨f1,f2,f3,f4,f5,f6,f7,f8,f9,f10,f11⟩:=qq
  have gn2:=f6.nx
  have hql:=OG (YL (·.2))
  rw [QK,<- QD7]at hql
  repeat keq_hits
  refine OC (xs:=(YL fun q=>Ya q.1).Q65) ?_ ?_ ?_
  ·kas_types
  ·rw [Q36,QK,XA];exact Wd hA hms hql
  refine BE ?_ ?_
  ·intros qe
   cases qs with
   | Zo=>simp at qe
   | Xx q qs =>
    injections q qs zI
    obtain ⟨x1,x2,x3,x4,x5,x6⟩:=(f10 q (.Zf _))
    have f8':Z3 (YD+2)=.Qs ((YL fun q=>Ya q.1).Q65++[.QQ q.1]):=by rw [f8,XV,Q0Z]
    have hlab:q.1≠YD+2:=fun e=>by rw [e,f8]at x2;cases x2
    have e1:Z3 s=.Q5L 259 ds:=(f6.hp s l1 (by simp)).QR c1
    have e2:Z3 ds=_:=(f6.hp ds l2 (by simp)).QR c2
    have hold:∀l,l < YD->Z3 l=Q2A l:=fun l hl=>f6.hp l hl (by simp)
    unfold Oy at x2
    repeat keq_hits
    refine Um (ys:=(YL fun q=>Ya q.1).Q65) (y:=.QQ q.1) ?_ ?_ ?_
    ·kas_types
    ·rw [Xz,Q36,QK,XA];simp only [Xg,List.length_nil]at *;exact Wc hA hms hql
    have:=H4 l1;have:=H4 l2;repeat keq_hits
    refine N5 (w:=q.2) (sm.old (hp':=Q2j _) (hi':=Mini.St.nx _) ?_ ?_) x3 x4 x5 x6 hA hB hlk ?_
    ·intros l hl
     rw [<- hold l hl];have:=H4 hl;kas_types
    ·kwd_less
    intros σ3 l i j k g3 hl1 hl2 hl3 hf
    have gn3:Q02<=Q0l:=Q9H
    have hq3:∀l,l < Q02->l≠YD+2->Q4s l=Z3 l:=fun l hl hne=>(Q42 l hl).QR (by kas_types)
    have hq4:Q4s (YD+2)=.Qs ((YL fun q=>Ya q.1).Q65):=(Q42 _ (by dsimp only [Ah,Ac];exact Wb f7)).QR (by kas_types)
    have a1:Q1Q "self"=QB (.QQ s):=by rw [Q8U];keq_rows
    have a2:Q1Q "la"=QB (.Qm XR):=by rw [Q8U];keq_rows
    have a3:Q1Q "lb"=QB (.Qm Xn):=by rw [Q8U];keq_rows
    have a4:Q1Q "queue"=QB (.QQ (YD+2)):=by rw [Q8U];keq_rows
    have a5:Q1Q "matching_blocks"=QB (.QQ (YD+3)):=by rw [Q8U];keq_rows
    have a6:Q1Q "alo"=QB (.Qm q.2.alo):=by rw [Q8U];keq_rows
    have a7:Q1Q "ahi"=QB (.Qm q.2.ahi):=by rw [Q8U];keq_rows
    have a8:Q1Q "blo"=QB (.Qm q.2.blo):=by rw [Q8U];keq_rows
    have a9:Q1Q "bhi"=QB (.Qm q.2.bhi):=by rw [Q8U];keq_rows
    have G3:YU [] σ1 σ3:=⟨by exact Wa f7 gn3,fun l hl hx=>(hq3 l (by exact P2 f7 hl) (by exact H4 hl)).QR (hold l hl)⟩
    have b1:Q4s (YD+3)=.Qs (Q6R fun q=>.QQ q.1):=(hq3 _ f7 (by exact V9)).QR f9
    have hin:=QEI x3 x5
    repeat keq_hits
    refine Mt hl3 (CS P) QA ?_
    repeat keq_hits
    refine BE ?_ ?_
    ·intros ke
     have kp:0 < k:=by
      have:((k:X4) != 0)=QM:=ke
      simp at this
      exact V8 this
     have hsz:=Lq (ws:=YL (·.2)) (w:=q.2) (i:=i) (j:=j) (k:=k) kp hin.1 hin.2.1
     have hqt:=qi.take hf kp
     repeat keq_hits
     refine Bc (xs:=Q6R fun q=>Ya q.1) ?_ ?_ ?_
     ·kas_types
     ·rw [QK,XA];simp only [Xg]at *;exact V7 hA hms
     have QBM:Q02<=l:=hl1
     have hqa:∀q'∈qs,q'.1 < Q02/\q'.1≠YD+2/\q'.1≠YD+3/\Q4s q'.1=.YM (Oy q'.2)/\q'.2.alo<=q'.2.ahi/\q'.2.ahi<=XR/\q'.2.blo<=q'.2.bhi/\q'.2.bhi<=Xn:=by
      intros q' hq'
      obtain ⟨y1,y2,y3⟩:=(f10 q' (.Q38 _ hq'))
      have hne:q'.1≠YD+2:=fun e=>by rw [e,f8]at y2;cases y2
      have QFN:q'.1≠YD+3:=fun e=>by rw [e,f9]at y2;cases y2
      exact ⟨y1,hne,QFN,(hq3 _ y1 hne).QR y2,y3⟩
     have hma:∀q'∈ms++[(l,(i,j,k))],q'.1 < Q0l/\q'.1≠YD+2/\q'.1≠YD+3/\Q4s q'.1=.sub 152 (AF q'.2):=by
      intros q' hq'
      rcases Y4 hq' with hq' | hq'
      ·obtain ⟨y1,y2⟩:=f11 q' hq'
       have hne:q'.1≠YD+2:=fun e=>by rw [e,f8]at y2;cases y2
       have QFN:q'.1≠YD+3:=fun e=>by rw [e,f9]at y2;cases y2
       exact ⟨by exact GF hl2 QBM y1,hne,QFN,(hq3 _ y1 hne).QR y2⟩
      ·rw [Xj]at hq'
       subst hq'
       exact ⟨hl2,by dsimp only;exact V6 f7 QBM,by dsimp only;exact V5 f7 QBM,hl3⟩
     have hmap:(ms++[(l,(i,j,k))]).map (fun q=>Ya q.1)=(Q6R fun q=>Ya q.1)++[.QQ l]:=by rw [Qt];rfl
     with_reducible apply AB
     with_reducible apply Ar
     refine HS (fun σ5=>∃qs',QHl (·.2)=Cd q.2 i j (YL (·.2))/\Q8 σ1 σ5 s XR Xn qs' (ms++[(l,(i,j,k))])/\(Q3O "ahi"=QB (.Qm q.2.ahi)/\Q3O "bhi"=QB (.Qm q.2.bhi)/\Q3O "i"=QB (.Qm i)/\Q3O "j"=QB (.Qm j)/\Q3O "k"=QB (.Qm k))) ?_ ?_
     ·intros R5 hR5
      repeat keq_hits
      refine Aw ?_ ?_
      ·intros p1
       have p1':q.2.alo < i:=by have:=YG p1;exact (Ym this)
       repeat keq_hits
       refine Aw ?_ ?_
       ·intros p2
        have p2':q.2.blo < j:=by have:=YG p2;exact (Ym this)
        repeat keq_hits
        refine Bc (xs:=(YL fun q=>Ya q.1).Q65) ?_ ?_ ?_
        ·have:=V4 f7 hl2 QBM;kas_types
        ·rw [Q36,QK,XA];simp only [Xg]at *;exact V3 hA hms hql
        repeat keq_hits
        refine hR5 _ ⟨(Q0l,⟨q.2.alo,i,q.2.blo,j⟩)::qs,(by unfold Cd;rw [QY ⟨p1',p2'⟩];rfl),⟨?_,?_,?_,?_,?_,?_,?_,?_,?_,fun q' hq'=>?_,fun q' hq'=>?_⟩,?_,?_,?_,?_,?_⟩
        all_goals first | keq_rows | ((try have:=Kh f7 hl2 QBM);kwd_less) | ((repeat kwd_rel);done) | skip
        ·rw [XV,Q0Z];kas_types
        ·rw [hmap];have:=Kh f7 hl2 QBM;kas_types
        ·rcases XT hq' with hq' | hq'
         ·subst hq'
          refine ⟨?_,?_,?_,?_,?_,?_⟩
          ·kwd_less
          ·show Q2j _ Q0l=Q43 [.Qm q.2.alo,.Qm i,.Qm q.2.blo,.Qm j]
           have:=V2 f7 hl2 QBM;kas_types
          all_goals (dsimp only;first | exact X7 (by assumption) | exact Qz (Qz (Q2n _ _) hin.2.1) x4 | exact Qz (Qz (Q2n _ _) hin.2.2.2) x6)
         ·obtain ⟨y1,y2,y3,y4,y5⟩:=(hqa q' hq')
          exact ⟨by have:=GF hl2 QBM y1;kwd_less,by have:=GF hl2 QBM y1;kas_types,y5⟩
        ·obtain ⟨y1,y2,y3,y4⟩:=(hma q' hq')
         exact ⟨by kwd_less,by kas_types⟩
       ·intros p2
        have p2':¬q.2.blo < j:=by have:=ZN p2;exact (fun e=>this (YS e))
        repeat keq_hits
        refine hR5 _ ⟨qs,(by unfold Cd;rw [QN (fun r=>p2' r.2)]),⟨?_,?_,?_,?_,?_,?_,?_,?_,?_,fun q' hq'=>?_,fun q' hq'=>?_⟩,?_,?_,?_,?_,?_⟩
        all_goals first | keq_rows | ((try have:=Kh f7 hl2 QBM);kwd_less) | ((repeat kwd_rel);done) | (rw [hmap];kas_types;done) | (kas_types;done) | skip
        ·obtain ⟨y1,y2,y3,y4,y5⟩:=(hqa q' hq')
         exact ⟨by have:=GF hl2 QBM y1;kwd_less,by kas_types,y5⟩
        ·obtain ⟨y1,y2,y3,y4⟩:=(hma q' hq')
         exact ⟨by kwd_less,by kas_types⟩
      ·intros p1
       have p1':¬q.2.alo < i:=by have:=ZN p1;exact (fun e=>this (YS e))
       repeat keq_hits
       refine hR5 _ ⟨qs,(by unfold Cd;rw [QN (fun r=>p1' r.1)]),⟨?_,?_,?_,?_,?_,?_,?_,?_,?_,fun q' hq'=>?_,fun q' hq'=>?_⟩,?_,?_,?_,?_,?_⟩
       all_goals first | keq_rows | ((try have:=Kh f7 hl2 QBM);kwd_less) | ((repeat kwd_rel);done) | (rw [hmap];kas_types;done) | (kas_types;done) | skip
       ·obtain ⟨y1,y2,y3,y4,y5⟩:=(hqa q' hq')
        exact ⟨by have:=GF hl2 QBM y1;kwd_less,by kas_types,y5⟩
       ·obtain ⟨y1,y2,y3,y4⟩:=(hma q' hq')
        exact ⟨by kwd_less,by kas_types⟩
     ·intros σ5 hK
      obtain ⟨qs',hqs',⟨w1,w2,w3,w4,w5,w6,w7,w8,w9,w10,w11⟩,v1,v2,v3,v4,v5⟩:=hK
      with_reducible apply AB
      with_reducible apply Ar
      refine HS (fun σ5=>∃qs',QHl (·.2)=DT q.2 i j k (Cd q.2 i j (YL (·.2)))/\Q8 σ1 σ5 s XR Xn qs' (ms++[(l,(i,j,k))])) ?_ ?_
      ·intros R5 hR5
       have gn5:=w6.nx
       have hlen':qs'.length<=Q4R+1:=by
        have:=Z8 QGd hqs'
        rw [QK]at this
        rw [this]
        unfold Cd
        split <;> simp
       have hqa':∀q'∈qs',q'.1 < Q4T/\q'.1≠YD+2/\q'.1≠YD+3/\Q9o q'.1=.YM (Oy q'.2)/\q'.2.alo<=q'.2.ahi/\q'.2.ahi<=XR/\q'.2.blo<=q'.2.bhi/\q'.2.bhi<=Xn:=by
        intros q' hq'
        obtain ⟨y1,y2,y3⟩:=(w10 q' hq')
        have hne:q'.1≠YD+2:=fun e=>by rw [e,w8]at y2;cases y2
        have QFN:q'.1≠YD+3:=fun e=>by rw [e,w9]at y2;cases y2
        exact ⟨y1,hne,QFN,y2,y3⟩
       have hma':∀q'∈ms++[(l,(i,j,k))],q'.1 < Q4T/\q'.1≠YD+2/\q'.1≠YD+3/\Q9o q'.1=.sub 152 (AF q'.2):=by
        intros q' hq'
        obtain ⟨y1,y2⟩:=w11 q' hq'
        have hne:q'.1≠YD+2:=fun e=>by rw [e,w8]at y2;cases y2
        have QFN:q'.1≠YD+3:=fun e=>by rw [e,w9]at y2;cases y2
        exact ⟨y1,hne,QFN,y2⟩
       have xk:(i:X4)+(k:X4)=((i+k:QH):X4):=by exact ia2 (CR)
       have yk:(j:X4)+(k:X4)=((j+k:QH):X4):=by exact ia2 (CR)
       repeat keq_hits
       refine Aw ?_ ?_
       ·intros p1
        have p1':i+k < q.2.ahi:=by have:=YG p1;exact (Ym this)
        repeat keq_hits
        refine Aw ?_ ?_
        ·intros p2
         have p2':j+k < q.2.bhi:=by have:=YG p2;exact (Ym this)
         repeat keq_hits
         rw [xk,yk]
         refine Bc (xs:=(QHl fun q=>Ya q.1).Q65) ?_ ?_ ?_
         ·have:=V0 w7;kas_types
         ·rw [Q36,QK,XA];simp only [Xg]at *;exact VZ hA hms hql hlen'
         repeat keq_hits
         refine hR5 _ ⟨(Q4T,⟨i+k,q.2.ahi,j+k,q.2.bhi⟩)::qs',(by unfold DT;rw [QY ⟨p1',p2'⟩,<- hqs'];rfl),⟨?_,?_,?_,?_,?_,?_,?_,?_,?_,fun q' hq'=>?_,fun q' hq'=>?_⟩⟩
         all_goals first | keq_rows | kwd_less | ((repeat kwd_rel);done) | skip
         ·rw [XV,Q0Z];kas_types
         ·have:=P1 w7;kas_types
         ·rcases XT hq' with hq' | hq'
          ·subst hq'
           refine ⟨?_,?_,?_,?_,?_,?_⟩
           ·kwd_less
           ·show Q2j _ Q4T=Q43 [.Qm ((i+k:QH):X4),.Qm q.2.ahi,.Qm ((j+k:QH):X4),.Qm q.2.bhi]
            have:=VY w7;kas_types
           all_goals (dsimp only;first | exact X7 (by assumption) | exact x4 | exact x6)
          ·obtain ⟨y1,y2,y3,y4,y5⟩:=(hqa' q' hq')
           exact ⟨by kwd_less,by have:=Ag y1;kas_types,y5⟩
         ·obtain ⟨y1,y2,y3,y4⟩:=(hma' q' hq')
          exact ⟨by kwd_less,by have:=Ag y1;kas_types⟩
        ·intros p2
         have p2':¬j+k < q.2.bhi:=by have:=ZN p2;exact (fun e=>this (YS e))
         repeat keq_hits
         exact hR5 _ ⟨qs',(by unfold DT;rw [QN (fun r=>p2' r.2)];exact hqs'),⟨w1,w2,w3,w4,w5,w6,w7,w8,w9,w10,w11⟩⟩
       ·intros p1
        have p1':¬i+k < q.2.ahi:=by have:=ZN p1;exact (fun e=>this (YS e))
        repeat keq_hits
        exact hR5 _ ⟨qs',(by unfold DT;rw [QN (fun r=>p1' r.1)];exact hqs'),⟨w1,w2,w3,w4,w5,w6,w7,w8,w9,w10,w11⟩⟩
      ·intros σ5 hK
       obtain ⟨qs2,hqs2,hQS⟩:=hK
       repeat keq_hits
       refine hn2 _ _ ?_ ⟨qs2,ms++[(l,(i,j,k))],hQS,?_,QA,?_⟩
       ·rw [hqs2,QD7];exact hsz
       ·rw [hqs2,Qt];exact hqt
       ·rw [hqs2,Xz,Q08]
        simp only [XV,Zu]at QD7 hsz
        exact VX hms QD7 hsz
    ·intros ke
     have k0:k=0:=by
      have:((k:X4) != 0)=QJ:=ke
      simpa using this
     subst k0
     repeat keq_hits
     have hms0:QBL+((YL (·.2)).map wsz).sum<=2*XR+1:=by
      simp only [XV,Zu]at QD7
      exact VW hms QD7
     refine hn2 ((YL (·.2)).map wsz).sum _ (by rw [QD7];simp only [XV,Zu,wsz];exact VV) ⟨qs,ms,⟨?_,?_,?_,?_,?_,?_,?_,?_,?_,fun q' hq'=>?_,fun q' hq'=>?_⟩,Eb.drop qi hf,QA,hms0⟩
     all_goals first | keq_rows | kas_types | ((try have:=VU f7 gn3);kwd_less) | ((repeat kwd_rel);done) | skip
     ·obtain ⟨y1,y2,y3⟩:=(f10 q' (.Q38 _ hq'))
      have hne:q'.1≠YD+2:=fun e=>by rw [e,f8]at y2;cases y2
      have y4:=(hq3 _ y1 hne).QR y2
      exact ⟨by have:=Be gn3 y1;kwd_less,by kas_types,y3⟩
     ·obtain ⟨y1,y2⟩:=f11 q' hq'
      have hne:q'.1≠YD+2:=fun e=>by rw [e,f8]at y2;cases y2
      have y4:=(hq3 _ y1 hne).QR y2
      exact ⟨by have:=Be gn3 y1;kwd_less,by kas_types⟩
  ·intros qe
   cases qs with
   | Xx q qs=>simp at qe
   | Zo =>
    repeat keq_hits
    exact hE _ ⟨ms,⟨f1,f2,f3,f4,f5,f6,f7,f8,f9,f10,f11⟩,qi,by exact VT hms⟩
 ·intros σ2 hI
  obtain ⟨ms,⟨f1,f2,f3,f4,f5,f6,f7,f8,f9,f10,f11⟩,qi,hms⟩:=hI
  have gn2:=f6.nx
  obtain ⟨L0,hB0,hP⟩:=qi.done
  have Q9j:=hB0.inside (XQ _) (XQ _)
  have hpw:L0.Pairwise (fun x y=>x.1 < y.1):=List.Pairwise.imp_of_mem (fun {x y} hx hy r=>by have:=(Q9j.1 x hx).2.2.2.2;exact VQ r.1 this) Q9j.2
  have Q2Y:QBL < 64:=by
   have h1:=hP.length_eq
   rw [QK]at h1
   have h2:=hA' L0 hB0
   exact VP h1 h2
  repeat keq_hits
  refine Ps (ts:=Q6R sF) (JP P) ?_ ?_ ?_ ?_ ?_
  ·rw [YZ];exact f9
  ·rw [QK];exact Q2Y
  ·intros t ht
   obtain ⟨q,hq,QA⟩:=(Z2 ht)
   exact f11 q hq
  ·rw [YZ]
   have hnd:((Q6R (·.2)).map fun t:Ap=>(t.1:X4)).QED:=by
    refine (hP.map _).nodup_iff.mpr ?_
    refine List.pairwise_map.mpr (hpw.imp fun r q=>?_)
    exact US r (Q0D q)
   rw [YZ]at hnd
   exact hnd
  intros us hus hss
  obtain ⟨vs,QA,hvs,hvL⟩:=(Gj hP hpw hus hss)
  rw [YZ]
  have hva:∀q∈vs,q.1 < Q02/\Z3 q.1=.sub 152 (AF q.2):=fun q hq=>f11 q (hvs.mem_iff.mp hq)
  have hmap2:(Q9n ((fun t:QH×X4×QC QU=>Ya t.1) ∘ sF))=Q9n fun q=>Ya q.1:=QA
  rw [hmap2]
  repeat keq_hits
  refine Ax (fun t σ3=>(Q1Q "self"=QB (.QQ s)/\Q1Q "la"=QB (.Qm XR)/\Q1Q "lb"=QB (.Qm Xn)/\Q1Q "non_adjacent"=QB (.QQ Q02))/\YU [YD+3] σ2 σ3/\Q02 < Q0l/\Q4s (YD+3)=.Qs (Q9n fun q=>Ya q.1)/\∃c:Ap,(Q1Q "i1"=QB (.Qm c.1)/\Q1Q "j1"=QB (.Qm c.2.1)/\Q1Q "k1"=QB (.Qm c.2.2))/\∃ns:QC (QH×Ap),Q4s Q02=.Qs (Q4Q fun q=>Ya q.1)/\(∀q∈ns,q.1 < Q0l/\Q4s q.1=.YM (AF q.2))/\Q4Q (·.2)++mrg c ((Q9n (·.2)).Q9a t)=mrg (0,0,0) L0/\Q2L<=t) (fun _=>Yn) (fun _ _=>Yn) ?_ (fun t σ3 hI=>hI.2.2.2.1) ?_ ?_ (fun _ q=>Q2i) (fun _ _ q=>Q2i)
  ·refine ⟨⟨?_,?_,?_,?_⟩,?_,?_,?_,(0,0,0),⟨?_,?_,?_⟩,[],?_,fun q hq=>(by cases hq),?_,Qh _⟩
   all_goals first | keq_rows | (kas_types;done) | kwd_less | ((repeat kwd_rel);done) | skip
   ·rw [<- hvL];rfl
  ·intros t x σ3 hx hI R hn2 u1 u2 u3
   obtain ⟨⟨m1,m2,m3,m4⟩,g3,hx3,m5,c,⟨m6,m7,m8⟩,ns,nl,na,QGe,hns⟩:=hI
   have gn3:=Q9H
   have zO:∃q,vs[t]?=QB q/\x=.QQ q.1:=by
    rw [QT]at hx
    cases e:vs[t]? with
    | QG=>rw [e]at hx;cases hx
    | QB q=>rw [e]at hx;exact ⟨q,QA,(X2 hx).Q37⟩
   obtain ⟨q,hq,QA⟩:=zO
   have htv:t < Q0U:=(QX hq).1
   have hvl:Q0U < 64:=by rw [QDc];exact Q2Y
   have Q6d:(Q9n (·.2)).Q9a t=q.2::(Q9n (·.2)).Q9a (t+1):=by
    rw [YP (by rw [QK];exact htv),QBN]
    rw [(QX hq).2]
   obtain ⟨y1,y2⟩:=hva q (XG hq)
   have QFN:q.1≠YD+3:=fun e=>by rw [e,f9]at y2;cases y2
   have y3:Q4s q.1=.sub 152 [.Qm q.2.1,.Qm q.2.2.1,.Qm q.2.2.2]:=(Q42 _ y1 (by simpa using QFN)).QR y2
   try dsimp only
   repeat keq_hits
   refine Mt y3 (CS P) QA ?_
   repeat keq_hits
   refine (fun hK:¬(c.1+c.2.2=q.2.1/\c.2.1+c.2.2=q.2.2.1)->(?PK2:Prop)=>Aw (fun p1=>?mA) (fun p1=>?mB)) ?mC
   case mA =>
    have p1':c.1+c.2.2=q.2.1:=by simp only [ZM]at p1;exact (Q0D p1)
    repeat keq_hits
    refine Aw ?_ ?_
    ·intros p2
     have p2':c.2.1+c.2.2=q.2.2.1:=by simp only [ZM]at p2;exact (Q0D p2)
     repeat keq_hits
     rw [show (c.2.2:X4)+(q.2.2.2:X4)=((c.2.2+q.2.2.2:QH):X4) by exact ia2 (CR)]
     refine hn2 _ ⟨⟨?_,?_,?_,?_⟩,?_,?_,?_,(c.1,c.2.1,c.2.2+q.2.2.2),⟨?_,?_,?_⟩,ns,?_,fun q' hq'=>?_,?_,by exact Hs hns⟩
     all_goals first | keq_rows | (kas_types;done) | kwd_less | ((repeat kwd_rel);done) | skip
     ·obtain ⟨y1,y2⟩:=na q' hq'
      exact ⟨by kwd_less,by kas_types⟩
     ·rw [<- QGe,Q6d,mrg,QY ⟨p1',p2'⟩]
    ·intros p2
     have hno:¬(c.1+c.2.2=q.2.1/\c.2.1+c.2.2=q.2.2.1):=by
      intros r
      have:((c.2.1:X4)+c.2.2 == (q.2.2.1:X4))=QM:=by simp only [ZM];exact ia2 (PR r.2)
      rw [this]at p2;cases p2
     repeat keq_hits
     exact hK hno
   case mB =>
    have hno:¬(c.1+c.2.2=q.2.1/\c.2.1+c.2.2=q.2.2.1):=by
     intros r
     have:((c.1:X4)+c.2.2 == (q.2.1:X4))=QM:=by simp only [ZM];exact ia2 (PR r.1)
     rw [this]at p1;cases p1
    repeat keq_hits
    exact hK hno
   case mC =>
    intros hno
    refine BE ?_ ?_
    ·intros ke
     have kp:¬c.2.2=0:=fun r=>by rw [r]at ke;simp at ke
     repeat keq_hits
     refine Bc (xs:=Q4Q fun q=>Ya q.1) ?_ ?_ ?_
     ·kas_types
     ·rw [QK,XA];exact VO hns htv hvl
     repeat keq_hits
     refine hn2 _ ⟨⟨?_,?_,?_,?_⟩,?_,?_,?_,q.2,⟨?_,?_,?_⟩,ns++[(Q0l,c)],?_,fun q' hq'=>?_,?_,?_⟩
     all_goals first | keq_rows | (rw [Qt,Q3d];kas_types;done) | (((try have:=P0 f7 hx3);(try have:=P1 f7);kas_types);done) | ((try have:=PZ hns);kwd_less) | ((repeat kwd_rel);done) | skip
     ·rcases Y4 hq' with hq' | hq'
      ·obtain ⟨y1,y2⟩:=na q' hq'
       have hne:q'.1≠Q02:=fun e=>by rw [e,nl]at y2;cases y2
       exact ⟨by kwd_less,by kas_types⟩
      ·rw [Xj]at hq'
       subst hq'
       refine ⟨?_,?_⟩
       ·kwd_less
       ·show Q2j _ Q0l=Q43 [.Qm c.1,.Qm c.2.1,.Qm c.2.2]
        have:=Cj hx3;kas_types
     ·rw [Qt,<- QGe,Q6d,mrg,QN hno,QN kp,Q0W];rfl
    ·intros ke
     have kp:c.2.2=0:=by simpa using ke
     repeat keq_hits
     refine hn2 _ ⟨⟨?_,?_,?_,?_⟩,?_,?_,?_,q.2,⟨?_,?_,?_⟩,ns,?_,fun q' hq'=>?_,?_,by exact Hs hns⟩
     all_goals first | keq_rows | (((try have:=P0 f7 hx3);kas_types);done) | kwd_less | ((repeat kwd_rel);done) | skip
     ·obtain ⟨y1,y2⟩:=na q' hq'
      exact ⟨by kwd_less,by kas_types⟩
     ·rw [<- QGe,Q6d,mrg,QN hno,QY kp];rfl
  ·intros σ3 hI
   obtain ⟨⟨m1,m2,m3,m4⟩,g3,hx3,m5,c,⟨m6,m7,m8⟩,ns,nl,na,QGe,hns⟩:=hI
   have gn3:=Q9H
   have hvl:Q0U < 64:=by rw [QDc];exact Q2Y
   rw [QK]at QGe hns
   rw [Q7H (by rw [QK];exact Qh _)]at QGe
   with_reducible apply AB
   with_reducible apply Ar
   refine HS (fun σ5=>(Q3O "self"=QB (.QQ s)/\Q3O "la"=QB (.Qm XR)/\Q3O "lb"=QB (.Qm Xn)/\Q3O "non_adjacent"=QB (.QQ Q02))/\YU [YD+3] σ2 σ5/\Q02 < Q4T/\∃ns:QC (QH×Ap),Q9o Q02=.Qs (Q4Q fun q=>Ya q.1)/\(∀q∈ns,q.1 < Q4T/\Q9o q.1=.YM (AF q.2))/\Q4Q (·.2)=mrg (0,0,0) L0/\Q2L<=Q0U+1) ?_ ?_
   ·intros R5 hR5
    repeat keq_hits
    refine BE ?_ ?_
    ·intros ke
     have kp:¬c.2.2=0:=fun r=>by rw [r]at ke;simp at ke
     repeat keq_hits
     refine Bc (xs:=Q4Q fun q=>Ya q.1) ?_ ?_ ?_
     ·have:=Ag hx3;kas_types
     ·rw [QK,XA];exact VN hns hvl
     repeat keq_hits
     refine hR5 _ ⟨⟨?_,?_,?_,?_⟩,?_,?_,ns++[(Q0l,c)],?_,fun q' hq'=>?_,?_,?_⟩
     all_goals first | keq_rows | (rw [Qt,Q3d];kas_types;done) | ((try have:=PZ hns);kwd_less) | ((repeat kwd_rel);done) | skip
     ·rcases Y4 hq' with hq' | hq'
      ·obtain ⟨y1,y2⟩:=na q' hq'
       have hne:q'.1≠Q02:=fun e=>by rw [e,nl]at y2;cases y2
       exact ⟨by kwd_less,by have:=Ag y1;kas_types⟩
      ·rw [Xj]at hq'
       subst hq'
       refine ⟨?_,?_⟩
       ·kwd_less
       ·show Q2j _ Q0l=Q43 [.Qm c.1,.Qm c.2.1,.Qm c.2.2]
        have:=Cj hx3;kas_types
     ·rw [Qt,<- QGe,mrg,QN kp];rfl
    ·intros ke
     have kp:c.2.2=0:=by simpa using ke
     repeat keq_hits
     refine hR5 _ ⟨⟨m1,m2,m3,m4⟩,g3,hx3,ns,nl,na,?_,by exact Hs hns⟩
     rw [<- QGe,mrg,QY kp,Q3N]
   ·intros σ5 hK
    obtain ⟨⟨u1,u2,u3,u4⟩,g5,hx5,ns5,nl5,na5,hinv5,hns5⟩:=hK
    have gn5:=g5.nx
    repeat keq_hits
    refine Bc (xs:=ns5.map fun q=>Ya q.1) ?_ ?_ ?_
    ·have:=Ag hx5;kas_types
    ·rw [QK,XA];exact VM hvl hns5
    repeat keq_hits
    refine Pj ?_
    repeat keq_hits
    refine Un (xs:=(ns5.map fun q=>Ya q.1)++[.QQ Q4T]) ?_ ?_
    ·kas_types
    repeat keq_hits
    have k1:∀l,l < YD->l≠YD+3->Q9o l=Q2A l:=fun l q1 q2=>(QAa l (by exact P2 f7 q1) (by simpa using q2)).QR (f6.hp l q1 (by simp))
    refine Je (qs:=ns5++[(Q4T,(XR,Xn,0))]) (tl:=Q4T+3) (il:=Q4T+2) (l:=Q02) (f:=Q4T+1) ?_ ?_ ?_ ?_ ?_ ?_ ?_ ?_ ?_ ?_ ?_ ?_ ?_
    ·kas_types
    ·kas_types
    ·kas_types
    ·rw [Qt,Q3d];kas_types
    ·kas_types
    ·kwd_less
    ·kwd_less
    ·kwd_less
    ·kwd_less
    ·kwd_less
    ·rw [Xz,Q08];exact VL hvl hns5
    ·intros q hq
     rcases Y4 hq with hq | hq
     ·obtain ⟨y1,y2⟩:=na5 q hq
      have hne:q.1≠Q02:=fun e=>by rw [e,nl5]at y2;cases y2
      exact ⟨by kwd_less,by have:=Ag y1;kas_types⟩
     ·rw [Xj]at hq
      subst hq
      refine ⟨?_,?_⟩
      ·kwd_less
      ·show Q2j _ Q4T=Q43 [.Qm XR,.Qm Xn,.Qm 0]
       have:=Cj hx5;kas_types
    intros σ6 rs g6 hra hrs
    have gn6:Q4T+5<=σ6.nx:=g6.nx
    have k2:∀l,l < Q4T->l≠Q02->σ6.hp l=Q9o l:=fun l q1 q2=>(QD8 l (by dsimp only [Ab,Ac];exact VJ q1) (by simp;exact H4 q1)).QR (by have:=Ag q1;kas_types)
    have v1:σ6.loc "self"=QB (.QQ s):=by rw [g6.loc];keq_rows
    have v2:σ6.hp s=.Q5L 259 ds:=(k2 s (by exact PY l1 f7 hx5) (by exact PX l1 f7)).QR ((k1 s l1 (by exact LU l1)).QR c1)
    have v3:σ6.hp ds=_:=(k2 ds (by exact PY l2 f7 hx5) (by exact PX l2 f7)).QR ((k1 ds l2 (by exact LU l2)).QR c2)
    have hsd:=sm.sds
    have:=PW l1 f7 hx5 gn6;have:=PW l2 f7 hx5 gn6;repeat keq_hits
    refine h _ σ6.nx rs ⟨?_,QA,?_⟩ ?_ ?_ ?_ ?_ ?_
    ·dsimp only;rw [<- hn];have:=PV f7 hx5 gn6;kwd_less
    ·intros l hl hx
     have hx':l≠ds:=by simpa using hx
     rw [<- hn]at hl
     rw [<- hh,<- k1 l hl (by exact LU hl),<- k2 l (by exact VI f7 hx5 hl) (by exact VH f7 hl)]
     dsimp only
     have:=VG f7 hx5 gn6 hl;kas_types
    ·rw [<- hn];exact PV f7 hx5 gn6
    ·dsimp only;kwd_less
    ·dsimp only;have:=VF l2 f7 hx5 gn6;kas_types
    ·intros q hq
     obtain ⟨y1,y2⟩:=hra q hq
     have hne:q.1≠ds:=fun e=>by rw [e,v3]at y2;cases y2
     dsimp only
     exact ⟨by kwd_less,by have:=Ag y1;kas_types⟩
    ·refine ⟨L0,hB0,?_⟩
     rw [hrs,Qt,hinv5];rfl
end
end
section
variable {P:Params} {d:Nat} {σ:Mini.St}
mutual
theorem Jh {x:X8} {Q:QU->QE->Prop} (hx:Q1W < 1000000) (h:∀XH,Gro σ XH->Q (.Ys (rxJ Q94)) XH):Ae (G P) (d+2) (.imm (.QQ 277)) [.Xt x] σ Q:=by
 injections P d σ x Q _ _
 refine BQ (AE (E1 P) QA ?_ ?_ 40 ?_)
 ·kernel_rfl
 ·kernel_rfl
 intros σ1 hh hn hl
 have h1:Za "line"=QB (.Xt x):=hl _ _ (by kernel_rfl)
 have h2:Za "pat"=QB (.imm (.QQ 269)):=hl _ _ (by kernel_rfl)
 refine Ar ?_
 iterate 11 keq_hits
 refine ⟨.inr ⟨_,_,_,QA⟩,Pw ⟨QA,TK P,hx,?_,?_⟩⟩
 ·intros hj
  repeat keq_hits
  have:=h {(σ1.alloc .any) with loc:=Xy} (.of hh hn (by repeat kwd_rel))
  rw [hj]at this
  exact this
 ·intros hj
  repeat keq_hits
  have:=h {σ1 with loc:=Xy} (.of hh hn .Q1J)
  rw [hj]at this
  exact this
theorem T5:JF P (d+2) (.imm (.QQ 277)) (fun k=>match k with | .s x=>rxJ Q94 | _=>QJ) (fun k=>match k with | .s x=>Q1W < 1000000 | _=>Yn) [] σ where
 lt:=fun l hl=>(by cases hl)
 hand:=by kernel_rfl
 truth:=fun XH _ R h=>.inl (Cs.mk QA ⟨by kernel_rfl,h⟩)
 Q4c:=fun XH _=>.inl (by kernel_rfl)
 Q0Q:=fun XH _ k hk Q h=>by
  cases k with
  | i n=>exact hk.elim
  | s x=>exact Jh hk h
end
end
mutual
theorem HI:∀(L:QC Ap) (c:Ap),(mrg c L).ZT<=Q6l+1
 | [],c=>by unfold mrg;split <;> simp
 | t::r,c=>by
  unfold mrg
  split
  ·have:=HI r (c.1,c.2.1,c.2.2+t.2.2);rw [Xg];exact Sg this
  ·have:=HI r t
   rw [Xz,Xg]
   split
   ·simp;exact Sg this
   ·simp;exact acq this
theorem KZ {M:QH->QH->Qu} {U:QH->Qu} {la lb:QH} {R:QC Ap} (h:Gmb M U la lb R):R.length<=la+2:=by
 obtain (⟨L,hB,QA⟩):=h
 have Q9j:=QBK (XQ _) (XQ _)
 have h2:=CJ (L:=L) (a:=0) (n:=la) (fun t ht=>by have:=Q9j.1 t ht;dsimp only at this;exact ⟨zq8,DK this.2.1,Lf this.2.2.2.2⟩) (Q9j.2.imp fun r=>r.1)
 have h3:=HI L (0,0,0)
 rw [Xz,Q08];exact acp h2 h3
end
section
variable {P:Params} {d:Nat} {σ:Mini.St}
mutual
theorem pap {l:QH} {xs:QC QU} {v:QU} {R:QU->QE->Prop} (h:QS l=.Qs xs) (hl:Qn<=Xb) (p:R .QG (Yy l (.Qs (xs++[v])))):Bx [.QQ l,v] σ R:=by
 refine ⟨QA,?_⟩;refine Q46 h ?_;exact ⟨hl,p⟩
theorem NY {l:QH} {xs:QC QU} {R:QU->QE->Prop} (h:QS l=.sub 152 xs) (hl:Qn<=Xb) (h0:0 < Qn) (p:R (.QQ QO) (Qw (.YM xs))):Ae (G P) d (.imm (.Qk "tuple")) [.QQ l] σ R:=by
 refine D6 (by decide) ?_
 unfold AD;dsimp only
 rw [QN (by decide),QY QA]
 refine ⟨QA,?_⟩;refine Cq.mk h ?_
 exact ⟨CS P,EK P,hl,h0,p⟩
theorem EO {la lb:QH} {fv:QU} {A B:QC Yh} {J:Yh->Qu} {ok:Yh->Prop} {S:QC QH} {Q:QU->QE->Prop} (ha:QS la=.Qs (Q9F Q12)) (hb:QS lb=.Qs (Q9G Q12))
  (lla:la < QO) (llb:lb < QO) (hA:XR<=4000) (hA':∀L,Blk (MM A B) (UU B J) ⟨0,XR,0,Xn⟩ L->Q6l < 64) (hB:Xn<=4000) (hJ:JF P d fv J ok S σ) (hok:∀k∈B,ok k) (hlk:∀x∈A,∀y∈B,KS x y=QM)
  (h:∀XH l (qs:QC (QH×Ap)),Gro σ XH->QO<=l->l < Xh->X5 l=.Qs (YL fun q=>.QQ q.1)->(∀q∈qs,q.1 < Xh/\X5 q.1=.YM (AF q.2))->Gmb (MM A B) (UU B J) XR Xn (YL (·.2))->Q (.QQ l) XH) :
  Ae (G P) (d+5) (.imm (.QQ 289)) [fv,.QQ la,.QQ lb] σ Q:=by
 injections P d σ la lb fv A B J ok S Q _ _ _ _ _ _ _ _ _ _ _
 refine BQ (AE (Gu P) QA ?_ ?_ 40 ?_)
 ·kernel_rfl
 ·kernel_rfl
 intros σ1 hh hn hl
 have h1:Za "isjunk"=QB fv:=hl _ _ (by kernel_rfl)
 have h2:Za "first"=QB (.QQ la):=hl _ _ (by kernel_rfl)
 have h3:Za "second"=QB (.QQ lb):=hl _ _ (by kernel_rfl)
 refine Ar ?_
 repeat keq_hits
 refine NQ [] ⟨?_,?_,?_⟩
 ·kernel_rfl
 ·kernel_rfl
 repeat keq_hits
 refine Px (A:=A) (B:=B) (J:=J) (ok:=ok) (S:=S) (by rw [hh];exact ha) (by rw [hh];exact hb) (by exact GN lla hn) (by exact GN llb hn) hB (QFM (by exact Ko hn) fun l _=>by rw [hh]) hok hJ.hand ?_;intros σ2 s ds bj js bp Y5 xs g2 q1 q2 sm
 have s1:=QHk
 have s2:=QGc
 have gn2:=Q8V
 repeat keq_hits
 refine N3 (d:=d+1) sm hA hA' hB hlk ?_;intros σ3 l qs g3 r1 r2 r3 r4 r5
 refine ⟨_,_,QEt r3,?_⟩
 refine Ax (fun t σ4=>YU [] σ3 σ4/\Q0l < QD9/\∃ns:QC (QH×Ap),QGy Q0l=.Qs (Q4Q fun q=>Ya q.1)/\(∀q∈ns,q.1 < QD9/\QGy q.1=.YM (AF q.2))/\Q4Q (·.2)=(YL (·.2)).take t/\Q2L=t) (fun _=>Yn) (fun _ _=>Yn) ?_ ?_ ?_ ?_ (fun _ q=>Q2i) (fun _ _ q=>Q2i)
 ·exact ⟨⟨Q0N _,fun l' hl' _=>QN (Xv hl')⟩,Xu _,[],QY QA,fun q hq=>(by cases hq),QA,QA⟩
 ·intros t σ4 Q2X
  obtain ⟨g,_⟩:=Q2X
  exact (Q1a l r2 (by simp)).QR r3
 ·intros t x σ4 hx hI R hn2 u1 u2 u3
  obtain ⟨g,hx4,ns,n1,n2,n3,n4⟩:=hI
  have gn:=Q7f
  have zO:∃q,qs[t]?=QB q/\x=.QQ q.1:=by
   rw [QT]at hx
   cases e:qs[t]? with
   | QG=>rw [e]at hx;cases hx
   | QB q=>rw [e]at hx;exact ⟨q,QA,(X2 hx).Q37⟩
  obtain ⟨q,hq,QA⟩:=zO
  obtain ⟨y1,y2⟩:=r4 q (XG hq)
  have y3:QGy q.1=.sub 152 (AF q.2):=(Q1a q.1 y1 (by simp)).QR y2
  have htq:t < Q4R:=(QX hq).1
  try dsimp only
  repeat keq_hits
  refine ⟨fun q=>(by cases q),?_⟩;intros u4
  repeat keq_hits
  refine NY (xs:=AF q.2) ?_ (by unfold AF;simp [XA]) (by unfold AF;simp) ?_
  ·kas_types
  refine pap (xs:=Q4Q fun q=>Ya q.1) ?_ ?_ ?_
  ·kas_types
  ·have:Q4R<=4002:=by have:=KZ r5;rw [QK]at this;exact acn hA this
   rw [QK,XA];exact acm n4 htq this
  refine hn2 _ ⟨?_,?_,ns++[(QD9,q.2)],?_,?_,?_,?_⟩
  ·repeat kwd_rel
  ·kwd_less
  ·rw [Qt,Q3d];kas_types
  ·intros q' hq'
   rcases Y4 hq' with hq' | hq'
   ·obtain ⟨z1,z2⟩:=n2 q' hq'
    have hne:q'.1≠Q0l:=fun e=>by rw [e,n1]at z2;cases z2
    exact ⟨by kwd_less,by kas_types⟩
   ·rw [Xj]at hq'
    subst hq'
    refine ⟨?_,?_⟩
    ·kwd_less
    ·show Q2j _ QD9=Q43 (AF q.2)
     have:=Cj hx4;kas_types
  ·rw [Qt,n3,Q00,QT,hq];rfl
  ·rw [Xz,Q08,n4]
 ·intros σ4 hI
  obtain ⟨g,hx4,ns,n1,n2,n3,n4⟩:=hI
  rw [QK,<- QK (f:=(·.2)),Q0u]at n3
  repeat keq_hits
  have gn:=Q7f
  refine h _ Q0l ns ⟨?_,QA,?_⟩ ?_ ?_ ?_ ?_ ?_
  ·show QO<=QD9;have:=Q9H;exact acl hn gn2 r1 r2 hx4
  ·intros l' hl'
   have e1:l'≠ds:=by exact ack hn q2 hl'
   have:=Q9H
   show QGy l'=QS l'
   rw [Q1a l' (by exact acj hn gn2 r1 r2 hl') (by simp),Q42 l' (by exact aci hn gn2 hl') (by simpa using e1),Q3h l' (by exact Tl hn hl'),hh]
  ·have:=Q9H;exact ach hn gn2 r1 r2
  ·exact hx4
  ·exact n1
  ·intros q hq
   exact n2 q hq
  ·rw [n3];exact r5
end
end
section
local macro_rules | `(tactic| kd_all)=>D1 false "!m aiE aiD:a aiF:99"
local macro_rules | `(tactic| keq_hits)=>D1 false "!m ai4 agH af9:> Ut:>> agK:99! ai3:a agJ:22%"
section
variable {P:Params} {d:Nat} {σ:Mini.St}
mutual
def BW (w v n m k:QH):X8:=⟨(DS w v n m k).Xe⟩
theorem AV (a:X4) {b:X4} (hb:0 < b):0<=a.fmod b/\a.fmod b < b:=⟨Int.fmod_nonneg_of_pos a hb,Int.fmod_lt_of_pos a hb⟩
theorem GV:∀c∈Hz,c<=1114111:=by decide +XD
theorem Nl:∀c∈Nm,c<=1114111:=by decide +XD
theorem af7 {l:QH} {R:QU->QE->Prop} (e:QS l=.Q7K 8192 8203 1) (h:R (.QQ QO) (Qw (.Qs [.Qm 8192,.Qm 8193,.Qm 8194,.Qm 8195,.Qm 8196,.Qm 8197,.Qm 8198,.Qm 8199,.Qm 8200,.Qm 8201,.Qm 8202]))):Ae (G P) d (.imm (.Qk "list")) [.QQ l] σ R :=
 HV e (by decide +XD) (by decide +XD) (by decide +XD) h
theorem F4 {d0:X4} {Q:QU->QE->Prop} (h:∀XH l w v n m,Gro σ XH->QO<=l->l < Xh->Qr w=QM->Qr v=QM->Qr n=QJ->n≠35->m < 3 ->
   X5 l=.Qs ((X6 7).map fun k=>QAb (BW w v n m k))->Q (.QQ l) XH) :
  Ae (G P) (d+1) (.imm (.QQ 284)) [.Qm d0] σ Q:=by
 injections P d σ d0 Q _
 refine BQ (AE (HR P) QA ?_ ?_ 40 ?_)
 ·kernel_rfl
 ·kernel_rfl
 intros σ1 hh hn hl
 have h1:Za "d"=QB (.Qm d0):=hl _ _ (by kernel_rfl)
 refine Ar ?_
 repeat keq_hits
 refine af7 ?_ ?_
 ·kas_types
 repeat keq_hits
 refine JE (xs:=?_) (cs:=Hz) ?_ ?_ (AV _ (by decide)).1 (AV _ (by decide)).2 (by decide) fun w hw=>?_
 rotate_left
 ·kas_types
 ·kernel_rfl
 repeat keq_hits
 refine J4 (GV w hw) ?_
 repeat keq_hits
 refine JE (xs:=?_) (cs:=Hz) ?_ ?_ (AV _ (by decide)).1 (AV _ (by decide)).2 (by decide) fun v hv=>?_
 rotate_left
 ·kas_types
 ·kernel_rfl
 repeat keq_hits
 refine J4 (GV v hv) ?_
 repeat keq_hits
 refine JE (xs:=?_) (cs:=Nm) ?_ ?_ (AV _ (by decide)).1 (AV _ (by decide)).2 (by decide) fun n hn'=>?_
 rotate_left
 ·kas_types
 ·kernel_rfl
 repeat keq_hits
 refine J4 (Nl n hn') ?_
 repeat keq_hits
 have zO:∃m:QH,m < 3/\(QFO 16820).fmod 3=m:=by
  have:=FW (b:=3) (AV (QFO 16820) (by decide))
  exact ⟨_,this.2,this.1⟩
 obtain ⟨m,hm,e⟩:=zO
 rw [e]
 have hm2:m % 2 < 3:=Q2T (QCV _ (by decide))
 repeat keq_hits
 refine h _ _ w v n m (.of hh hn ?_) ?_ ?_ (GU w hw) (GU v hv) (IQ n hn').1 (IQ n hn').2 hm ?_
 ·repeat kwd_rel
 ·rw [<- hn];kwd_less
 ·dsimp only;kwd_less
 ·dsimp only
  refine D3 QA ?_
  rw [Q0W (Q10 m w) [35]]
  kernel_rfl
end
end
end
section
local macro_rules | `(tactic| kln_le)=>D1 false "!m ajv aju:%8"
local macro_rules | `(tactic| keq_hits)=>D1 false "!m ahA:;0 aiW:820 Kd:820 agE ajD ajE UL agn ae1 aeZ ajj ajk agm ai4 af9:> Ut:>>"
section
variable {P:Params} {d:Nat} {σ:Mini.St}
mutual
def Aa (a:QC QH):QC QU:=a.map fun k:QH=>Q13 k
theorem HX {lb lf ls:QH} {qs:QC (QH×Ap)} {a b:QC QH} {Q:QU->QE->Prop} (hb:QS lb=.Qs (YL fun q=>.QQ q.1)) (hq:∀q∈qs,q.1 < QO/\QS q.1=.YM (AF q.2))
  (hf:QS lf=.Qs (Aa a)) (hs:QS ls=.Qs (Aa b)) (llb:lb < QO) (llf:lf < QO) (lls:ls < QO) (ha:ZI<=4000) (hb4:Q3z<=4000)
  (hin:∀q∈qs,q.2.1<=ZI/\q.2.2.1<=Q3z) (hg:Jm (Mq a b) (Uq b fun k=>XY (2 < k)) 0 0 (YL (·.2))) (h:∀XH,Gro σ XH->Q (.Ys QM) XH) :
  Ae (G P) (d+1) (.imm (.QQ 294)) [.QQ lb,.QQ lf,.QQ ls] σ Q:=by
 injections P d σ lb lf ls qs a b Q _ _ _ _ _ _ _ _ _ _ _ _
 refine N4 (FG (CI P) QA ["m","j","second"] ?_ (by decide) ?_ 40 [("m",QO),("j",QO+1),("second",QO+2)] QA ?_)
 ·kernel_rfl
 ·kernel_rfl
 intros σ1 hn hh hl hc
 have h1:Za "blocks"=QB (.QQ lb):=by rw [hl];kernel_rfl
 have h2:Za "first"=QB (.QQ lf):=by rw [hl];kernel_rfl
 have c1:Q2A (QO+2)=.YV (QB (.QQ ls)):=(hc 2 "second" QA).QR (by kernel_rfl)
 have c2:Q2A (QO+1)=.YV QG:=(hc 1 "j" QA).QR (by kernel_rfl)
 have c3:Q2A QO=.YV QG:=(hc 0 "m" QA).QR (by kernel_rfl)
 have hn:YD=QO+3:=hn
 have b1:Q2A lb=.Qs (YL fun q=>.QQ q.1):=(hh lb llb).QR hb
 have b2:Q2A lf=.Qs (Aa a):=(hh lf llf).QR hf
 have b3:Q2A ls=.Qs (Aa b):=(hh ls lls).QR hs
 refine Ar ?_
 have:=acg hn;have:=Fe llb;have:=acf llb hn;repeat keq_hits
 refine Ax (fun t σ2=>∃x y:QH,Jm (Mq a b) (Uq b fun k=>XY (2 < k)) x y ((YL (·.2)).Q9a t)/\YU [QO,QO+1] σ1 σ2/\Z3 (QO+1)=.YV (QB (.Qm y))/\(∃u,Z3 QO=.YV u)/\Q41 "first"=QB (.QQ lf)/\Q41 "i"=QB (.Qm x)) (fun _=>Yn) (fun _ _=>Yn) ?_ ?_ ?_ ?_ (fun _ q=>Q2i) (fun _ _ q=>Q2i)
 ·refine ⟨0,0,hg,?_,?_,?_,?_,?_⟩
  ·repeat kwd_rel
  ·with_reducible apply Cu
   ·kwd_less
   ·kc_close
  ·exact ⟨_,by have:=ace hn;kas_types⟩
  ·keq_rows
  ·with_reducible apply T0
   with_reducible apply DZ
   kc_close
 ·intros t σ2 Q2X
  obtain ⟨x,y,_,g,_⟩:=Q2X
  exact (Q1a lb (by exact Ez llb hn) (by simp;exact ⟨Ag llb,Fe llb⟩)).QR b1
 ·intros t x σ2 hx hI R hn2 u1 u2 u3
  obtain ⟨i,j,hG,g,k1,⟨u,k2⟩,k3,k4⟩:=hI
  have zO:∃q,qs[t]?=QB q/\x=.QQ q.1:=by
   rw [QT]at hx
   cases e:qs[t]? with
   | QG=>rw [e]at hx;cases hx
   | QB q=>rw [e]at hx;exact ⟨q,QA,(X2 hx).Q37⟩
  obtain ⟨q,hqt,QA⟩:=zO
  have htq:t < Q4R:=(QX hqt).1
  have Q6d:(YL (·.2)).Q9a t=q.2::(YL (·.2)).Q9a (t+1):=by
   rw [YP (by rw [QK];exact htq),QBN]
   rw [(QX hqt).2]
  rw [Q6d]at hG
  obtain ⟨hG1,hG2⟩:=hG
  obtain ⟨y1,y2⟩:=hq q (XG hqt)
  obtain ⟨z1,z2⟩:=hin q (XG hqt)
  have gn:=Q7f
  have y3:Z3 q.1=.YM [.Qm q.2.1,.Qm q.2.2.1,.Qm q.2.2.2]:=(Q1a q.1 (by exact Sf hn y1) (by simp;exact ⟨Ag y1,Fe y1⟩)).QR ((hh q.1 y1).QR y2)
  have b2':Z3 lf=.Qs (Aa a):=(Q1a lf (by exact Ez llf hn) (by simp;exact ⟨Ag llf,Fe llf⟩)).QR b2
  have b3':Z3 ls=.Qs (Aa b):=(Q1a ls (by exact Ez lls hn) (by simp;exact ⟨Ag lls,Fe lls⟩)).QR b3
  have c1':Z3 (QO+2)=.YV (QB (.QQ ls)):=(Q1a _ (by exact Se hn) (by simp)).QR c1
  try dsimp only
  repeat keq_hits
  have hz:∀σ5,YU [QO,QO+1] σ1 σ5->Q9o (QO+1)=.YV (QB (.Qm (((q.2.2.1+q.2.2.2:QH)):X4)))->(∃u,Q9o QO=.YV u)->Q3O "first"=QB (.QQ lf)->Q3O "i"=QB (.Qm (((q.2.1+q.2.2.2:QH)):X4))->R .YE σ5 :=
   fun σ5 r1 r2 r3 r4 r5=>hn2 σ5 ⟨_,_,hG2,r1,r2,r3,r4,r5⟩
  have xk:(q.2.1:X4)+(q.2.2.2:X4)=((q.2.1+q.2.2.2:QH):X4):=by exact ia2 (CR)
  have yk:(q.2.2.1:X4)+(q.2.2.2:X4)=((q.2.2.1+q.2.2.2:QH):X4):=by exact ia2 (CR)
  refine Aw ?_ ?_
  ·intros p1
   have p1':i < q.2.1:=by have:=YG p1;exact (Ym this)
   repeat keq_hits
   refine Aw ?_ ?_
   ·intros p2
    have p2':j < q.2.2.1:=by have:=YG p2;exact (Ym this)
    obtain ⟨⟨hm0,hgap⟩,QDY⟩:=(hG1 ⟨p1',p2'⟩)
    have la:i < ZI:=by exact Be z1 p1'
    have lb':j < Q3z:=by exact Be z2 p2'
    have ne0:((a[i]:X4) == (b[j]:X4))=QJ:=by
     unfold Mq at hm0
     rw [Qg la,Qg lb']at hm0
     exact Yo (afU (ZN hm0))
    repeat keq_hits
    refine Ao (xs:=Aa a) (k:=i) (v:=.Qm (a[i]:QH)) (by have:=Ag llf;kas_types) QA (by unfold Aa;rw [QT,Qg la];rfl) (by exact Sd ha la) ?_
    repeat keq_hits
    refine Ao (xs:=Aa b) (k:=j) (v:=.Qm (b[j]:QH)) (by have:=Ag lls;kas_types) QA (by unfold Aa;rw [QT,Qg lb'];rfl) (by exact Sd hb4 lb') ?_
    with_reducible apply Tj
    rw [ne0]
    repeat keq_hits
    refine (fun hK:Q44->(?PKq:Prop)=>Aw (fun p3=>?caseA) (fun p3=>?caseB)) ?caseK
    case' caseA =>
     have p3':0 < q.2.2.2:=by have:=YG p3;exact (Ym this)
     have QDY:=QDY p3'
     have la1:q.2.1 - 1 < ZI:=by exact Sc z1 p1'
     have lb1:q.2.2.1 - 1 < Q3z:=by exact Sc z2 p2'
     have ne1:((a[q.2.1 - 1]:X4) == (b[q.2.2.1 - 1]:X4))=QJ:=by
      unfold Mq at QDY
      rw [Qg la1,Qg lb1]at QDY
      exact Yo (afU (ZN QDY))
     repeat keq_hits
     refine Ao (xs:=Aa a) (k:=q.2.1 - 1) (v:=.Qm (a[q.2.1 - 1]:QH)) (by have:=Ag llf;kas_types) (by exact ia1 (H3 p1')) (by unfold Aa;rw [QT,Qg la1];rfl) (by exact Sb ha la1) ?_
     repeat keq_hits
     refine Ao (xs:=Aa b) (k:=q.2.2.1 - 1) (v:=.Qm (b[q.2.2.1 - 1]:QH)) (by have:=Ag lls;kas_types) (by exact ia1 (H3 p2')) (by unfold Aa;rw [QT,Qg lb1];rfl) (by exact Sb hb4 lb1) ?_
     with_reducible apply Tj
     rw [ne1]
     repeat keq_hits
     exact hK ⟨⟩
    case' caseB=>(repeat keq_hits);exact hK ⟨⟩
    case caseK =>
     intros u4
     refine Dm [("second",QO+2),("m",QO),("j",QO+1)] (by kernel_rfl) (by kernel_rfl) ?_
     repeat keq_hits
     refine E6 (xs:=Aa a) (p:=QB (i:X4)) (q:=QB (q.2.1:X4)) (r:=QG) (by have:=Ag llf;kas_types) QA QA QA (by simp) (by unfold Aa;rw [QK,XA];exact GK ha) ?_
     rw [IE (Aa a) (X7 p1') (by unfold Aa;rw [QK];omega)]
     refine Dn (fun _ vs _ _=>vs=[]) (Xu _) (QY QA) QA ?_ ?_
     ·intros n x XH vs hx' g' h1' h2' h3' R' hR'
      subst h3'
      have zO:n < q.2.1 - i/\x=.Qm ((a[i+n]?).Q4m 0:QH):=by
       rw [Zc]at hx'
       split at hx'
       ·rename_i hlt
        refine ⟨hlt,?_⟩
        unfold Aa at hx'
        rw [Q3Z,QT]at hx'
        cases e:a[i+n]? with
        | QG=>rw [e]at hx';cases hx'
        | QB z=>rw [e]at hx';exact (X2 hx').Q37
       ·cases hx'
      obtain ⟨hn1,hn2⟩:=zO
      have lan:i+n < ZI:=by exact acb z1 p1' hn1
      rw [Qg lan]at hn2
      subst hn2
      have gn':=Q52
      simp only [Ah,Ab,Ac]at h1' h2' gn'
      have d1:X5 (QO+2)=.YV (QB (.QQ ls)):=(Q0S _ (by have:=Sa hn gn;kwd_less) (by simp)).QR (by have:=Sa hn gn;kas_types)
      have d2:X5 QO=.YV (QB (.Qm q.2.2.1)):=(Q0S _ (by have:=GJ hn gn;kwd_less) (by simp)).QR (by have:=GJ hn gn;kas_types)
      have d3:X5 (QO+1)=.YV (QB (.Qm j)):=(Q0S _ (by have:=GI hn gn;kwd_less) (by simp)).QR (by have:=GI hn gn;kas_types)
      have d4:X5 ls=.Qs (Aa b):=(Q0S _ (by have:=R9 lls hn gn;kwd_less) (by simp)).QR (by have:=R9 lls hn gn;have:=Ag lls;kas_types)
      dsimp only [Q4U]
      repeat keq_hits
      refine Aw ?_ ?_
      ·intros p4
       have p4':a[i+n] < 3:=by have:=YG p4;exact (Ym this)
       repeat keq_hits
       refine E6 (xs:=Aa b) (p:=QB (j:X4)) (q:=QB (q.2.2.1:X4)) (r:=QG) (by kas_types) QA QA QA (by simp) (by unfold Aa;rw [QK,XA];exact GK hb4) ?_
       rw [IE (Aa b) (X7 p2') (by unfold Aa;rw [QK];omega)]
       refine LM (xs:=(b.drop j).take (q.2.2.1 - j)) ?_ ?_
       ·refine (QY QA).QR ?_
        unfold Aa;rw [List.map_take,QDd]
       have hno:XY (a[i+n]∈(b.drop j).take (q.2.2.1 - j))=QJ:=by
        refine Yl ?_;intros hm
        obtain ⟨v,hv,ev⟩:=Zg hm
        rw [Xo,Q1j]at hv
        rw [Q5p,Q5o]at ev
        have hv1:=QP hv (Q7L ..)
        have hv2:=QP hv (Q0E ..)
        have lv:j+v < Q3z:=Q4A hv2
        refine hgap (i+n) (j+v) (by exact Gc) (by exact aca p1' hn1) (by exact Gc) (Q4A hv1) ⟨?_,?_⟩
        ·unfold Mq
         rw [Qg lan,Qg lv]
         exact Yz ev.symm
        ·unfold Uq
         rw [Qg lv]
         exact Yl (by rw [ev];exact ab9 p4')
       rw [hno]
       repeat keq_hits
       refine hR' _ [] ?_ ?_ ?_ QA
       ·repeat kwd_rel
       ·kwd_less
       ·simp only [Ah,Ab,Ac]
        kas_types
      ·intros p4
       repeat keq_hits
       refine hR' _ [] ?_ ?_ ?_ QA
       ·repeat kwd_rel
       ·kwd_less
       ·simp only [Ah,Ab,Ac]
        kas_types
     ·intros XH vs e1 g' h1' h2' h3'
      subst h3'
      have gn':=Q52
      simp only [Ah,Ab,Ac]at h1' h2' gn'
      have d2:X5 QO=.YV (QB (.Qm q.2.2.1)):=(Q0S _ (by have:=GJ hn gn;kwd_less) (by simp)).QR (by have:=GJ hn gn;kas_types)
      have d3:X5 (QO+1)=.YV (QB (.Qm j)):=(Q0S _ (by have:=GI hn gn;kwd_less) (by simp)).QR (by have:=GI hn gn;kas_types)
      have w1:YA "k"=QB (.Qm q.2.1):=by rw [e1];keq_rows
      have w2:YA "size"=QB (.Qm q.2.2.2):=by rw [e1];keq_rows
      have w3:YA "first"=QB (.QQ lf):=by rw [e1];keq_rows
      have g2:YU [QO,QO+1] σ1 XH:=by
       refine Q2h ?_ (QFP (by simp))
       repeat kwd_rel
      repeat keq_hits
      refine N7 ?_ ?_ ?_
      ·simp only [Ah,Ab,Ac]
       have:=ab8 h1';kas_types
      ·kas_types
      have:=R8 hn gn h1';have:=ab7 hn gn h1';have:=ab6 hn gn h1';repeat keq_hits
      rw [xk,yk]
      refine hz _ ?_ ?_ ?_ ?_ ?_
      ·repeat kwd_rel
      ·kas_types
      ·exact ⟨_,by have:=ab5 hn gn h1';have:=R8 hn gn h1';kas_types⟩
      ·keq_rows
      ·keq_rows
   ·intros p2
    have p2':¬j < q.2.2.1:=by have:=ZN p2;exact (fun e=>this (YS e))
    have:=GI hn gn;repeat keq_hits
    rw [xk,yk]
    refine hz _ ?_ ?_ ?_ ?_ ?_
    ·repeat kwd_rel
    ·kas_types
    ·exact ⟨_,by have:=GJ hn gn;kas_types⟩
    ·keq_rows
    ·keq_rows
  ·intros p1
   have p1':¬i < q.2.1:=by have:=ZN p1;exact (fun e=>this (YS e))
   have:=GI hn gn;repeat keq_hits
   rw [xk,yk]
   refine hz _ ?_ ?_ ?_ ?_ ?_
   ·repeat kwd_rel
   ·kas_types
   ·exact ⟨_,by have:=GJ hn gn;kas_types⟩
   ·keq_rows
   ·keq_rows
 ·intros σ2 hI
  obtain ⟨i,j,hG,g,k1,⟨u,k2⟩,k3,k4⟩:=hI
  repeat keq_hits
  refine h _ ⟨?_,QA,?_⟩
  ·have:=Q7f;show QO<=Q02;exact ab4 hn this
  ·intros l hl
   show Z3 l=QS l
   rw [Q1a l (by exact Sf hn hl) (by simp;exact ⟨Ag hl,Fe hl⟩),hh l hl]
end
end
noncomputable def lst (i:Nat):Stmt:=(fnB (st 13)).getD i default
noncomputable def af2 (s:Stmt):List Stmt:=Mini.xSF s (fun b=>b) []
noncomputable def bb1 (i:Nat):Stmt:=(af2 (lst 4)).getD i default
noncomputable def bb2 (i:Nat):Stmt:=(af2 (bb1 2)).getD i default
section
variable {P:Params} {d:Nat} {σ:Mini.St}
mutual
theorem ND {l lc:QH} {as':Q5C} {Qv:Q0M} {Q9e:X8} {pm ctv:QI} {oc:ZG} {q0:X8} {p1 p2 p3:Pos} {u:QH}
  (h1:QS l=.lam (Dz as' (.Q8f (.Q0y "k" p1) [.Gt] [.Q4h (.Qm 2) u p2] p3) Qv Q9e pm ctv) lc) (h2:QS lc=.raw oc) (h3:C9 q0 oc) (hl:l < QO) (hlc:lc < QO)
  (hs:scope.isCoroutine=QJ/\scope.isGenerator=QJ/\Q9c=.Q3B) (hn:Fa Qv=QM) (ha:D9 Qv ["k"]=QM) (hk:Nr Qv "k"=QM)
  (hb:∀cdv as,as.length=(["k"]:QC X8).ZT->bindArgs (kla_fn "<lambda>" Q9e as' (.Q8f (.Q0y "k" p1) [.Gt] [.Q4h (.Qm 2) u p2] p3) Qv [] pm cdv ctv) ⟨as,[]⟩=ZX ((["k"]:QC X8).zip as)) :
  JF P (d+1) (.QQ l) (fun k=>match k with | .i n=>XY (2 < n) | _=>QJ) (fun k=>∃n,k=.i n) [l,lc] σ where
 lt:=fun x hx=>by
  rcases XT hx with QA | hx
  ·exact hl
  ·rw [Xj]at hx;subst hx;exact hlc
 hand:=QA
 truth:=fun XH e R h=>by
  refine YJ (Q01 ?_);refine Cr.mk ((e l (.Zf _)).QR h1) ?_
  exact ⟨fun a=>QA,h⟩
 Q4c:=fun XH e=>by
  refine YJ ?_;refine Cr.mk ((e l (.Zf _)).QR h1) ?_
  exact fun a=>⟨_,QA⟩
 Q0Q:=fun XH e k hk' Q h=>by
  obtain (⟨n,QA⟩):=hk'
  refine YJ (Q01 ?_);refine Cr.mk ((e l (.Zf _)).QR h1) ?_
  refine ⟨as',_,Qv,Q9e,pm,ctv,lc,oc,q0,["k"],20,by rw [e l (.Zf _),h1],by rw [e lc (.Q38 _ (.Zf _)),h2],h3,hs,hn,ha,QA,hb,fun cdv=>?_⟩
  have hx:(σ'.frame ((["k"]:QC X8).zip [Q12 (.i n)])).loc "k"=QB (.Qm n):=QA
  refine af5 QA (af3 hk hx (Ug (ai2 ?_)))
  exact h _ ⟨Qh _,QA,fun _ _=>QA⟩
def tmD (d0:X4) (k:QH):QH:=if k < 3 then 1 else 1+(((QFO 50460).fdiv (3 ^ (k - 3))).fmod 3).Q1Z
theorem Mv (d0:X4) (k:QH):1<=tmD d0 k:=by unfold tmD;split <;> (first | exact ab3 | exact ab2)
theorem HC (d0:X4) (k:QH):tmD d0 k<=3:=by
 unfold tmD;split
 ·exact U6
 ·exact Q4v (Q1H (FW (b:=3) (AV _ (by decide))).2) 1
theorem Mu (d0:X4) (k:QH) (h:k < 3):tmD d0 k=1:=QY h
theorem TN {c:QH} (h:c < 4):(3:X4) ^ ((c:X4).Q1Z)=(3:X4) ^ c/\(3:X4) ^ c≠0/\((3:X4) ^ c).natAbs < 1073741824:=by
 rcases lt4 h with QA | QA | QA | QA <;> decide
theorem MF {d0:X4} {u:QW QU} {R:Fl->QE->Prop} (h6:QS 6=.YV (QB (.Qm d0))) (h4:QS 4=.YV u) (hn:9<=QO)
  (k:∀XH l,YA=Xy->YU [4] σ XH->X5 4=.YV (QB (.QQ l))->QO<=l->l < Xh->X5 l=.Qs (Aa ((X6 7).map (tmD d0)))->R .YE XH):ex1 (G P) (Ae (G P) 20) 28 ⟨(fdO (AO P)).Qv,[("stops",2),("ends",3),("times",4),("dress",5),("d",6),("second",7),("first",8)],(fdO (AO P)).Q0s,QB (296,1)⟩ (bb2 1) σ R:=by
 injections P σ d0 u R _ _ _ _
 conv=>arg 5;whnf
 repeat keq_hits
 refine Dm [("d",6)] (by kernel_rfl) (by kernel_rfl) ?_
 repeat keq_hits
 refine F2 (n:=4) (fun i vs _ _=>vs=(X6 i).map fun c=>Q13 (1+((QFO 50460).fdiv (3 ^ c)).fmod 3)) (QY QA) (by decide) QA ?_ ?_
 ·intros i XH vs hi g' h1' h2' h3' R' hR'
  have gn':=Q52
  simp only [Ah,Ab,Ac]at h1' h2' gn'
  have d6:X5 6=.YV (QB (.Qm d0)):=(Q0S _ (by have:=R7 hn;kwd_less) (by simp)).QR (by have:=R7 hn;have:=ab1 hn;kas_types)
  dsimp only
  repeat keq_hits
  refine af8 (by exact YF (LP)) ?_ ?_
  ·rcases lt4 hi with QA | QA | QA | QA <;> decide
  rw [(TN hi).1]
  refine Ut (TN hi).2.1 (TN hi).2.2 ?_
  repeat keq_hits
  refine pap (xs:=vs) ?_ ?_ ?_
  ·simp only [Ah,Ab,Ac];kas_types
  ·rw [h3',QK,Y9,XA];exact ab0 hi
  refine hR' _ _ ?_ ?_ (QY QA) ?_
  ·repeat kwd_rel
  ·kwd_less
  ·rw [h3',Q3M,Qt];rfl
 ·intros XH vs e1 g' h1' h2' h3'
  have gn':=Q52
  simp only [Ah,Ab,Ac]at h1' h2' gn'
  have d4:X5 4=.YV u:=(Q0S _ (by have:=Ib hn;kwd_less) (by simp)).QR (by have:=Ib hn;have:=Kn hn;kas_types)
  have d0':X5 QO=.Qs [.Qm 1,.Qm 1,.Qm 1]:=(Q0S _ (by kwd_less) (by simp)).QR (by kas_types)
  refine J9 (xs:=[.Qm 1,.Qm 1,.Qm 1]) (ys:=vs) d0' h2' ?_ ?_
  ·rw [h3',QK,Y9,XA];simp
  have:=abZ hn h1';repeat keq_hits
  refine k _ Xh ?_ ?_ ?_ ?_ ?_ ?_
  ·rw [CC,DN,e1];rfl
  ·have:YU [4] σ XH:=by
    refine Q2h ?_ (QFP (by simp))
    repeat kwd_rel
   repeat kwd_rel
  ·kas_types
  ·exact abY h1'
  ·kwd_less
  ·refine Ct (by exact abX hn h1') (D3 QA ?_)
   rw [h3']
   congr 1
   have e2:∀z:X4,(1+z.fmod 3)=((1+(z.fmod 3).Q1Z:QH):X4):=by
    intros z
    exact Z8 (1+·) (FW (b:=3) (AV z (by decide))).1
   simp [Aa,X6,List.range.loop,tmD,e2]
end
end
section
variable {P:Params} {d:Nat} {σ:Mini.St}
mutual
theorem MN {d0:X4} {u:QW QU} {R:Fl->QE->Prop} (h6:QS 6=.YV (QB (.Qm d0))) (h5:QS 5=.YV u) (hn:9<=QO)
  (k:∀XH l w v n m,YA=Xy->YU [5] σ XH->X5 5=.YV (QB (.QQ l))->QO<=l->l < Xh->Qr w=QM->Qr v=QM->Qr n=QJ->n≠35->m < 3 ->
   X5 l=.Qs ((X6 7).map fun k=>QAb (BW w v n m k))->R .YE XH):ex1 (G P) (Ae (G P) 20) 29 ⟨(fdO (AO P)).Qv,[("stops",2),("ends",3),("times",4),("dress",5),("d",6),("second",7),("first",8)],(fdO (AO P)).Q0s,QB (296,1)⟩ (bb2 0) σ R:=by
 injections P σ d0 u R _ _ _ _
 conv=>arg 5;whnf
 repeat keq_hits
 refine F4 (d:=19) ?_;intros XH l w v n m g k1 k2 k3 k4 k5 k6 k7 k8
 have gn:=Q7f
 have d5:X5 5=.YV u:=(Q1a _ (by exact R6 hn)).QR h5
 repeat keq_hits
 refine k _ l w v n m ?_ ?_ ?_ k1 ?_ k3 k4 k5 k6 k7 ?_
 ·rw [CC,QAY]
 ·have:YU [5] σ XH:=⟨Q7f,fun l hl _=>Q1a l hl⟩
  repeat kwd_rel
 ·kas_types
 ·kwd_less
 ·exact Ct (by exact abW hn k1) k8
theorem OK {A:QC QH} {tm:QH->QH} {la lt:QH} {u:QW QU} {R:Fl->QE->Prop} (h8:QS 8=.YV (QB (.QQ la))) (hla:QS la=.Qs (Aa A)) (lla:la < QO) (h4:QS 4=.YV (QB (.QQ lt))) (hlt:QS lt=.Qs (Aa ((X6 7).map tm))) (llt:lt < QO) (h3:QS 3=.YV u) (hn:9<=QO)
  (hA:∀k∈A,k < 7) (hl:XR<=100) (ht:∀k,tm k<=3)
  (k:∀XH l,YA=Xy->YU [3] σ XH->X5 3=.YV (QB (.QQ l))->QO<=l->l < Xh->X5 l=.Qs (Aa ((X6 (XR+1)).map (eOf tm A)))->R .YE XH):ex1 (G P) (Ae (G P) 20) 27 ⟨(fdO (AO P)).Qv,[("stops",2),("ends",3),("times",4),("dress",5),("d",6),("second",7),("first",8)],(fdO (AO P)).Q0s,QB (296,1)⟩ (bb2 2) σ R:=by
 injections P σ A tm la lt u R _ _ _ _ _ _ _ _ _ _ _ _
 conv=>arg 5;whnf
 refine Dc QA [("times",4),("first",8)] (by kernel_rfl) (by kernel_rfl) ?_
 repeat keq_hits
 refine F3 (xs:=Aa A) (by kas_types) (by unfold Aa;rw [QK,XA];exact Km hl) ?_
 repeat keq_hits
 have e:((Aa A).ZT:X4)+1=((XR+1:QH):X4):=by unfold Aa;rw [QK];exact ia4 (Kg)
 rw [e]
 refine F2 (n:=XR+1) (fun i vs _ _=>vs=Aa ((X6 i).map (eOf tm A))) (QY QA) (by exact R4 hl) QA ?_ ?_
 ·intros i XH vs hi g' h1' h2' h3' R' hR'
  have gn':=Q52
  simp only [Ah,Ab,Ac]at h1' h2' gn'
  have d8:X5 8=.YV (QB (.QQ la)):=(Q0S _ (by have:=Ia hn;kwd_less) (by simp)).QR (by have:=R0 hn;kas_types)
  have d4:X5 4=.YV (QB (.QQ lt)):=(Q0S _ (by have:=Ib hn;kwd_less) (by simp)).QR (by have:=Kn hn;kas_types)
  have dla:X5 la=.Qs (Aa A):=(Q0S _ (by kwd_less) (by simp)).QR (by have:=Ag lla;kas_types)
  have dlt:X5 lt=.Qs (Aa ((X6 7).map tm)):=(Q0S _ (by kwd_less) (by simp)).QR (by have:=Ag llt;kas_types)
  dsimp only
  repeat keq_hits
  refine Dm [("times",4)] (by kernel_rfl) (by kernel_rfl) ?_
  repeat keq_hits
  refine E6 (xs:=Aa A) (p:=QG) (q:=QB (i:X4)) (r:=QG) (by kas_types) QA QA QA (by simp) (by unfold Aa;rw [QK,XA];exact Km hl) ?_
  rw [Ha (Aa A) (by unfold Aa;rw [QK];exact Ic hi)]
  refine Dn (fun n vs _ _=>vs=Aa ((Q7J n).map tm)) (Xu _) (QY QA) QA ?_ ?_
  ·intros n x σ2 vs2 hx' g2 h12 h22 h32 R2 hR2
   have zO:n < i/\x=.Qm ((A[n]?).Q4m 0:QH):=by
    rw [Zc]at hx'
    split at hx'
    ·rename_i hlt
     refine ⟨hlt,?_⟩
     unfold Aa at hx'
     rw [QT]at hx'
     cases e:A[n]? with
     | QG=>rw [e]at hx';cases hx'
     | QB z=>rw [e]at hx';exact (X2 hx').Q37
    ·cases hx'
   obtain ⟨hn1,hn2⟩:=zO
   have lan:n < XR:=by exact Kp hi hn1
   rw [Qg lan]at hn2
   subst hn2
   have hA7:=hA _ (Q0H lan)
   have gn2:=Q8V
   simp only [Ah,Ab,Ac]at h12 h22 gn2
   have c4:Z3 4=.YV (QB (.QQ lt)):=(Q3h _ (by have:=H9 hn h1';kwd_less) (by simp)).QR (by have:=H9 hn h1';kas_types)
   have clt:Z3 lt=.Qs (Aa ((X6 7).map tm)):=(Q3h _ (by have:=Fd llt h1';kwd_less) (by simp)).QR (by have:=Fd llt h1';kas_types)
   dsimp only [Q4U]
   repeat keq_hits
   refine Ao (xs:=Aa ((X6 7).map tm)) (k:=A[n]) (v:=.Qm (tm A[n]:QH)) (by kas_types) QA (by unfold Aa;rw [QT,QT,Yj hA7];rfl) (by exact H8 hA7) ?_
   refine pap (xs:=vs2) ?_ ?_ ?_
   ·simp only [Ah,Ab,Ac];kas_types
   ·rw [h32];unfold Aa;rw [QK,QK,Xo,XA];exact KQ (Qz hl (by decide))
   refine hR2 _ _ ?_ ?_ (QY QA) ?_
   ·repeat kwd_rel
   ·kwd_less
   ·rw [h32,Q00,Qg lan]
    unfold Aa;rw [Qt,Qt];rfl
  ·intros σ2 vs2 e12 g2 h12 h22 h32
   have gn2:=Q8V
   simp only [Ah,Ab,Ac]at h12 h22 gn2
   have Q2Y:(QDz i (Aa A)).ZT=i:=by unfold Aa;rw [Xo,QK];exact Yk (Q1H hi)
   rw [Q2Y]at h32
   repeat keq_hits
   have e3:vs2=((Q7J i).map fun k=>((tm k:QH):X4)).map Q13:=by
    rw [h32];unfold Aa;rw [YZ,YZ];rfl
   refine NZ (ns:=(Q7J i).map fun k=>((tm k:QH):X4)) ?_ ?_ ?_ ?_
   ·simp only [Ah,Ab,Ac]
    rw [h22,e3]
   ·intros z hz
    obtain ⟨k',_,QA⟩:=(Z2 hz)
    exact ⟨Yt _,YF (Qz (ht k') (by decide))⟩
   ·rw [QK,Xo];exact KQ (Qz hl (by decide))
   have e4:((Q7J i).map fun k=>((tm k:QH):X4)).sum=((eOf tm A i:QH):X4):=by
    unfold eOf
    rw [show i - XR=0 by exact RZ hi,Q0j]
    generalize Q7J i=L
    induction L with
    | Zo=>rfl
    | Xx a L ih=>rw [XV,Zu,ih,XV,Zu];exact ia2 (CR)
   rw [e4]
   refine pap (xs:=vs) ?_ ?_ ?_
   ·have:Z3 σ.nx.succ=.Qs vs:=(Q3h _ (by kwd_less) (by simp)).QR (by kas_types)
    simp only [Ah,Ab,Ac];exact this
   ·rw [h3'];unfold Aa;rw [QK,QK,Y9,XA];exact RY hl hi
   refine hR' _ _ ?_ ?_ (QY QA) ?_
   ·have:YU [] (Qw (Ob.range 0 ((XR+1:QH):X4) 1)) σ2:=by
     refine Q2h ?_ g2
     repeat kwd_rel
    repeat kwd_rel
   ·have:=RX h1' h12;kwd_less
   ·rw [h3',Q3M,Qt];unfold Aa;rw [Qt];rfl
 ·intros XH vs e1 g' h1' h2' h3'
  have gn':=Q52
  simp only [Ah,Ab,Ac]at h1' h2' gn'
  have d3:X5 3=.YV u:=(Q0S _ (by have:=RW hn;kwd_less) (by simp)).QR (by have:=abV hn;kas_types)
  repeat keq_hits
  refine k _ (QO+1) ?_ ?_ ?_ ?_ ?_ ?_
  ·rw [CC,e1];rfl
  ·have:YU [3] σ XH:=by
    refine Q2h ?_ (QFP (by simp))
    repeat kwd_rel
   repeat kwd_rel
  ·kas_types
  ·exact EA
  ·kwd_less
  ·refine Ct (by exact abU hn) ?_
   rw [h2',h3']
theorem MG {A:QC QH} {tm:QH->QH} {la lt:QH} {u:QW QU} {R:Fl->QE->Prop} (h8:QS 7=.YV (QB (.QQ la))) (hla:QS la=.Qs (Aa A)) (lla:la < QO) (h4:QS 4=.YV (QB (.QQ lt))) (hlt:QS lt=.Qs (Aa ((X6 7).map tm))) (llt:lt < QO) (h3:QS 2=.YV u) (hn:9<=QO)
  (hA:∀k∈A,k < 7) (hl:XR<=100) (ht:∀k,tm k<=3)
  (k:∀XH l,YA=Xy->YU [2] σ XH->X5 2=.YV (QB (.QQ l))->QO<=l->l < Xh->X5 l=.Qs (Aa ((X6 (XR+1)).map (eOf tm A)))->R .YE XH):ex1 (G P) (Ae (G P) 20) 26 ⟨(fdO (AO P)).Qv,[("stops",2),("ends",3),("times",4),("dress",5),("d",6),("second",7),("first",8)],(fdO (AO P)).Q0s,QB (296,1)⟩ (bb2 3) σ R:=by
 injections P σ A tm la lt u R _ _ _ _ _ _ _ _ _ _ _ _
 conv=>arg 5;whnf
 refine Dc QA [("times",4),("second",7)] (by kernel_rfl) (by kernel_rfl) ?_
 repeat keq_hits
 refine F3 (xs:=Aa A) (by kas_types) (by unfold Aa;rw [QK,XA];exact Km hl) ?_
 repeat keq_hits
 have e:((Aa A).ZT:X4)+1=((XR+1:QH):X4):=by unfold Aa;rw [QK];exact ia4 (Kg)
 rw [e]
 refine F2 (n:=XR+1) (fun i vs _ _=>vs=Aa ((X6 i).map (eOf tm A))) (QY QA) (by exact R4 hl) QA ?_ ?_
 ·intros i XH vs hi g' h1' h2' h3' R' hR'
  have gn':=Q52
  simp only [Ah,Ab,Ac]at h1' h2' gn'
  have d8:X5 7=.YV (QB (.QQ la)):=(Q0S _ (by have:=H7 hn;kwd_less) (by simp)).QR (by have:=RV hn;kas_types)
  have d4:X5 4=.YV (QB (.QQ lt)):=(Q0S _ (by have:=Ib hn;kwd_less) (by simp)).QR (by have:=Kn hn;kas_types)
  have dla:X5 la=.Qs (Aa A):=(Q0S _ (by kwd_less) (by simp)).QR (by have:=Ag lla;kas_types)
  have dlt:X5 lt=.Qs (Aa ((X6 7).map tm)):=(Q0S _ (by kwd_less) (by simp)).QR (by have:=Ag llt;kas_types)
  dsimp only
  repeat keq_hits
  refine Dm [("times",4)] (by kernel_rfl) (by kernel_rfl) ?_
  repeat keq_hits
  refine E6 (xs:=Aa A) (p:=QG) (q:=QB (i:X4)) (r:=QG) (by kas_types) QA QA QA (by simp) (by unfold Aa;rw [QK,XA];exact Km hl) ?_
  rw [Ha (Aa A) (by unfold Aa;rw [QK];exact Ic hi)]
  refine Dn (fun n vs _ _=>vs=Aa ((Q7J n).map tm)) (Xu _) (QY QA) QA ?_ ?_
  ·intros n x σ2 vs2 hx' g2 h12 h22 h32 R2 hR2
   have zO:n < i/\x=.Qm ((A[n]?).Q4m 0:QH):=by
    rw [Zc]at hx'
    split at hx'
    ·rename_i hlt
     refine ⟨hlt,?_⟩
     unfold Aa at hx'
     rw [QT]at hx'
     cases e:A[n]? with
     | QG=>rw [e]at hx';cases hx'
     | QB z=>rw [e]at hx';exact (X2 hx').Q37
    ·cases hx'
   obtain ⟨hn1,hn2⟩:=zO
   have lan:n < XR:=by exact Kp hi hn1
   rw [Qg lan]at hn2
   subst hn2
   have hA7:=hA _ (Q0H lan)
   have gn2:=Q8V
   simp only [Ah,Ab,Ac]at h12 h22 gn2
   have c4:Z3 4=.YV (QB (.QQ lt)):=(Q3h _ (by have:=H9 hn h1';kwd_less) (by simp)).QR (by have:=H9 hn h1';kas_types)
   have clt:Z3 lt=.Qs (Aa ((X6 7).map tm)):=(Q3h _ (by have:=Fd llt h1';kwd_less) (by simp)).QR (by have:=Fd llt h1';kas_types)
   dsimp only [Q4U]
   repeat keq_hits
   refine Ao (xs:=Aa ((X6 7).map tm)) (k:=A[n]) (v:=.Qm (tm A[n]:QH)) (by kas_types) QA (by unfold Aa;rw [QT,QT,Yj hA7];rfl) (by exact H8 hA7) ?_
   refine pap (xs:=vs2) ?_ ?_ ?_
   ·simp only [Ah,Ab,Ac];kas_types
   ·rw [h32];unfold Aa;rw [QK,QK,Xo,XA];exact KQ (Qz hl (by decide))
   refine hR2 _ _ ?_ ?_ (QY QA) ?_
   ·repeat kwd_rel
   ·kwd_less
   ·rw [h32,Q00,Qg lan]
    unfold Aa;rw [Qt,Qt];rfl
  ·intros σ2 vs2 e12 g2 h12 h22 h32
   have gn2:=Q8V
   simp only [Ah,Ab,Ac]at h12 h22 gn2
   have Q2Y:(QDz i (Aa A)).ZT=i:=by unfold Aa;rw [Xo,QK];exact Yk (Q1H hi)
   rw [Q2Y]at h32
   repeat keq_hits
   have e3:vs2=((Q7J i).map fun k=>((tm k:QH):X4)).map Q13:=by
    rw [h32];unfold Aa;rw [YZ,YZ];rfl
   refine NZ (ns:=(Q7J i).map fun k=>((tm k:QH):X4)) ?_ ?_ ?_ ?_
   ·simp only [Ah,Ab,Ac]
    rw [h22,e3]
   ·intros z hz
    obtain ⟨k',_,QA⟩:=(Z2 hz)
    exact ⟨Yt _,YF (Qz (ht k') (by decide))⟩
   ·rw [QK,Xo];exact KQ (Qz hl (by decide))
   have e4:((Q7J i).map fun k=>((tm k:QH):X4)).sum=((eOf tm A i:QH):X4):=by
    unfold eOf
    rw [show i - XR=0 by exact RZ hi,Q0j]
    generalize Q7J i=L
    induction L with
    | Zo=>rfl
    | Xx a L ih=>rw [XV,Zu,ih,XV,Zu];exact ia2 (CR)
   rw [e4]
   refine pap (xs:=vs) ?_ ?_ ?_
   ·have:Z3 σ.nx.succ=.Qs vs:=(Q3h _ (by kwd_less) (by simp)).QR (by kas_types)
    simp only [Ah,Ab,Ac];exact this
   ·rw [h3'];unfold Aa;rw [QK,QK,Y9,XA];exact RY hl hi
   refine hR' _ _ ?_ ?_ (QY QA) ?_
   ·have:YU [] (Qw (Ob.range 0 ((XR+1:QH):X4) 1)) σ2:=by
     refine Q2h ?_ g2
     repeat kwd_rel
    repeat kwd_rel
   ·have:=RX h1' h12;kwd_less
   ·rw [h3',Q3M,Qt];unfold Aa;rw [Qt];rfl
 ·intros XH vs e1 g' h1' h2' h3'
  have gn':=Q52
  simp only [Ah,Ab,Ac]at h1' h2' gn'
  have d3:X5 2=.YV u:=(Q0S _ (by have:=RU hn;kwd_less) (by simp)).QR (by have:=abT hn;kas_types)
  repeat keq_hits
  refine k _ (QO+1) ?_ ?_ ?_ ?_ ?_ ?_
  ·rw [CC,e1];rfl
  ·have:YU [2] σ XH:=by
    refine Q2h ?_ (QFP (by simp))
    repeat kwd_rel
   repeat kwd_rel
  ·kas_types
  ·exact EA
  ·kwd_less
  ·refine Ct (by exact abS hn) ?_
   rw [h2',h3']
end
end
section
variable {P:Params} {d:Nat} {σ:Mini.St}
mutual
theorem MI {qs:QC (QH×Ap)} {e s:QH->QH} {la lb ldue le ls:QH} {R:Fl->QE->Prop} (hd:Xy "due"=QB (.QQ ldue)) (hdu:QS ldue=.Qs (YL fun q=>.QQ q.1)) (ldu:ldue < QO) (hq:∀q∈qs,q.1 < QO/\QS q.1=.YM (AF q.2))
  (h3:QS 3=.YV (QB (.QQ le))) (h2:QS 2=.YV (QB (.QQ ls))) (hle:QS le=.Qs (Aa ((X6 (la+1)).map e))) (hls:QS ls=.Qs (Aa ((X6 (lb+1)).map s))) (lle:le < QO) (lls:ls < QO)
  (hn:9<=QO) (hin:∀q∈qs,q.2.1+q.2.2.2<=la/\q.2.2.1<=lb) (hm:∀i k,e i<=e (i+k)) (hla:la<=1000) (hlb:lb<=1000) (hql:Q4R<=5000)
  (k:∀XH l (rs:QC (QH×Ap)),YU [] σ XH->(∀y:X8,y≠"moved"->YA y=Xy y)->YA "moved"=QB (.QQ l)->QO<=l->l < Xh->X5 l=.Qs (Q4r fun q=>.QQ q.1)->(∀q∈rs,q.1 < Xh/\X5 q.1=.YM (AF q.2))->Q4r (·.2)=YL (fun q=>mvT e s q.2)->R .YE XH) :
  ex1 (G P) (Ae (G P) 20) 25 ⟨(fdO (AO P)).Qv,[("stops",2),("ends",3),("times",4),("dress",5),("d",6),("second",7),("first",8)],(fdO (AO P)).Q0s,QB (296,1)⟩ (bb2 4) σ R:=by
 injections P σ qs e s la lb ldue le ls R _ _ _ _ _ _ _ _ _ _ _ _ _ _ _ _ _
 conv=>arg 5;whnf
 refine Dc QA [("stops",2),("ends",3)] (by kernel_rfl) (by kernel_rfl) ?_
 repeat keq_hits
 refine Dn (fun i vs hp nx=>∃rs:QC (QH×Ap),vs=(Q4r fun q=>Ya q.1)/\(∀q∈rs,q.1 < nx/\hp q.1=.YM (AF q.2))/\Q4r (·.2)=(YL (fun q=>mvT e s q.2)).take i) ldu hdu ⟨[],QA,(fun q hq=>by cases hq),QA⟩ ?_ ?_
 ·intros i x XH vs hx g' h1' h2' h3' R' hR'
  have zO:∃q,qs[i]?=QB q/\x=.QQ q.1:=by
   rw [QT]at hx
   cases e:qs[i]? with
   | QG=>rw [e]at hx;cases hx
   | QB q=>rw [e]at hx;exact ⟨q,QA,(X2 hx).Q37⟩
  obtain ⟨q,hqt,QA⟩:=zO
  have hiq:i < Q4R:=(QX hqt).1
  obtain ⟨rs,QA,r1,r2⟩:=h3'
  have gn':=Q52
  obtain ⟨y1,y2⟩:=hq q (XG hqt)
  obtain ⟨z1,z2⟩:=hin q (XG hqt)
  have y3:X5 q.1=.YM [.Qm q.2.1,.Qm q.2.2.1,.Qm q.2.2.2]:=(Q0S q.1 y1 (by simp)).QR y2
  have d3:X5 3=.YV (QB (.QQ le)):=(Q0S _ (by have:=RW hn;kwd_less) (by simp)).QR h3
  have d2:X5 2=.YV (QB (.QQ ls)):=(Q0S _ (by have:=RU hn;kwd_less) (by simp)).QR h2
  have dle:X5 le=.Qs (Aa ((X6 (la+1)).map e)):=(Q0S _ (by kwd_less) (by simp)).QR hle
  have dls:X5 ls=.Qs (Aa ((X6 (lb+1)).map s)):=(Q0S _ (by kwd_less) (by simp)).QR hls
  have ge:∀i,i<=la->(Aa ((X6 (la+1)).map e))[i]?=QB (.Qm (e i:QH)):=by
   intros i hi
   unfold Aa;rw [QT,QT,Yj (by exact RT hi)];rfl
  have gs:∀i,i<=lb->(Aa ((X6 (lb+1)).map s))[i]?=QB (.Qm (s i:QH)):=by
   intros i hi
   unfold Aa;rw [QT,QT,Yj (by exact RT hi)];rfl
  have hmq:=hm q.2.1 q.2.2.2
  dsimp only
  repeat keq_hits
  refine Ao (by kas_types) QA (ge q.2.1 (by exact GQ z1)) (by exact RS hla z1) ?_
  repeat keq_hits
  refine Ao (by kas_types) QA (gs q.2.2.1 z2) (by exact abR hlb z2) ?_
  repeat keq_hits
  refine Ao (k:=q.2.1+q.2.2.2) (by kas_types) (by exact ia2 (CR)) (ge (q.2.1+q.2.2.2) z1) (by exact abQ hla z1) ?_
  repeat keq_hits
  refine Ao (by kas_types) QA (ge q.2.1 (by exact GQ z1)) (by exact RS hla z1) ?_
  repeat keq_hits
  have er:((e (q.2.1+q.2.2.2):QH):X4) - ((e q.2.1:QH):X4)=((e (q.2.1+q.2.2.2) - e q.2.1:QH):X4):=by exact ia5 (Vo hmq)
  rw [er]
  have hrl:rs.length<=5000:=by
   have:=Z8 QGd r2
   rw [QK,Xo,QK]at this;rw [this];exact Qz (Q0E _ _) hql
  refine pap (xs:=Q4r fun q=>Ya q.1) ?_ ?_ ?_
  ·kas_types
  ·rw [QK,XA];exact abP hrl
  refine hR' _ _ ?_ ?_ (QY QA) ⟨rs++[(Xh,mvT e s q.2)],?_,?_,?_⟩
  ·repeat kwd_rel
  ·kwd_less
  ·rw [Qt];rfl
  ·intros q' hq'
   rcases Y4 hq' with hq' | hq'
   ·obtain ⟨w1,w2⟩:=r1 q' hq'
    have hne:q'.1≠QO:=fun e=>by rw [e,h2']at w2;cases w2
    exact ⟨by kwd_less,by kas_types⟩
   ·rw [Xj]at hq'
    subst hq'
    refine ⟨by kwd_less,?_⟩
    show Q2j _ Xh=Q43 [.Qm (e q.2.1:QH),.Qm (s q.2.2.1:QH),.Qm ((e (q.2.1+q.2.2.2) - e q.2.1:QH):X4)]
    have:=Cj h1';kas_types
  ·rw [Qt,r2,Q00,QT,hqt];rfl
 ·intros XH vs e1 g' h1' h2' h3'
  obtain ⟨rs,QA,r1,r2⟩:=h3'
  rw [QK]at r2
  have gn':=Q52
  rw [<- QK (f:=fun q:QH×Ap=>mvT e s q.2),Q0u]at r2
  repeat keq_hits
  refine k _ QO rs ?_ ?_ ?_ (Qh _) ?_ ?_ ?_ r2
  ·repeat kwd_rel
  ·intros y hy
   rw [AT,QN hy,e1]
  ·exact DZ QA
  ·kwd_less
  ·exact h2'
  ·exact r1
def gC (A B:QC QH) (i:QH):QC QH:=if i=0 then A else B
theorem JR {α:Type} (tm:QH->QH) (gv:QH->α) (C:QC QH) (t:QH) (ht:t < QDA):Q0J tm gv (QBO (t+1))=Q0J tm gv (QBO t)++Q10 (tm C[t]) (gv C[t]):=by
 unfold Q0J
 rw [Q00,Qg ht,Q8t]
 simp
theorem MK {A B:QC QH} {tm:QH->QH} {gv:QH->QU} {la lb ld lt:QH} {R:Fl->QE->Prop} (h8:QS 8=.YV (QB (.QQ la))) (h7:QS 7=.YV (QB (.QQ lb))) (h5:QS 5=.YV (QB (.QQ ld))) (h4:QS 4=.YV (QB (.QQ lt)))
  (hla:QS la=.Qs (Aa A)) (hlb:QS lb=.Qs (Aa B)) (hld:QS ld=.Qs ((X6 7).map gv)) (hlt:QS lt=.Qs (Aa ((X6 7).map tm))) (lla:la < QO) (llb:lb < QO) (lld:ld < QO) (llt:lt < QO)
  (hn:9<=QO) (hA:∀k∈A,k < 7) (hB:∀k∈B,k < 7) (hAl:XR<=100) (hBl:Xn<=100) (ht:∀k,tm k<=3)
  (k:∀XH l l1 l2,YU [] σ XH->(∀y:X8,y≠"grown"->YA y=Xy y)->YA "grown"=QB (.QQ l)->QO<=l->l < Xh->X5 l=.Qs [.QQ l1,.QQ l2]->l1 < Xh->l2 < Xh->X5 l1=.Qs (Q0J tm gv A)->X5 l2=.Qs (Q0J tm gv B)->R .YE XH) :
  ex1 (G P) (Ae (G P) 20) 24 ⟨(fdO (AO P)).Qv,[("stops",2),("ends",3),("times",4),("dress",5),("d",6),("second",7),("first",8)],(fdO (AO P)).Q0s,QB (296,1)⟩ (bb2 5) σ R:=by
 injections P σ A B tm gv la lb ld lt R _ _ _ _ _ _ _ _ _ _ _ _ _ _ _ _ _ _ _
 conv=>arg 5;whnf
 refine Dc QA [("times",4),("dress",5)] (by kernel_rfl) (by kernel_rfl) ?_
 repeat keq_hits
 refine NW (fun i vs hp nx=>∃ls:QC QH,vs=QBE Ya/\QBP=i/\∀j l,ls[j]?=QB l->QO+1 < l/\l < nx/\hp l=.Qs (Q0J tm gv (gC A B j))) (Xu _) (QY QA) ⟨[],QA,QA,fun j l h=>by simp at h⟩ ?_ ?_
 ·intros i x XH vs hx g' h1' h2' h3' R' hR'
  obtain ⟨ls,QA,r1,r2⟩:=h3'
  have gn':=Q52
  simp only [Ah,Ab,Ac]at h1' h2' gn'
  have d5:X5 5=.YV (QB (.QQ ld)):=(Q0S _ (by have:=R6 hn;kwd_less) (by simp)).QR (by have:=abO hn;kas_types)
  have d4:X5 4=.YV (QB (.QQ lt)):=(Q0S _ (by have:=Ib hn;kwd_less) (by simp)).QR (by have:=Kn hn;kas_types)
  have dld:X5 ld=.Qs ((X6 7).map gv):=(Q0S _ (by kwd_less) (by simp)).QR (by have:=Ag lld;kas_types)
  have dlt:X5 lt=.Qs (Aa ((X6 7).map tm)):=(Q0S _ (by kwd_less) (by simp)).QR (by have:=Ag llt;kas_types)
  have zO:∃lr C,x=.QQ lr/\i < 2/\lr < QO/\X5 lr=.Qs (Aa C)/\(∀k∈C,k < 7)/\QDA<=100/\gC A B i=C:=by
   match i,hx with
   | 0,hx=>cases hx;exact ⟨la,A,QA,by exact Kv,lla,(Q0S _ (by kwd_less) (by simp)).QR (by have:=Ag lla;kas_types),hA,hAl,QA⟩
   | 1,hx=>cases hx;exact ⟨lb,B,QA,by exact Ku,llb,(Q0S _ (by kwd_less) (by simp)).QR (by have:=Ag llb;kas_types),hB,hBl,QA⟩
  obtain ⟨lr,C,QA,hi2,lr1,lr2,hC,hCl,hCg⟩:=zO
  dsimp only
  repeat keq_hits
  refine Dm [("times",4),("dress",5)] (by kernel_rfl) (by kernel_rfl) ?_
  repeat keq_hits
  refine K5 (Xr:=Aa C) (by kas_types) ?_
  refine Ax (fun t σ2=>YU [] XH σ2/\Xh < Q02/\Z3 Xh=.Qs (Q0J tm gv (QBO t))) (fun _=>Yn) (fun _ _=>Yn) ?_ ?_ ?_ ?_ (fun _ q=>Q2i) (fun _ _ q=>Q2i)
  ·refine ⟨?_,Xu _,QY QA⟩
   exact ⟨Q0N _,fun l' hl' _=>QN (Xv hl')⟩
  ·intros t σ2 Q2X
   obtain ⟨g2,_⟩:=Q2X
   exact (Q3h lr (by exact abM h1' lr1) (by simp)).QR lr2
  ·intros t x σ2 hx2 hI R2 hn2 u1 u2 u3
   obtain ⟨g2,hx2',hac⟩:=hI
   have zO:t < QDA/\x=.Qm ((C[t]?).Q4m 0:QH):=by
    unfold Aa at hx2
    rw [QT]at hx2
    cases e:C[t]? with
    | QG=>rw [e]at hx2;cases hx2
    | QB z=>rw [e]at hx2;exact ⟨(QX e).1,(X2 hx2).Q37⟩
   obtain ⟨hn1,hxe⟩:=zO
   rw [Qg hn1]at hxe
   subst hxe
   have hC7:=hC _ (Q0H hn1)
   have htC:=ht C[t]
   have gn2:=Q8V
   have c4:Z3 4=.YV (QB (.QQ lt)):=(Q3h _ (by have:=H9 hn h1';kwd_less) (by simp)).QR d4
   have c5:Z3 5=.YV (QB (.QQ ld)):=(Q3h _ (by have:=RQ hn h1';kwd_less) (by simp)).QR d5
   have clt:Z3 lt=.Qs (Aa ((X6 7).map tm)):=(Q3h _ (by have:=Fd llt h1';kwd_less) (by simp)).QR dlt
   have cld:Z3 ld=.Qs ((X6 7).map gv):=(Q3h _ (by have:=Fd lld h1';kwd_less) (by simp)).QR dld
   dsimp only [Q4U]
   repeat keq_hits
   refine ⟨QA,?_⟩
   repeat keq_hits
   refine Ao (xs:=Aa ((X6 7).map tm)) (k:=C[t]) (v:=.Qm (tm C[t]:QH)) (by kas_types) QA (by unfold Aa;rw [QT,QT,Yj hC7];rfl) (by exact H8 hC7) ?_
   repeat keq_hits
   refine S7 (n:=tm C[t]) (QY QA) (by exact abL htC) ?_
   refine Ax (fun j σ3=>YU [] XH σ3/\Xh < Q0l/\Q4s Xh=.Qs (Q0J tm gv (QBO t)++Q10 j (gv C[t]))/\Q1Q "k"=QB (.Qm (C[t]:QH))/\j<=tm C[t]) (fun _=>Yn) (fun _ _=>Yn) ?_ (fun _ _ _=>ZQ) ?_ ?_ (fun _ q=>Q2i) (fun _ _ q=>Q2i)
   ·refine ⟨?_,?_,?_,?_,XQ _⟩
    ·repeat kwd_rel
    ·kwd_less
    ·rw [List.replicate_zero,Q3N];kas_types
    ·keq_rows
   ·intros j x σ3 hx3 hI R3 hn3 u4 u5 u6
    obtain ⟨g3,QDB,hac3,hk3,hj3⟩:=hI
    obtain ⟨hj,QA⟩:=ID hx3
    have gn3:=Q9H
    have c5':Q4s 5=.YV (QB (.QQ ld)):=(Q42 _ (by have:=RQ hn h1';kwd_less) (by simp)).QR d5
    have cld':Q4s ld=.Qs ((X6 7).map gv):=(Q42 _ (by have:=Fd lld h1';kwd_less) (by simp)).QR dld
    dsimp only
    repeat keq_hits
    refine Ao (xs:=(X6 7).map gv) (k:=C[t]) (v:=gv C[t]) (by kas_types) QA (by rw [QT,Yj hC7];rfl) (by exact H8 hC7) ?_
    refine pap (xs:=Q0J tm gv (QBO t)++Q10 j (gv C[t])) ?_ ?_ ?_
    ·simp only [Ah,Ab,Ac];kas_types
    ·have:=Dj (tm:=tm) gv (QBO t)
     have h2:=JY ht (QBO t)
     rw [Xz,Q0A,this,XA]
     rw [Xo]at h2 ⊢
     exact Qz (Q8S (Qz h2 (Nat.mul_le_mul_left 3 (Qz (Q0E _ _) hCl))) (Qz (X7 hj) htC)) (YB QA)
    refine hn3 _ ⟨?_,?_,?_,?_,by exact abK hj⟩
    ·repeat kwd_rel
    ·kwd_less
    ·refine (QY QA).QR ?_
     rw [Q0W,List.replicate_succ']
    ·keq_rows
   ·intros σ3 hI
    obtain ⟨g3,QDB,hac3,hk3,hj3⟩:=hI
    rw [QK,Y9,<- JR tm gv C t hn1]at hac3
    exact hn2 _ ⟨g3,QDB,hac3⟩
  ·intros σ2 hI
   obtain ⟨g2,hx2',hac⟩:=hI
   have hCi:(Aa C).ZT=QDA:=by unfold Aa;rw [QK]
   rw [hCi,Q0u]at hac
   have gn2:=Q8V
   refine pap (xs:=QBE Ya) ?_ ?_ ?_
   ·simp only [Ah,Ab,Ac]
    exact (Q3h _ (by kwd_less) (by simp)).QR h2'
   ·rw [QK,XA];exact abJ r1 hi2
   refine hR' _ (QBE Ya++[.QQ Xh]) ?_ ?_ ?_ ⟨ls++[Xh],?_,?_,?_⟩
   ·have:YU [] (Qw (Q43 [Ya la,Ya lb])) σ2:=g'.trans g2
    have:YU [] (Qw (Q43 [Ya la,Ya lb])) {σ2 with loc:=(σ'.set "rows" (Ya lr)).loc}:=⟨this.nx,this.hp⟩
    repeat kwd_rel
   ·show QO+1 < Q02;exact abI h1' hx2'
   ·exact Cu QA QA
   ·rw [Qt];rfl
   ·rw [Xz,r1];rfl
   ·intros j l hj
    show QO+1 < l/\l < Q02/\(if l=QO+1 then _ else Z3 l)=_
    by_cases hjl:j < QBP
    ·rw [Q5l hjl]at hj
     obtain ⟨q0,q1,q2⟩:=(r2 j l hj)
     rw [QN (by exact RO q0)]
     exact ⟨q0,by exact Dr hx2' q1,(Q3h l q1 (by simp)).QR q2⟩
    ·rw [Q5e (by exact L6 hjl)]at hj
     have:j - QBP=0:=by
      by_cases q:j - QBP=0
      ·exact q
      ·rw [Q2Q (by simp;exact abH q)]at hj;cases hj
     rw [this]at hj
     cases hj
     rw [QN (by exact RO h1')]
     have hji:j=i:=by exact abG r1 hjl this
     rw [hji,hCg]
     exact ⟨h1',hx2',hac⟩
 ·intros XH vs e1 g' h1' h2' h3'
  obtain ⟨ls,QA,r1,r2⟩:=h3'
  have gn':=Q52
  simp only [Ah,Ab,Ac]at h1' h2' gn'
  obtain ⟨l1,l2,QA⟩:=Nw r1
  ·repeat keq_hits
   have q1:=r2 0 l1 QA
   have q2:=r2 1 l2 QA
   refine k _ (QO+1) l1 l2 ?_ ?_ ?_ ?_ ?_ ?_ ?_ ?_ ?_ ?_
   ·have:YU [] σ XH:=by
     refine Q2h ?_ g'
     repeat kwd_rel
    repeat kwd_rel
   ·intros y hy
    rw [AT,QN hy,e1];rfl
   ·exact DZ QA
   ·exact EA
   ·kwd_less
   ·exact h2'
   ·exact q1.2.1
   ·exact q2.2.1
   ·exact q1.2.2
   ·exact q2.2.2
end
end
mutual
theorem JL {la lb:QH}:∀ {L:QC Ap} {c:Ap},(c.1+c.2.2<=la/\c.2.1+c.2.2<=lb)->(∀t∈L,t.1+t.2.2<=la/\t.2.1+t.2.2<=lb)->∀t∈mrg c L,t.1+t.2.2<=la/\t.2.1+t.2.2<=lb
 | [],c,hc,_,t,ht=>by
  unfold mrg at ht
  split at ht
  ·cases ht
  ·rw [Xj]at ht;subst ht;exact hc
 | u::r,c,hc,h,t,ht=>by
  have hu:=h u (.Zf _)
  have hr:=fun x hx=>h x (.Q38 _ hx)
  unfold mrg at ht
  split at ht
  ·rename_i q
   exact JL (c:=(c.1,c.2.1,c.2.2+u.2.2)) (by dsimp only;exact ⟨RN hu.1 q.1,RN hu.2 q.2⟩) hr t ht
  ·rcases Y4 ht with ht | ht
   ·split at ht
    ·cases ht
    ·rw [Xj]at ht;subst ht;exact hc
   ·exact JL hu hr t ht
theorem NJ {M:QH->QH->Qu} {U:QH->Qu} {la lb:QH} {R:QC Ap} (h:Gmb M U la lb R):∀t∈R,t.1+t.2.2<=la/\t.2.1+t.2.2<=lb:=by
 obtain (⟨L,hB,QA⟩):=h
 have Q9j:=QBK (XQ _) (XQ _)
 intro t ht
 rcases Y4 ht with ht | ht
 ·refine JL (by dsimp only;exact ⟨RM,RM⟩) (fun t ht=>?_) t ht
  have:=Q9j.1 t ht;dsimp only at this;exact ⟨DK this.2.1,DK this.2.2.2.1⟩
 ·rw [Xj]at ht;subst ht;dsimp only;exact ⟨RL,RL⟩
def kI (k:QH):Yh:=.i k
def jI:Yh->Qu:=fun k=>match k with | .i n=>XY (2 < n) | _=>QJ
def jS:Yh->Qu:=fun k=>match k with | .s x=>rxJ Q94 | _=>QJ
def jN (k:QH):Qu:=XY (2 < k)
theorem Oo (A B:QC Yh):MM A B=Mq A B:=by
 funext i j
 unfold MM Mq
 cases A[i]? <;> cases B[j]? <;> rfl
theorem On (B:QC Yh) (J:Yh->Qu):UU B J=Uq B J:=by
 funext j
 unfold UU Uq
 cases B[j]? <;> rfl
theorem lt3 {P:QH->Prop} (a:P 0) (b:P 1) (c:P 2) {m:QH} (hm:m < 3):P m:=by
 cases m with
 | Q1x=>exact a
 | Q1y m =>
  cases m with
  | Q1x=>exact b
  | Q1y m =>
   cases m with
   | Q1x=>exact c
   | Q1y m=>exact XF hm (Nat.not_lt_of_le (Q7T 3 m))
theorem IB {w v n m:QH} (hm:m < 3) (k:QH):(DS w v n m k).ZT<=5:=by
 refine lt3 (P:=fun m=>(DS w v n m k).ZT<=5) ?_ ?_ ?_ hm <;> rcases k with _ | _ | _ | _ | _ | _ | k <;> exact YB QA
theorem MR (A B:QC QH):MM (Q9F kI) (Q9G kI)=Mq A B:=by
 rw [Oo]
 funext i j
 exact H2 kI A B i j fun x _ y _ e=>by unfold kI at e;injection e with e;exact (Q0D e)
theorem MQ (B:QC QH):UU (Q9G kI) jI=Uq B jN:=by
 rw [On]
 funext j
 unfold Uq
 rw [QT]
 cases B[j]? with
 | QG=>rfl
 | QB k =>
  show XY ((2:X4) < (k:X4))=XY (2 < k)
  exact Q1P (QFQ (n:=2))
theorem I0 (A:QC QH):Aa A=(Q9F kI).map Q12:=by unfold Aa;rw [YZ];rfl
theorem Hh {α β:Type} (tm:QH->QH) (f:QH->α) (g:α->β) (A:QC QH):(Q0J tm f A).map g=Q0J tm (fun k=>g (f k)) A:=by
 unfold Q0J
 rw [List.map_flatMap]
 congr 1
 funext k
 rw [Q9k]
theorem El {α:Type} {tm:QH->QH} {f:QH->α} {A:QC QH} {x:α} (h:x∈Q0J tm f A):∃k∈A,x=f k:=by
 unfold Q0J at h
 refine ew1 (List.mem_flatMap.mp h) fun k yq7v=>?_;refine an2 yq7v fun hk hx=>?_;clear yq7v
 exact ⟨k,hk,(List.mem_replicate.mp hx).2⟩
end
section
variable {σ:Mini.St}
mutual
def Fj (t:Ap):Dat:=.YM [.Qm t.1,.Qm t.2.1,.Qm t.2.2]
theorem QBQ {hp:QH->Ob}:∀(qs:QC (QH×Ap)),(∀q∈qs,hp q.1=.YM (AF q.2))->DVs hp (YL fun q=>.QQ q.1) (YL fun q=>Fj q.2)
 | [],_=>.Zo
 | q::r,h=>.Xx (.YM (h q (.Zf _)) (.Xx (.Qm _) (.Xx (.Qm _) (.Xx (.Qm _) .Zo)))) (QBQ r fun x hx=>h x (.Q38 _ hx))
theorem IM (qs:QC (QH×Ap)):∀d∈YL fun q=>Fj q.2,kqdOk 8 d=QM:=by
 intro d hd
 refine ew1 (Z2 hd) fun q yq7w=>?_;refine an2 yq7w fun _ yq7x=>?_;obtain QA:=yq7x;clear yq7w
 rfl
theorem J8 {l k:QH} {qs rs:QC (QH×Ap)} {P:QU->QE->Prop} (h1:QS l=.Qs (YL fun q=>.QQ q.1)) (h2:QS k=.Qs (Q4r fun q=>.QQ q.1)) (hq:∀q∈qs,QS q.1=.YM (AF q.2)) (hr:∀q∈rs,QS q.1=.YM (AF q.2))
  (e:YL (·.2)=Q4r (·.2)) (p:P (.Ys QJ) σ):BK .QHD (.QQ l) (.QQ k) σ P:=by
 refine Q46 h1 ?_;refine Q46 h2 ?_
 refine ⟨YL fun q=>Fj q.2,Q4r fun q=>Fj q.2,QBQ qs hq,QBQ rs hr,IM qs,IM rs,?_⟩
 have e2:(YL fun q=>Fj q.2)=Q4r fun q=>Fj q.2:=by
  have:=Z8 (Q5X Fj) e
  rwa [YZ,YZ]at this
 simp only [e2,decide_true,Q4X];exact p
end
end
section
variable {P:Params} {d:Nat} {σ:Mini.St}
mutual
theorem OJ {A B:QC QH} {tm:QH->QH} {w v n m l l1 l2 lm:QH} {rs:QC (QH×Ap)} {R:Fl->QE->Prop} (hg:Xy "grown"=QB (.QQ l)) (hl:QS l=.Qs [.QQ l1,.QQ l2]) (h1:QS l1=.Qs (Q0J tm (fun k=>QAb (BW w v n m k)) A)) (h2:QS l2=.Qs (Q0J tm (fun k=>QAb (BW w v n m k)) B))
  (k1:l < QO) (k2:l1 < QO) (k3:l2 < QO) (hm:Xy "moved"=QB (.QQ lm)) (hlm:QS lm=.Qs (Q4r fun q=>.QQ q.1)) (km:lm < QO) (hrs:∀q∈rs,q.1 < QO/\QS q.1=.YM (AF q.2))
  (hm3:m < 3) (hA:XR<=100) (hB:Xn<=100) (ht:∀k,tm k<=3)
  (hG:∀R',Gmb (Mq (Q0J tm (fun k=>Q8R (BW w v n m k)) A) (Q0J tm (fun k=>Q8R (BW w v n m k)) B)) (Uq (Q0J tm (fun k=>Q8R (BW w v n m k)) B) jS) (eOf tm A XR) (eOf tm B Xn) R'->R'=Q4r (·.2))
  (hL:∀L,Blk (Mq (Q0J tm (fun k=>Q8R (BW w v n m k)) A) (Q0J tm (fun k=>Q8R (BW w v n m k)) B)) (Uq (Q0J tm (fun k=>Q8R (BW w v n m k)) B) jS) ⟨0,eOf tm A XR,0,eOf tm B Xn⟩ L->Q6l < 64)
  (k:∀XH,YU [] σ XH->YA=Xy->R .YE XH):ex1 (G P) (Ae (G P) 20) 23 ⟨(fdO (AO P)).Qv,[("stops",2),("ends",3),("times",4),("dress",5),("d",6),("second",7),("first",8)],(fdO (AO P)).Q0s,QB (296,1)⟩ (bb2 6) σ R:=by
 injections P σ A B tm w v n m l l1 l2 lm rs R _ _ _ _ _ _ _ _ _ _ _ _ _ _ _ _ _ _
 conv=>arg 5;whnf
 have lenA:=Dj (tm:=tm) (fun k=>Q8R (BW w v n m k)) A
 have lenB:=Dj (tm:=tm) (fun k=>Q8R (BW w v n m k)) B
 have leA:=JY ht A
 have leB:=JY ht B
 repeat keq_hits
 refine Ao (k:=0) (v:=.QQ l1) (by kas_types) QA QA (by decide) ?_
 repeat keq_hits
 refine Ao (k:=1) (v:=.QQ l2) (by kas_types) QA QA (by decide) ?_
 repeat keq_hits
 refine EO (d:=15) (A:=Q0J tm (fun k=>Q8R (BW w v n m k)) A) (B:=Q0J tm (fun k=>Q8R (BW w v n m k)) B) (J:=jS) (ok:=fun k=>match k with | .s x=>Q1W < 1000000 | _=>Yn) (S:=[]) ?_ ?_ k2 k3 ?_ ?_ ?_ ?_ ?_ ?_ ?_
 ·rw [h1,Hh];rfl
 ·rw [h2,Hh];rfl
 ·rw [lenA];exact RK hA leA
 ·intros L hL'
  rw [lenA,lenB]at hL'
  rw [Oo,On]at hL'
  exact hL L hL'
 ·rw [lenB];exact RK hB leB
 ·exact T5
 ·intros x hx
  obtain ⟨k',_,QA⟩:=(El hx)
  have:(BW w v n m k').QGf<=5:=by
   show (DS w v n m k').QAW<=5
   rw [XW]
   exact IB hm3 k'
  show (BW w v n m k').QGf < 1000000
  exact RJ this
 ·intros x hx y hy
  obtain ⟨k',_,QA⟩:=(El hx)
  obtain ⟨k'',_,QA⟩:=(El hy)
  rfl
 ·intros XH l' qs g q1 q2 q3 q4 q5
  rw [lenA,lenB,Oo,On]at q5
  have eq:=hG _ q5
  have gn:=Q7f
  have hm':YA "moved"=QB (.QQ lm):=by rw [QAY];exact hm
  repeat keq_hits
  refine J8 (qs:=qs) (rs:=rs) q3 ((Q1a lm km).QR hlm) (fun q hq=>(q4 q hq).2) (fun q hq=>(Q1a _ (hrs q hq).1).QR (hrs q hq).2) eq ?_
  repeat keq_hits
  exact k XH ⟨Q7f,fun l hl _=>Q1a l hl⟩ QAY
theorem Pq (P:Ql):(K P).QF0 298=QB (Nh P):=by kernel_rfl
theorem T9 (P:Ql):QDe (K P) 298 296:=⟨Nh P,Pq P,fun _ e=>⟨_,_,_,_,_,_,_,_,_,e,QA,QA,QA,QA,QA,QA,QA,QA,by decide⟩⟩
theorem HD {XJ:Pos} {es:QC (QH×QH×QH)} {e:QH×QH×QH} {lc:QH} (h:AG XJ es=QG) (h2:AG XJ (es++[e])=QB lc):lc=e.2.2:=by
 injections XJ es e lc _ _
 induction es with
 | Zo =>
  have h2:(if ((e.1:X4) == Q0z&&(e.2.1:X4) == Q59)=QM then QB e.2.2 else QG)=QB lc:=h2
  split at h2
  ·exact (X2 h2).Q37
  ·cases h2
 | Xx x r ih =>
  injections x r ih zI
  have h:(if ((x.1:X4) == Q0z&&(x.2.1:X4) == Q59)=QM then QB x.2.2 else AG XJ r)=QG:=h
  have h2:(if ((x.1:X4) == Q0z&&(x.2.1:X4) == Q59)=QM then QB x.2.2 else AG XJ (r++[e]))=QB lc:=h2
  split at h
  ·cases h
  ·rename_i hx
   rw [QN hx]at h2
   exact ih h h2
def FP:Pos:=Mini.xSA (bb1 0) (fun e=>Mini.xCall e (fun _ as _ _=>Mini.onCons as (fun x _=>Mini.xEL x (fun p=>p) Zv) Zv) Zv) Zv
def Ea (σ:QE):Prop:=∃es,QS 1=.tab es/\∀lc,AG FP es=QB lc->lc < QO/\∃q oc,QS lc=.raw oc/\C9 q oc
theorem Ea.grow {σ XH:QE} {X:QC QH} (h:Ea σ) (g:YU X σ XH) (hn:1 < QO) (h1:1∉X) (hX:∀l∈X,∀o,QS l≠.raw o):Ea XH:=by
 injections σ XH X _ _ _ _ _
 obtain ⟨es,h2,h3⟩:=h
 refine ⟨es,(Q1a 1 hn h1).QR h2,?_⟩;intros lc hlc
 obtain ⟨h4,q,oc,h5,h6⟩:=(h3 lc hlc)
 exact ⟨QP h4 Q7f,q,oc,(Q1a lc h4 fun hm=>hX lc hm oc h5).QR h5,h6⟩
theorem Ue {G:Pg} {YX:Av} {n:QH} {fm:Fm} {p:Pos} {Xc:Q5C} {Yf:Qf} {Qv:Q0M} {P:QU->QE->Prop} {c0 Pt:Qq} {l:QH} {es:QC (QH×QH×QH)} (h1:QDV=[]/\QB5=[]/\(Q4p fun x=>x.2 != .QGB)=QM)
  (hcd:Q2R=.QQ c0) (htb:Q2S=QB (Pt,l)) (hhd:QDe G.K c0 Pt) (ht:QS l=.tab es) (hs:∀lc,AG p es=QB lc->∀Q9e pm ctv,P (.QQ QO) (Qw (.lam (Dz Xc Yf Qv Q9e pm ctv) lc)))
  (hn:AG p es=QG->∀oc q Q9e pm ctv,C9 q oc->P (.QQ (QO+1)) (((Yy l (.tab (es++[(p.line,p.col,QO)]))).Q9A (.raw oc)).Q9A (.lam (Dz Xc Yf Qv Q9e pm ctv) QO))):ev G YX (n+1) fm (.Lambda Xc Yf Qv p) σ P:=by
 refine af4 ⟨h1,c0,Pt,l,es,hcd,htb,hhd,ht,?_⟩
 cases e:AG p es with
 | QB lc=>exact hs lc e
 | QG=>exact hn e
theorem I9 {A B:QC QH} {la lb L1:QH} {S:QC QH} {Q:QU->QE->Prop} (hla:QS la=.Qs (Aa A)) (hlb:QS lb=.Qs (Aa B)) (lla:la < QO) (llb:lb < QO) (hA:XR<=61) (hB:Xn<=61) (jf:JF P 15 (.QQ L1) jI (fun k=>∃n,k=.i n) S σ)
  (h:∀XH l (qs:QC (QH×Ap)),Gro σ XH->QO<=l->l < Xh->X5 l=.Qs (YL fun q=>.QQ q.1)->(∀q∈qs,q.1 < Xh/\X5 q.1=.YM (AF q.2))->Gmb (Mq A B) (Uq B jN) XR Xn (YL (·.2))->Q (.QQ l) XH) :
  Ae (G P) 20 (.imm (.QQ 289)) [.QQ L1,.QQ la,.QQ lb] σ Q:=by
 refine EO (d:=15) (A:=Q9F kI) (B:=Q9G kI) (J:=jI) (ok:=fun k=>∃n,k=.i n) (S:=S) (by rw [hla,I0]) (by rw [hlb,I0]) lla llb (by rw [QK];exact Kl hA) ?_ (by rw [QK];exact Kl hB) jf ?_ ?_ ?_
 ·intro L hL
  have Q9j:=hL.inside (XQ _) (XQ _)
  have:=CJ (L:=L) (a:=0) (n:=(Q9F kI).ZT) (fun t ht=>by have:=Q9j.1 t ht;dsimp only at this;exact ⟨zq8,DK this.2.1,Lf this.2.2.2.2⟩) (Q9j.2.imp fun r=>r.1)
  rw [QK]at this
  exact abF hA this
 ·intro x hx
  refine ew1 (Z2 hx) fun k yq7G=>?_;refine an2 yq7G fun _ yq7H=>?_;obtain QA:=yq7H;clear yq7G
  exact ⟨_,QA⟩
 ·intro x hx y hy
  refine ew1 (Z2 hx) fun k yq7I=>?_;refine an2 yq7I fun _ yq7J=>?_;obtain QA:=yq7J;clear yq7I
  refine ew1 (Z2 hy) fun k yq7K=>?_;refine an2 yq7K fun _ yq7L=>?_;obtain QA:=yq7L;clear yq7K
  rfl
 ·intro XH l qs g q1 q2 q3 q4 q5
  rw [MR,MQ,QK,QK]at q5
  exact h XH l qs g q1 q2 q3 q4 q5
theorem Tt {A B:QC QH} {la lb:QH} {R:Fl->QE->Prop} (h8:QS 8=.YV (QB (.QQ la))) (h7:QS 7=.YV (QB (.QQ lb))) (hla:QS la=.Qs (Aa A)) (hlb:QS lb=.Qs (Aa B)) (lla:la < QO) (llb:lb < QO)
  (hn:9<=QO) (hA:XR<=61) (hB:Xn<=61) (ht:Ea σ)
  (k:∀XH l (qs:QC (QH×Ap)),YU [1] σ XH->(∀y:X8,y≠"due"->YA y=Xy y)->YA "due"=QB (.QQ l)->QO<=l->l < Xh->X5 l=.Qs (YL fun q=>.QQ q.1)->(∀q∈qs,q.1 < Xh/\X5 q.1=.YM (AF q.2)) ->
   Gmb (Mq A B) (Uq B jN) XR Xn (YL (·.2))->Ea XH->R .YE XH) :
  ex1 (G P) (Ae (G P) 20) 33 ⟨(fdO (AO P)).Qv,[("stops",2),("ends",3),("times",4),("dress",5),("d",6),("second",7),("first",8)],(fdO (AO P)).Q0s,QB (296,1)⟩ (bb1 0) σ R:=by
 injections P σ A B la lb R _ _ _ _ _ _ _ _ _ _ _
 conv=>arg 5;whnf
 obtain ⟨es,t1,t2⟩:=ht
 have la1:la≠1:=fun e=>by rw [e,t1]at hla;cases hla
 have lb1:lb≠1:=fun e=>by rw [e,t1]at hlb;cases hlb
 repeat keq_hits
 refine Ue (c0:=298) (Pt:=296) (l:=1) (es:=es) ⟨QA,QA,by kernel_rfl⟩ QA QA (T9 P) t1 ?_ ?_
 ·intros lc e Q9e pm ctv
  have e:AG FP es=QB lc:=e
  obtain ⟨t3,q0,oc,t4,t5⟩:=(t2 lc e)
  have hne:lc≠QO:=by exact Ag t3
  have:=R0 hn;have:=RV hn;repeat keq_hits
  refine I9 (A:=A) (B:=B) (S:=[QO,lc]) (by have:=Ag lla;kas_types) (by have:=Ag llb;kas_types) (by kwd_less) (by kwd_less) hA hB ?_ ?_
  ·exact ND (d:=14) (QY QA) (oc:=oc) (q0:=q0) (by kas_types) t5 (by kwd_less) (by kwd_less) ⟨QA,QA,QA⟩ (by kernel_rfl) (by kernel_rfl) (by kernel_rfl) (fun cdv as has=>by
    obtain (⟨x,QA⟩):=IV has
    rfl)
  intros XH l qs g q1 q2 q3 q4 q5
  have gn:=Q7f
  rw [Ab]at gn q1
  repeat keq_hits
  have gh:YU [1] σ XH:=⟨by exact GL gn,fun l hl hx=>(Q1a l (by rw [Ab];exact Le hl)).QR (QN (by exact Ag hl))⟩
  refine k _ l qs ?_ ?_ ?_ (by exact GL q1) ?_ ?_ ?_ q5 ?_
  ·repeat kwd_rel
  ·intros y hy
   rw [AT,QN hy,QAY];rfl
  ·exact DZ QA
  ·kwd_less
  ·exact q3
  ·exact q4
  ·refine ⟨es,(Q1a 1 (by rw [Ab];exact abE hn)).QR ((QN (by exact abD hn)).QR t1),?_⟩;intros lc' e'
   rw [e]at e'
   cases e'
   exact ⟨by show lc < Xh;exact RI t3 q1 q2,q0,oc,(Q1a lc (by rw [Ab];exact Le t3)).QR ((QN hne).QR t4),t5⟩
 ·intros e oc q0 Q9e pm ctv hoc
  have e:AG FP es=QG:=e
  have:=Ia hn;have:=H7 hn;repeat keq_hits
  refine I9 (A:=A) (B:=B) (S:=[QO+1,QO]) (by kas_types) (by kas_types) (by kwd_less) (by kwd_less) hA hB ?_ ?_
  ·exact ND (d:=14) (QY QA) (oc:=oc) (q0:=q0) (by kas_types) hoc (by kwd_less) (by kwd_less) ⟨QA,QA,QA⟩ (by kernel_rfl) (by kernel_rfl) (by kernel_rfl) (fun cdv as has=>by
    obtain (⟨x,QA⟩):=IV has
    rfl)
  intros XH l qs g q1 q2 q3 q4 q5
  have gn:=Q7f
  simp only [Ab,Ac]at gn q1
  repeat keq_hits
  have gh:YU [1] σ XH:=⟨by exact RH gn,fun l hl hx=>(Q1a l (by simp only [Ab,Ac];exact abC hl)).QR ((QN (by simp only [Ab,Ac];exact Fe hl)).QR ((QN (by simp only [Ab,Ac];exact Ag hl)).QR (QN (by simpa using hx))))⟩
  refine k _ l qs ?_ ?_ ?_ (by exact RH q1) ?_ ?_ ?_ q5 ?_
  ·repeat kwd_rel
  ·intros y hy
   rw [AT,QN hy,QAY];rfl
  ·exact DZ QA
  ·kwd_less
  ·exact q3
  ·exact q4
  ·refine ⟨es++[(FP.line,FP.col,QO)],(Q1a 1 (by simp only [Ab,Ac];exact abB hn)).QR ?_,fun lc' e'=>?_⟩
   rotate_left
   ·have:=HD e e'
    subst this
    refine ⟨by show QO < Xh;exact abA gn,q0,oc,(Q1a _ (by simp only [Ab,Ac];exact Md)).QR ?_,hoc⟩
    kas_types
   ·exact FQ (by have:=L7 hn;kwd_less) (FQ (by have:=L7 hn;kwd_less) (Cu QA QA))
theorem MO {A B:QC QH} {la lb ld:QH} {qs:QC (QH×Ap)} {R:Fl->QE->Prop} (h8:QS 8=.YV (QB (.QQ la))) (h7:QS 7=.YV (QB (.QQ lb))) (hla:QS la=.Qs (Aa A)) (hlb:QS lb=.Qs (Aa B)) (lla:la < QO) (llb:lb < QO)
  (hn:9<=QO) (hA:XR<=61) (hB:Xn<=61) (hd:Xy "due"=QB (.QQ ld)) (hld:QS ld=.Qs (YL fun q=>.QQ q.1)) (lld:ld < QO) (hq:∀q∈qs,q.1 < QO/\QS q.1=.YM (AF q.2)) (hG:Gmb (Mq A B) (Uq B jN) XR Xn (YL (·.2)))
  (k:∀XH,YU [] σ XH->YA=Xy->R .YE XH):ex1 (G P) (Ae (G P) 20) 32 ⟨(fdO (AO P)).Qv,[("stops",2),("ends",3),("times",4),("dress",5),("d",6),("second",7),("first",8)],(fdO (AO P)).Q0s,QB (296,1)⟩ (bb1 1) σ R:=by
 conv=>arg 5;whnf
 repeat keq_hits
 refine HX (d:=19) (qs:=qs) (a:=A) (b:=B) hld hq hla hlb lld lla llb (by exact Kl hA) (by exact Kl hB) (fun q hq'=>?_) hG.gaps fun XH g=>?_
 ·have:=NJ hG q.2 (Q0G ⟨q,hq',QA⟩);exact ⟨GQ this.1,GQ this.2⟩
 repeat keq_hits
 rw [show (!QM)=QJ from QA]
 repeat keq_hits
 exact k XH ⟨Q7f,fun l hl _=>Q1a l hl⟩ QAY
end
end
mutual
def gk (w v n m:QH) (k:QH):Yh:=.s (BW w v n m k)
theorem NI {A B:QC QH} {d0:X4} {w v n m:QH} (hA:∀k∈A,k < 7) (hB:∀k∈B,k < 7) (hw:Qr w=QM) (hv:Qr v=QM) (hn:Qr n=QJ) (hn5:n≠35) (hm:m < 3) :
  Grow (Mq A B) (Mq (Q0J (tmD d0) (gk w v n m) A) (Q0J (tmD d0) (gk w v n m) B)) (Uq B jN) (Uq (Q0J (tmD d0) (gk w v n m) B) jS) (eOf (tmD d0) A) (eOf (tmD d0) B):=by
 have:=Pf (tm:=tmD d0) (f:=fun k:QH=>k) (g:=gk w v n m) (J:=jN) (J':=jS) (a:=A) (b:=B) (Mv d0) (Mu d0) (fun x _ y _ e=>e) (fun x hx y hy e=>?_) (fun y _=>QA) (fun y hy=>?_)
 ·rwa [QFR,QFR]at this
 ·unfold gk BW at e
  injection e with e
  injection e with e
  exact O0 hw hv hn hn5 hm x y (hA x hx) (hB y hy) (by simpa using e)
 ·exact IC hw hv hn hn5 hm y (hB y hy)
end
section
variable {P:Params} {d:Nat} {σ:Mini.St}
mutual
def ES (σ:QE) (cs:QC QH):Prop:=∀c∈cs,∃u,QS c=.YV u
theorem MJ {A B:QC QH} {la lb ldr ldu:QH} {ds:QC X4} {qs:QC (QH×Ap)} {R:Fl->QE->Prop} (h8:QS 8=.YV (QB (.QQ la))) (h7:QS 7=.YV (QB (.QQ lb))) (hla:QS la=.Qs (Aa A)) (hlb:QS lb=.Qs (Aa B)) (lla:la < QO) (llb:lb < QO)
  (hn:9<=QO) (hA:XR<=61) (hB:Xn<=61) (hA7:∀k∈A,k < 7) (hB7:∀k∈B,k < 7) (hc:ES σ [2,3,4,5,6]) (hdr:Xy "dresses"=QB (.QQ ldr)) (hdl:QS ldr=.Qs (QFS .Qm)) (ldl:ldr < QO)
  (hd:Xy "due"=QB (.QQ ldu)) (hdu:QS ldu=.Qs (YL fun q=>.QQ q.1)) (ldu':ldu < QO) (hq:∀q∈qs,q.1 < QO/\QS q.1=.YM (AF q.2)) (hG:Gmb (Mq A B) (Uq B jN) XR Xn (YL (·.2)))
  (k:∀XH,YU [2,3,4,5,6] σ XH->ES XH [2,3,4,5,6]->(∀y:X8,y≠"moved"->y≠"grown"->YA y=Xy y)->R .YE XH):ex1 (G P) (Ae (G P) 20) 31 ⟨(fdO (AO P)).Qv,[("stops",2),("ends",3),("times",4),("dress",5),("d",6),("second",7),("first",8)],(fdO (AO P)).Q0s,QB (296,1)⟩ (bb1 2) σ R:=by
 injections P σ A B la lb ldr ldu ds qs R _ _ _ _ _ _ _ _ _ _ _ _ _ _ _ _ _ _ _ _ _
 conv=>arg 5;whnf
 have nol:∀ {l:QH} {xs:QC QU},QS l=.Qs xs->l∉[2,3,4,5,6]:=fun h hm=>by
  obtain (⟨u,hu⟩):=hc _ hm;rw [hu]at h;cases h
 have not':∀ {l:QH} {xs:QC QU},QS l=.YM xs->l∉[2,3,4,5,6]:=fun h hm=>by
  obtain (⟨u,hu⟩):=hc _ hm;rw [hu]at h;cases h
 have Q2Y:Q4R<=63:=by have:=KZ hG;rw [QK]at this;exact abz hA this
 repeat keq_hits
 refine Ax (fun t σ2=>YU [2,3,4,5,6] σ σ2/\ES σ2 [2,3,4,5,6]/\(∀y:X8,y≠"moved"->y≠"grown"->Q41 y=Xy y)) (fun _=>Yn) (fun _ _=>Yn) ⟨.Q1J,hc,fun _ _ _=>QA⟩ (fun t σ2 hI=>(hI.1.hp ldr ldl (nol hdl)).QR hdl) ?_ ?_ (fun _ q=>Q2i) (fun _ _ q=>Q2i)
 ·intros t x σ2 hx hI R2 hn2 u1 u2 u3
  obtain ⟨g,hc2,hl2⟩:=hI
  have gn:=Q7f
  have zO:∃d0,x=.Qm d0:=by
   obtain ⟨z,_,hz⟩:=Z2 (XG hx)
   exact ⟨z,hz.symm⟩
  obtain ⟨d0,QA⟩:=zO
  obtain ⟨u2,e2⟩:=hc2 2 (by simp)
  obtain ⟨u3,e3⟩:=hc2 3 (by simp)
  obtain ⟨u4,e4⟩:=hc2 4 (by simp)
  obtain ⟨u5,e5⟩:=hc2 5 (by simp)
  obtain ⟨u6,e6⟩:=hc2 6 (by simp)
  have b8:Z3 8=.YV (QB (.QQ la)):=(Q1a 8 (by exact Ia hn) (by simp)).QR h8
  have b7:Z3 7=.YV (QB (.QQ lb)):=(Q1a 7 (by exact H7 hn) (by simp)).QR h7
  try dsimp only
  refine Kd (l:=6) (by kln_le) e6 (by kernel_rfl) ?_
  generalize hs0:σ2.upd 6 (.YV (QB (.Qm d0)))=s0
  have G0:YU [2,3,4,5,6] σ s0:=by rw [<- hs0];exact g.upd (.inl (by simp))
  have z6:s0.hp 6=.YV (QB (.Qm d0)):=by rw [<- hs0];exact Cu QA QA
  have zn:∀c,c≠6->s0.hp c=Z3 c:=fun c hc=>by rw [<- hs0];exact QN hc
  have n0:=G0.nx
  have y0:s0.loc=Q41:=by rw [<- hs0];rfl
  refine Ar (MN z6 ((zn 5 (by exact U5)).QR e5) (by exact aby hn n0) ?_);intros s1 ld w v n m k1 g1 c5 m1 m1' hw hv hnn hn5 hm3 hld;refine AB ?_
  have n1:=g1.nx
  have G1:YU [2,3,4,5,6] σ s1:=G0.trans (g1.mono (by simp))
  refine Ar (MF (d0:=d0) ((QGg 6 (by exact RG hn n0) (by simp)).QR z6) ((QGg 4 (by exact abx hn n0) (by simp)).QR ((zn 4 (by exact Vn)).QR e4)) (by exact abw hn n0 m1 m1') ?_);intros s2 lt k2 g2 c4 m2 m2' hlt;refine AB ?_
  have n2:=Q8V
  have G2:YU [2,3,4,5,6] σ s2:=G1.trans (g2.mono (by simp))
  have d8:s2.hp 8=.YV (QB (.QQ la)):=(G2.hp 8 (by exact Ia hn) (by simp)).QR h8
  refine Ar (OK (A:=A) (tm:=tmD d0) d8 ((G2.hp la lla (nol hla)).QR hla) (by exact abv lla n0 m1 m1' m2 m2') c4 hlt m2' ((Q3h 3 (by exact abu hn n0 n1) (by simp)).QR ((QGg 3 (by exact abt hn n0) (by simp)).QR ((zn 3 (by exact abr)).QR e3))) (by exact abq hn n0 m1 m1' m2 m2') hA7 (by exact GH hA) (HC d0) ?_);intros s3 le k3 g3 c3 m3 m3' hle;refine AB ?_
  have n3:=Q9H
  have G3:YU [2,3,4,5,6] σ s3:=G2.trans (g3.mono (by simp))
  have d7:s3.hp 7=.YV (QB (.QQ lb)):=(G3.hp 7 (by exact H7 hn) (by simp)).QR h7
  refine Ar (MG (A:=B) (tm:=tmD d0) d7 ((G3.hp lb llb (nol hlb)).QR hlb) (by exact abp llb n0 m1 m1' m2 m2' m3 m3') ((Q42 4 (by exact RF hn n0 n1 n2) (by simp)).QR c4) ((Q42 lt m2' (by simp;exact RE hn n0 n1 m2)).QR hlt) (by exact H6 m2' m3 m3') ((Q42 2 (by exact abo hn n0 n1 n2) (by simp)).QR ((Q3h 2 (by exact abn hn n0 n1) (by simp)).QR ((QGg 2 (by exact abm hn n0) (by simp)).QR ((zn 2 (by exact abl)).QR e2)))) (by exact abk hn n0 m1 m1' m2 m2' m3 m3') hB7 (by exact GH hB) (HC d0) ?_);intros s4 ls k4 g4 c2 m4 m4' hls;refine AB ?_
  have n4:=g4.nx
  have G4:YU [2,3,4,5,6] σ s4:=G3.trans (g4.mono (by simp))
  have y4:s4.loc=Q41:=k4.trans (k3.trans (k2.trans (k1.trans y0)))
  have hle4:s4.hp le=.Qs (Aa ((X6 (XR+1)).map (eOf (tmD d0) A))):=(Q8W le m3' (by simp;exact abj hn n0 n1 n2 m3)).QR hle
  have w4:s4.loc "due"=QB (.QQ ldu):=by rw [y4,hl2 "due" (by simp [A8]) (by simp [A8])];exact hd
  refine Ar (MI (qs:=qs) (e:=eOf (tmD d0) A) (s:=eOf (tmD d0) B) (la:=XR) (lb:=Xn) w4 ((QGh ldu ldu' (nol hdu)).QR hdu) (by exact abi ldu' n0 m1 m1' m2 m2' m3 m3' m4 m4') (fun q h=>⟨QP (hq q h).1 G4.nx,(QGh _ (hq q h).1 (not' (hq q h).2)).QR (hq q h).2⟩) ((Q8W 3 (by exact RD hn n0 n1 n2 n3) (by simp)).QR c3) c2 hle4 hls (by exact H6 m3' m4 m4') m4' (by exact abh hn n0 m1 m1' m2 m2' m3 m3' m4 m4') (fun q h=>by have:=NJ hG q.2 (Q0G ⟨q,h,QA⟩);exact ⟨DK this.1,GQ this.2⟩) (fun i j=>by have:=BA (JX (Mv d0) A) (i:=i) (j:=i+j) (by exact Gc);exact abg this) (by exact RC hA) (by exact RC hB) (by exact abf Q2Y) ?_);intros s5 lm rs g5 k5 o5 m5 m5' hlm hrs hmap;refine AB ?_
  have n5:=g5.nx
  have G5:YU [2,3,4,5,6] σ s5:=G4.trans (g5.mono (by simp))
  have c5':s5.hp 5=.YV (QB (.QQ ld)):=(QAa 5 (by exact abe hn n0 m1 m1' m2 m2' m3 m3' m4 m4') (by simp)).QR ((Q8W 5 (by exact abd hn n0 m1 m1' m2 m2' m3 m3') (by simp)).QR ((Q42 5 (by exact abc hn n0 m1 m1' m2 m2') (by simp)).QR ((Q3h 5 (by exact abb hn n0 n1) (by simp)).QR c5)))
  have c4':s5.hp 4=.YV (QB (.QQ lt)):=(QAa 4 (by exact aba hn n0 m1 m1' m2 m2' m3 m3' m4 m4') (by simp)).QR ((Q8W 4 (by exact aa9 hn n0 m1 m1' m2 m2' m3 m3') (by simp)).QR ((Q42 4 (by exact RF hn n0 n1 n2) (by simp)).QR c4))
  have hld5:s5.hp ld=.Qs ((X6 7).map fun k=>QAb (BW w v n m k)):=(QAa ld (by exact RB m1' m2 m2' m3 m3' m4 m4') (by simp)).QR ((Q8W ld (by exact RA m1' m2 m2' m3 m3') (by simp;exact aa8 hn n0 m1)).QR ((Q42 ld (by exact H6 m1' m2 m2') (by simp;exact aa7 hn n0 m1)).QR ((Q3h ld m1' (by simp;exact aa6 hn n0 m1)).QR hld)))
  have hlt5:s5.hp lt=.Qs (Aa ((X6 7).map (tmD d0))):=(QAa lt (by exact RA m2' m3 m3' m4 m4') (by simp)).QR ((Q8W lt (by exact H6 m2' m3 m3') (by simp;exact aa5 hn n0 n1 m2)).QR ((Q42 lt m2' (by simp;exact RE hn n0 n1 m2)).QR hlt))
  refine Ar (MK (A:=A) (B:=B) (tm:=tmD d0) (gv:=fun k=>QAb (BW w v n m k)) ((G5.hp 8 (by exact Ia hn) (by simp)).QR h8) ((G5.hp 7 (by exact H7 hn) (by simp)).QR h7) c5' c4' ((G5.hp la lla (nol hla)).QR hla) ((G5.hp lb llb (nol hlb)).QR hlb) hld5 hlt5 (by exact Ry lla n0 m1 m1' m2 m2' m3 m3' m4 m4' m5 m5') (by exact Ry llb n0 m1 m1' m2 m2' m3 m3' m4 m4' m5 m5') (by exact aa4 m1' m2 m2' m3 m3' m4 m4' m5 m5') (by exact RB m2' m3 m3' m4 m4' m5 m5') (by exact aa3 hn n0 m1 m1' m2 m2' m3 m3' m4 m4' m5 m5') hA7 hB7 (by exact GH hA) (by exact GH hB) (HC d0) ?_);intros s6 l l1 l2 g6 k6 o6 m6 m6' hl q1 q2 hl1 hl2';refine AB ?_
  have n6:=g6.nx
  have G6:YU [2,3,4,5,6] σ s6:=G5.trans (g6.mono (by simp))
  have gr:=NI (A:=A) (B:=B) (d0:=d0) hA7 hB7 hw hv hnn hn5 hm3
  obtain ⟨GG,nn,hnn',hLL⟩:=(gr.gmb hG)
  refine Ar (OJ (A:=A) (B:=B) (tm:=tmD d0) (w:=w) (v:=v) (n:=n) (m:=m) o6 hl hl1 hl2' (by omega) q1 q2 ((k6 "moved" (by simp [A8])).QR o5) ((QD8 lm m5' (by simp)).QR hlm) (by exact H6 m5' m6 m6') (fun q h=>⟨QP (hrs q h).1 g6.nx,(QD8 _ (hrs q h).1 (by simp)).QR (hrs q h).2⟩) hm3 (by exact GH hA) (by exact GH hB) (HC d0) ?_ ?_ ?_)
  ·intros R' h
   rw [hmap,h.uniq GG,YZ];rfl
  ·intros L h
   have:=hLL L h;exact aa2 hA hnn' this
  intros s7 g7 k7;refine AB ?_
  have n7:=g7.nx
  have G7:YU [2,3,4,5,6] σ s7:=G6.trans (g7.mono (by simp))
  refine S3 (hn2 s7 ⟨G7,?_,?_⟩)
  ·intros c hc
   have f:∀c,c<=6->s7.hp c=s4.hp c:=fun c hc=>(g7.hp c (by exact aa1 hn n0 m1 m1' m2 m2' m3 m3' m4 m4' m5 m5' m6 m6' hc) (by simp)).QR ((QD8 c (by exact aa0 hn n0 m1 m1' m2 m2' m3 m3' m4 m4' m5 m5' hc) (by simp)).QR (QAa c (by exact aaZ hn n0 m1 m1' m2 m2' m3 m3' m4 m4' hc) (by simp)))
   simp only [QDf,QBR,or_false]at hc
   rcases hc with QA | QA | QA | QA | QA
   ·exact ⟨_,(f 2 (by exact aaY)).QR c2⟩
   ·exact ⟨_,(f 3 (by exact aaX)).QR ((Q8W 3 (by exact RD hn n0 n1 n2 n3) (by simp)).QR c3)⟩
   ·exact ⟨_,(g7.hp 4 (by exact aaW hn n0 m1 m1' m2 m2' m3 m3' m4 m4' m5 m5' m6 m6') (by simp)).QR ((QD8 4 (by exact aaV hn n0 m1 m1' m2 m2' m3 m3' m4 m4' m5 m5') (by simp)).QR c4')⟩
   ·exact ⟨_,(g7.hp 5 (by exact aaU hn n0 m1 m1' m2 m2' m3 m3' m4 m4' m5 m5' m6 m6') (by simp)).QR ((QD8 5 (by exact aaT hn n0 m1 m1' m2 m2' m3 m3' m4 m4' m5 m5') (by simp)).QR c5')⟩
   ·exact ⟨_,(f 6 (by exact aaS)).QR ((Q8W 6 (by exact aaR hn n0 m1 m1' m2 m2' m3 m3') (by simp)).QR ((Q42 6 (by exact aaQ hn n0 m1 m1' m2 m2') (by simp)).QR ((Q3h 6 (by exact aaP hn n0 m1 m1') (by simp)).QR ((QGg 6 (by exact RG hn n0) (by simp)).QR z6))))⟩
  ·intros y hy hy'
   rw [k7,k6 y hy',k5 y hy,y4,hl2 y hy hy']
 ·intros σ2 hI
  obtain ⟨g,hc2,hl2⟩:=hI
  exact k σ2 g hc2 hl2
end
end
section
variable {P:Params} {d:Nat} {σ:Mini.St}
theorem MH {A B:List Nat} {la lb ldr:Nat} {ds:List Int} {R:Fl->Mini.St->Prop} (ha:σ.loc "a"=some (.ref la)) (hb:σ.loc "b"=some (.ref lb)) (hla:σ.hp la=.list (Aa A)) (hlb:σ.hp lb=.list (Aa B)) (lla:la < σ.nx) (llb:lb < σ.nx)
  (hn:9<=σ.nx) (hA:A.length<=61) (hB:B.length<=61) (hA7:∀k∈A,k < 7) (hB7:∀k∈B,k < 7) (hc:ES σ [2,3,4,5,6,7,8]) (ht:Ea σ) (hdr:σ.loc "dresses"=some (.ref ldr)) (hdl:σ.hp ldr=.list (ds.map .int)) (ldl:ldr < σ.nx)
  (k:∀σ',GroH [1,2,3,4,5,6,7,8] σ σ'->(∃es,σ'.hp 1=.tab es)->σ'.loc "dresses"=some (.ref ldr)->R .next σ'):ex1 (G P) (Ae (G P) 20) 35 ⟨(fdO (AO P)).scope,[("stops",2),("ends",3),("times",4),("dress",5),("d",6),("second",7),("first",8)],(fdO (AO P)).code,some (296,1)⟩ (lst 4) σ R:=by
 injections P σ A B la lb ldr ds R _ _ _ _ _ _ _ _ _ _ _ _ _ _ _ _ _
 conv=>arg 5;whnf
 have nol:∀ {l:Nat} {xs:List Val},σ.hp l=.list xs->l∉[1,2,3,4,5,6,7,8]:=fun h hm=>by
  rcases List.mem_cons.mp hm with rfl | hm
  ·obtain (⟨es,e,_⟩):=ht;rw [e]at h;cases h
  ·obtain (⟨u,hu⟩):=hc _ hm;rw [hu]at h;cases h
 have lla9:la∉[1,2,3,4,5,6,7,8]:=nol hla
 have llb9:lb∉[1,2,3,4,5,6,7,8]:=nol hlb
 have ldr9:ldr∉[1,2,3,4,5,6,7,8]:=nol hdl
 repeat keq_hits
 have gS:GroH [] σ (((σ.alloc (Ob.tuple [Val.ref la,Val.ref lb])).alloc (Ob.tuple [Val.ref lb,Val.ref la])).alloc (Ob.list [Val.ref σ.nx,Val.ref (σ.alloc (Ob.tuple [Val.ref la,Val.ref lb])).nx])):=by repeat kwd_rel
 have S0:((((σ.alloc (Ob.tuple [Val.ref la,Val.ref lb])).alloc (Ob.tuple [Val.ref lb,Val.ref la])).alloc (Ob.list [Val.ref σ.nx,Val.ref (σ.alloc (Ob.tuple [Val.ref la,Val.ref lb])).nx])):Mini.St).hp σ.nx=.tuple [.ref la,.ref lb]:=by kas_types
 have S1:((((σ.alloc (Ob.tuple [Val.ref la,Val.ref lb])).alloc (Ob.tuple [Val.ref lb,Val.ref la])).alloc (Ob.list [Val.ref σ.nx,Val.ref (σ.alloc (Ob.tuple [Val.ref la,Val.ref lb])).nx])):Mini.St).hp (σ.nx+1)=.tuple [.ref lb,.ref la]:=by kas_types
 have S2:((((σ.alloc (Ob.tuple [Val.ref la,Val.ref lb])).alloc (Ob.tuple [Val.ref lb,Val.ref la])).alloc (Ob.list [Val.ref σ.nx,Val.ref (σ.alloc (Ob.tuple [Val.ref la,Val.ref lb])).nx])):Mini.St).hp (σ.nx+2)=.list [.ref σ.nx,.ref (σ.nx+1)]:=by kas_types
 have Sl:((((σ.alloc (Ob.tuple [Val.ref la,Val.ref lb])).alloc (Ob.tuple [Val.ref lb,Val.ref la])).alloc (Ob.list [Val.ref σ.nx,Val.ref (σ.alloc (Ob.tuple [Val.ref la,Val.ref lb])).nx])):Mini.St).loc=σ.loc:=rfl
 have Sn:((((σ.alloc (Ob.tuple [Val.ref la,Val.ref lb])).alloc (Ob.tuple [Val.ref lb,Val.ref la])).alloc (Ob.list [Val.ref σ.nx,Val.ref (σ.alloc (Ob.tuple [Val.ref la,Val.ref lb])).nx])):Mini.St).nx=σ.nx+3:=rfl
 show AS (fun σ_1=>σ_1.hp (σ.nx+2)=Ob.list [Val.ref σ.nx,Val.ref (σ.nx+1)]) _ [Val.ref σ.nx,Val.ref (σ.nx+1)] _ _
 generalize (((σ.alloc (Ob.tuple [Val.ref la,Val.ref lb])).alloc (Ob.tuple [Val.ref lb,Val.ref la])).alloc (Ob.list [Val.ref σ.nx,Val.ref (σ.alloc (Ob.tuple [Val.ref la,Val.ref lb])).nx]))=S at gS S0 S1 S2 Sl Sn ⊢
 refine Ax (fun t σ2=>GroH [1,2,3,4,5,6,7,8] S σ2/\ES σ2 [2,3,4,5,6,7,8]/\Ea σ2/\σ2.loc "dresses"=some (.ref ldr)) (fun _=>False) (fun _ _=>False) ⟨.refl,?_,ht.grow gS (by exact L7 hn) (by simp) (fun l hl=>by cases hl),by rw [Sl];exact hdr⟩ (fun t σ2 hI=>(hI.1.hp _ (by exact Se Sn) (by simp;exact ⟨aaO hn,aaN hn,aaM hn,aaL hn,aaK hn,aaI hn,aaH hn⟩)).trans S2) ?_ ?_ (fun _ q=>q.elim) (fun _ _ q=>q.elim)
 ·intros c hc'
  obtain ⟨u,hu⟩:=hc c hc'
  refine ⟨u,(gS.hp c ?_ (by simp)).trans hu⟩
  exact Nat.lt_of_lt_of_le (KW hc').2 hn
 ·intros t x σ2 hx hI R2 hn2 u1 u2 u3
  obtain ⟨g,hc2,ht2,hl2⟩:=hI
  have gn:=g.nx
  have zO:∃tp l1 l2 C D,x=.ref tp/\tp < S.nx/\9<=tp/\S.hp tp=.tuple [.ref l1,.ref l2]/\l1 < S.nx/\l2 < S.nx/\l1∉[1,2,3,4,5,6,7,8]/\l2∉[1,2,3,4,5,6,7,8]/\S.hp l1=.list (Aa C)/\S.hp l2=.list (Aa D)/\C.length<=61/\D.length<=61/\(∀k∈C,k < 7)/\(∀k∈D,k < 7):=by
   match t,hx with
   | 0,hx=>cases hx;exact ⟨σ.nx,la,lb,A,B,rfl,by exact aaG Sn,hn,S0,by exact Ez lla Sn,by exact Ez llb Sn,lla9,llb9,(gS.hp la lla (by simp)).trans hla,(gS.hp lb llb (by simp)).trans hlb,hA,hB,hA7,hB7⟩
   | 1,hx=>cases hx;exact ⟨σ.nx+1,lb,la,B,A,rfl,by exact aaF Sn,by exact aaE hn,S1,by exact Ez llb Sn,by exact Ez lla Sn,llb9,lla9,(gS.hp lb llb (by simp)).trans hlb,(gS.hp la lla (by simp)).trans hla,hB,hA,hB7,hA7⟩
  obtain ⟨tp,l1,l2,C,D,rfl,tp1,tp2,tp3,q1,q2,q3,q4,q5,q6,r1,r2,r3,r4⟩:=zO
  obtain ⟨u8,e8⟩:=hc2 8 (by simp)
  obtain ⟨u7,e7⟩:=hc2 7 (by simp)
  try dsimp only
  refine PK rfl (Ms ((g.hp tp tp1 (by simp;exact ⟨U4 tp2,U3 tp2,U2 tp2,U1 tp2,U0 tp2,UZ tp2,UY tp2,UX tp2⟩)).trans tp3) rfl (II (Kd (l:=8) (by kln_le) e8 (by kernel_rfl) (II (Kd (l:=7) (by kln_le) (Ct (by exact Vm) e7) (by kernel_rfl) (O1 ?_))))))
  have g0:GroH [7,8] σ2 ((σ2.upd 8 (.cell (some (.ref l1)))).upd 7 (.cell (some (.ref l2)))):=by repeat kwd_rel
  have z8:((σ2.upd 8 (.cell (some (.ref l1)))).upd 7 (.cell (some (.ref l2)))).hp 8=.cell (some (.ref l1)):=Ct (by exact Vl) (Cu rfl rfl)
  have z7:((σ2.upd 8 (.cell (some (.ref l1)))).upd 7 (.cell (some (.ref l2)))).hp 7=.cell (some (.ref l2)):=Cu rfl rfl
  have zl:((σ2.upd 8 (.cell (some (.ref l1)))).upd 7 (.cell (some (.ref l2)))).loc=σ2.loc:=rfl
  generalize ((σ2.upd 8 (.cell (some (.ref l1)))).upd 7 (.cell (some (.ref l2))))=s0 at g0 z8 z7 zl ⊢
  have n0:=g0.nx
  have G0:GroH [1,2,3,4,5,6,7,8] S s0:=g.trans (g0.mono (by simp))
  have t0:Ea s0:=by
   refine ht2.grow g0 (by exact aaD hn Sn gn) (by simp) ?_
   intros l hl o h
   obtain ⟨u,hu⟩:=hc2 l (aiK hl)
   rw [hu]at h;cases h
  refine Ar (Tt (A:=C) (B:=D) z8 z7 ((G0.hp l1 q1 q3).trans q5) ((G0.hp l2 q2 q4).trans q6) (by exact Rx gn q1 n0) (by exact Rx gn q2 n0) (by exact aaB hn Sn gn n0) r1 r2 t0 ?_);intros s1 ldu qs g1 k1 o1 m1 m1' hdu hqs hG t1;refine AB ?_
  have n1:=g1.nx
  have G1:GroH [1,2,3,4,5,6,7,8] S s1:=G0.trans (g1.mono (by simp))
  have z8':s1.hp 8=.cell (some (.ref l1)):=(g1.hp 8 (by exact aaA hn Sn gn n0) (by simp)).trans z8
  have z7':s1.hp 7=.cell (some (.ref l2)):=(g1.hp 7 (by exact aaz hn Sn gn n0) (by simp)).trans z7
  refine Ar (MO (A:=C) (B:=D) (qs:=qs) z8' z7' ((G1.hp l1 q1 q3).trans q5) ((G1.hp l2 q2 q4).trans q6) (by exact Rw gn q1 n0 m1 m1') (by exact Rw gn q2 n0 m1 m1') (by exact aay hn Sn gn n0 m1 m1') r1 r2 o1 hdu m1' hqs hG ?_);intros s2 g2 k2;refine AB ?_
  have n2:=g2.nx
  have G2:GroH [1,2,3,4,5,6,7,8] S s2:=G1.trans (g2.mono (by simp))
  have c26:ES s2 [2,3,4,5,6]:=by
   intros c hc'
   obtain ⟨u,hu⟩:=hc2 c (afV hc').1
   have hc9:=(afV hc').2
   exact ⟨u,(g2.hp c (by exact aax hn Sn gn n0 m1 m1' hc9.2.2.2) (by simp)).trans ((g1.hp c (by exact aaw hn Sn gn n0 hc9.2.2.2) (by simp;exact aav hc9.1)).trans ((g0.hp c (by exact aau hn Sn gn hc9.2.2.2) (by simp;exact ⟨aas hc9.2.1,aar hc9.2.2.1⟩)).trans hu))⟩
  have dl:s2.loc "dresses"=some (.ref ldr):=by rw [k2,k1 "dresses" (by simp [A8]),zl];exact hl2
  refine Ar (MJ (A:=C) (B:=D) (ds:=ds) (qs:=qs) ((g2.hp 8 (by exact Rv hn Sn gn n0 m1 m1') (by simp)).trans z8') ((g2.hp 7 (by exact Ru hn Sn gn n0 m1 m1') (by simp)).trans z7') ((G2.hp l1 q1 q3).trans q5) ((G2.hp l2 q2 q4).trans q6) (by exact Rt gn q1 n0 m1 m1' n2) (by exact Rt gn q2 n0 m1 m1' n2) (by exact aaq hn Sn gn n0 m1 m1' n2) r1 r2 r3 r4 c26 dl ((G2.hp ldr (by exact Ez ldl Sn) ldr9).trans ((gS.hp ldr ldl (by simp)).trans hdl)) (by exact aap ldl Sn gn n0 m1 m1' n2) (by rw [k2];exact o1) ((g2.hp ldu m1' (by simp)).trans hdu) (by exact B8 m1' n2) (fun q h=>⟨Nat.lt_of_lt_of_le (hqs q h).1 g2.nx,(g2.hp _ (hqs q h).1 (by simp)).trans (hqs q h).2⟩) hG ?_);intros s3 g3 c3 k3;refine AB ?_
  have n3:=g3.nx
  refine S3 (hn2 s3 ⟨G2.trans (g3.mono (by simp)),?_,?_,?_⟩)
  ·intros c hc'
   by_cases h6:c<=6
   ·exact c3 c (T8 (KW hc').1 h6)
   ·rcases aiJ (Nat.lt_of_not_le h6) (KW hc').2 with rfl | rfl
    ·exact ⟨_,(g3.hp 7 (by exact aao hn Sn gn n0 m1 m1' n2) (by simp)).trans ((g2.hp 7 (by exact Ru hn Sn gn n0 m1 m1') (by simp)).trans z7')⟩
    ·exact ⟨_,(g3.hp 8 (by exact aan hn Sn gn n0 m1 m1' n2) (by simp)).trans ((g2.hp 8 (by exact Rv hn Sn gn n0 m1 m1') (by simp)).trans z8')⟩
  ·refine (t1.grow g2 (by exact aal hn Sn gn n0 n1) (by simp) (fun l hl=>by cases hl)).grow g3 (by exact aak hn Sn gn n0 n1 n2) (by simp) ?_;intros l hl o h
   obtain ⟨u,hu⟩:=c26 l hl
   rw [hu]at h;cases h
  ·rw [k3 "dresses" (by simp [A8]) (by simp [A8])];exact dl
 ·intros σ2 hI
  obtain ⟨g,hc2,⟨es,e1,_⟩,hl2⟩:=hI
  exact k σ2 ((gS.mono (by simp)).trans g) ⟨es,e1⟩ hl2
end
section
variable {P:Params} {d:Nat} {σ:Mini.St}
mutual
theorem I2 {G:Pg} {YX:Av} {n:QH} {fm:Fm} {c:Qu} {b o:Qf} {Q:QU->QE->Prop} (h:∀Rz:QU->QE->Prop,(∀z:X4,Rz (.Qm z) σ)->(c=QM->ev G YX n fm b σ Rz)/\(c=QJ->ev G YX n fm o σ Rz)) (k:∀z:X4,Q (.Qm z) σ) :
  (c=QM->ev G YX n fm b σ Q)/\(c=QJ->ev G YX n fm o σ Q):=h Q k
theorem Lz {G:Pg} {YX:Av} {n:QH} {fm:Fm} {c:Qu} {b o:Qf} {Q:QU->QE->Prop} (K:QH->QE->Prop) (h:∀Rz:QU->QE->Prop,(∀l XH,K l XH->Rz (.QQ l) XH)->(c=QM->ev G YX n fm b σ Rz)/\(c=QJ->ev G YX n fm o σ Rz)) (k:∀l XH,K l XH->Q (.QQ l) XH) :
  (c=QM->ev G YX n fm b σ Q)/\(c=QJ->ev G YX n fm o σ Q):=h Q k
theorem Js {ps:QC (X4×Tok)} {R:Fl->QE->Prop} (hs:Xy "script"=QB (.QQ 0)) (h0:QS 0=.Q4t ps 0) (hl:Zj<=63) (hn:9<=QO)
  (k:∀XH l (ds:QC X4),YU [] σ XH->(∀y:X8,y≠"dresses"->YA y=Xy y)->YA "dresses"=QB (.QQ l)->l < Xh->X5 l=.Qs (QFS .Qm)->R .YE XH):ex1 (G P) (Ae (G P) 20) 39 ⟨(fdO (AO P)).Qv,[("stops",2),("ends",3),("times",4),("dress",5),("d",6),("second",7),("first",8)],(fdO (AO P)).Q0s,QB (296,1)⟩ (lst 0) σ R:=by
 injections P σ ps R _ _ _ _ _
 conv=>arg 5;whnf
 repeat keq_hits
 refine NP ?_
 repeat keq_hits
 refine Mz h0 (by rw [XA];exact Kk hl) ?_
 refine I2 (fun Rz hz=>BE (fun q=>?_) (fun q=>?_)) ?_
 ·have:0 < Zj:=by cases ps with | Zo=>simp at q | Xx a r=>simp
  repeat keq_hits
  refine IG (k:=0) h0 QA (Qg this) (by decide) ?_
  exact hz _
 ·repeat keq_hits
  exact hz _
 intros z
 repeat keq_hits
 refine NP ?_
 repeat keq_hits
 refine Jf h0 (by rw [XA];exact Kk hl) ?_
 repeat keq_hits
 refine I2 (fun Rz hz=>BE (fun q=>?_) (fun q=>?_)) ?_
 ·have:1 < Zj:=by have:=YG q;exact (Ym this)
  repeat keq_hits
  refine IG (k:=1) h0 QA (Qg this) (by decide) ?_
  exact hz _
 ·repeat keq_hits
  exact hz _
 intros z'
 repeat keq_hits
 refine k _ QO [9540+z,2341818+z'] ?_ ?_ ?_ ?_ ?_
 ·repeat kwd_rel
 ·intros y hy
  rw [AT,QN hy];rfl
 ·exact DZ QA
 ·kwd_less
 ·exact HN (D3 QA QA)
theorem Jr {ps:QC (X4×Tok)} {R:Fl->QE->Prop} (hs:Xy "script"=QB (.QQ 0)) (h0:QS 0=.Q4t ps 0) (hl:Zj<=63) (hn:9<=QO)
  (k:∀XH l (ws:QC X4),YU [] σ XH->(∀y:X8,y≠"numbers"->YA y=Xy y)->YA "numbers"=QB (.QQ l)->l < Xh->X5 l=.Qs (QD4 .Qm)->Q4S<=61->R .YE XH):ex1 (G P) (Ae (G P) 20) 38 ⟨(fdO (AO P)).Qv,[("stops",2),("ends",3),("times",4),("dress",5),("d",6),("second",7),("first",8)],(fdO (AO P)).Q0s,QB (296,1)⟩ (lst 1) σ R:=by
 injections P σ ps R _ _ _ _ _
 conv=>arg 5;whnf
 repeat keq_hits
 refine MS (p:=QB 2) (q:=QG) (r:=QG) h0 QA QA QA (by simp) (by rw [XA];exact Kk hl) ?_
 have e:Bm (Q15 fun p=>Q13 p.1) (QB 2) QG QG=((Q15 (·.1)).Q9a 2).map Q13:=by
  have:=Ls (Q15 fun p=>Q13 p.1) 2
  refine (show Bm (Q15 fun p=>Q13 p.1) (QB 2) QG QG=_ from this).QR ?_
  rw [QDd,YZ];rfl
 rw [e]
 refine NP ?_
 repeat keq_hits
 refine Jf (ps:=ps) (m:=0) (by have:=aaj hn;kas_types) (by rw [XA];exact Kk hl) ?_
 repeat keq_hits
 refine Lz (fun l XH=>YU [] (Qw (.Qs (((Q15 (·.1)).Q9a 2).map Q13))) XH/\YA=Xy/\l < Xh/\∃zs:QC X4,X5 l=.Qs (zs.map .Qm)/\(zs=[]\/(Zj < 9/\zs.length=13))) (fun Rz hz=>BE (fun q=>?_) (fun q=>?_)) ?_
 ·have hlt:Zj < 9:=by have:=YG q;exact (Ym this)
  repeat keq_hits
  refine hz _ _ ⟨?_,QA,?_,[2,20,24,1,4,16,10,12,20,9,17,26,4],QY QA,.inr ⟨hlt,QA⟩⟩
  ·repeat kwd_rel
  ·kwd_less
 ·repeat keq_hits
  refine hz _ _ ⟨?_,QA,?_,[],QY QA,.inl QA⟩
  ·repeat kwd_rel
  ·kwd_less
 ·intros l XH hK
  obtain ⟨g,k1,k2,zs,k3,k4⟩:=hK
  have gn:=Q7f
  rw [Ab]at gn
  have hz:zs.length<=13:=by
   rcases k4 with QA | zR
   ·simp
   ·obtain ⟨_,h⟩:=zR
    exact aai h
  have d0:X5 QO=.Qs (((Q15 (·.1)).Q9a 2).map Q13):=(Q1a _ (by rw [Ab];exact Hq) (by simp)).QR (QY QA)
  refine J9 d0 k3 ?_ ?_
  ·rw [QK,QK,Q1j,QK,XA];exact aah hl hz
  repeat keq_hits
  refine k _ Xh ((Q15 (·.1)).Q9a 2++zs) ?_ ?_ ?_ ?_ ?_ ?_
  ·have:YU [] σ XH:=by
    refine Q2h ?_ g
    repeat kwd_rel
   repeat kwd_rel
  ·intros y hy
   rw [AT,QN hy,DN,k1]
  ·exact DZ QA
  ·kwd_less
  ·rw [Qt];exact HN (D3 QA QA)
  ·rw [Xz,Q1j,QK]
   rcases k4 with QA | zR
   ·simp;exact hl
   ·obtain ⟨h1,h2⟩:=zR
    exact aag h1 h2
def kOf (x:X4):QH:=((QGz 4).fmod 7).Q1Z
theorem T4 (x:X4):kOf x < 7:=by
 exact (FW (b:=7) (AV (QGz 4) (by decide))).2
theorem NB (x:X4):(QGz 4).fmod 7=((kOf x:QH):X4):=by
 exact (FW (b:=7) (AV (QGz 4) (by decide))).1
def CN (c:X4) (ws:QC X4):QC QH:=(ws.filter fun x=>x.fmod 4 != c).map kOf
theorem IF (c:X4) (ws:QC X4):∀k∈CN c ws,k < 7:=by
 intro k hk
 refine ew1 (Z2 hk) fun x yq87=>?_;refine an2 yq87 fun _ yq88=>?_;obtain QA:=yq88;clear yq87
 exact T4 x
theorem De (c:X4) (ws:QC X4):(CN c ws).ZT<=Q4S:=by
 unfold CN;rw [QK];exact Q49 ..
theorem FC (c:X4) (ws:QC X4) (i:QH) (h:i < Q4S):CN c (QAc (i+1))=CN c (QAc i)++(if (ws[i].fmod 4 != c)=QM then [kOf ws[i]] else []):=by
 unfold CN
 rw [Q00,Qg h,Q5b,Qt]
 congr 1
 by_cases q:(ws[i].fmod 4 != c)=QM
 ·rw [QY q];simp [Q1n,q]
 ·rw [QN q];simp [Q1n,q]
theorem ahH {lw:QH} {ws:QC X4} {R:Fl->QE->Prop} (hs:Xy "numbers"=QB (.QQ lw)) (h0:QS lw=.Qs (QD4 .Qm)) (lw':lw < QO) (hl:Q4S<=61) (hn:9<=QO)
  (k:∀XH l,YU [] σ XH->(∀y:X8,y≠"a"->YA y=Xy y)->YA "a"=QB (.QQ l)->l < Xh->X5 l=.Qs (Aa (CN 2 ws))->R .YE XH):ex1 (G P) (Ae (G P) 20) 37 ⟨(fdO (AO P)).Qv,[("stops",2),("ends",3),("times",4),("dress",5),("d",6),("second",7),("first",8)],(fdO (AO P)).Q0s,QB (296,1)⟩ (lst 2) σ R:=by
 injections P σ lw ws R _ _ _ _ _ _
 conv=>arg 5;whnf
 refine Dc QA [] (by kernel_rfl) (by kernel_rfl) ?_
 repeat keq_hits
 refine Dn (fun i vs _ _=>vs=Aa (CN 2 (QAc i))) lw' h0 QA ?_ ?_
 ·intros i x XH vs hx g' h1' h2' h3' R' hR'
  have zO:∃hi:i < Q4S,x=.Qm ws[i]:=by
   rw [QT]at hx
   cases e:ws[i]? with
   | QG=>rw [e]at hx;cases hx
   | QB z =>
    injections z zI
    rw [e]at hx
    obtain ⟨hi,hz⟩:=QX e
    exact ⟨hi,by rw [hz];exact (X2 hx).Q37⟩
  obtain ⟨hi,QA⟩:=zO
  have gn':=Q52
  have hle:=De 2 (QAc i)
  rw [Xo]at hle
  have hsn:=FC 2 ws i hi
  dsimp only
  repeat keq_hits
  refine Aw ?_ ?_
  ·intros q
   rw [QY q]at hsn
   repeat keq_hits
   refine pap (xs:=vs) ?_ ?_ ?_
   ·kas_types
   ·rw [h3'];unfold Aa;rw [QK,XA];exact Qz hle (Qz (Q0E _ _) (Qz hl (YB QA)))
   refine hR' _ _ ?_ ?_ (QY QA) ?_
   ·repeat kwd_rel
   ·kwd_less
   ·rw [h3',hsn];unfold Aa;rw [Qt,NB];rfl
  ·intros q
   rw [QN (by rw [q];simp)]at hsn
   repeat keq_hits
   refine hR' _ _ ?_ ?_ h2' ?_
   ·repeat kwd_rel
   ·kwd_less
   ·rw [h3',hsn,Q3N]
 ·intros XH vs e1 g' h1' h2' h3'
  rw [QK,Q0u]at h3'
  have gn':=Q52
  repeat keq_hits
  refine k _ QO ?_ ?_ ?_ ?_ ?_
  ·repeat kwd_rel
  ·intros y hy
   rw [AT,QN hy,e1]
  ·exact DZ QA
  ·kwd_less
  ·rw [<- h3'];exact HN h2'
theorem ahG {lw:QH} {ws:QC X4} {R:Fl->QE->Prop} (hs:Xy "numbers"=QB (.QQ lw)) (h0:QS lw=.Qs (QD4 .Qm)) (lw':lw < QO) (hl:Q4S<=61) (hn:9<=QO)
  (k:∀XH l,YU [] σ XH->(∀y:X8,y≠"b"->YA y=Xy y)->YA "b"=QB (.QQ l)->l < Xh->X5 l=.Qs (Aa (CN 1 ws))->R .YE XH):ex1 (G P) (Ae (G P) 20) 36 ⟨(fdO (AO P)).Qv,[("stops",2),("ends",3),("times",4),("dress",5),("d",6),("second",7),("first",8)],(fdO (AO P)).Q0s,QB (296,1)⟩ (lst 3) σ R:=by
 conv=>arg 5;whnf
 refine Dc QA [] (by kernel_rfl) (by kernel_rfl) ?_
 repeat keq_hits
 refine Dn (fun i vs _ _=>vs=Aa (CN 1 (QAc i))) lw' h0 QA (fun i x XH vs hx g' h1' h2' h3' R' hR'=>?_) (fun XH vs e1 g' h1' h2' h3'=>?_)
 ·obtain ⟨hi,QA⟩:∃hi:i < Q4S,x=.Qm ws[i]:=by
   rw [QT]at hx
   cases e:ws[i]? with
   | QG=>rw [e]at hx;cases hx
   | QB z =>
    rw [e]at hx
    obtain (⟨hi,hz⟩):=QX e
    exact ⟨hi,by rw [hz];exact (X2 hx).Q37⟩
  have gn':=Q52
  have hle:=De 1 (QAc i)
  rw [Xo]at hle
  have hsn:=FC 1 ws i hi
  dsimp only
  repeat keq_hits
  refine Aw (fun q=>?_) (fun q=>?_)
  ·rw [QY q]at hsn
   repeat keq_hits
   refine pap (xs:=vs) ?_ ?_ ?_
   ·kas_types
   ·rw [h3'];unfold Aa;rw [QK,XA];exact Qz hle (Qz (Q0E _ _) (Qz hl (YB QA)))
   refine hR' _ _ ?_ ?_ (QY QA) ?_
   ·repeat kwd_rel
   ·kwd_less
   ·rw [h3',hsn];unfold Aa;rw [Qt,NB];rfl
  ·rw [QN (by rw [q];simp)]at hsn
   repeat keq_hits
   refine hR' _ _ ?_ ?_ h2' ?_
   ·repeat kwd_rel
   ·kwd_less
   ·rw [h3',hsn,Q3N]
 ·rw [QK,Q0u]at h3'
  have gn':=Q52
  repeat keq_hits
  refine k _ QO ?_ ?_ ?_ ?_ ?_
  ·repeat kwd_rel
  ·intro y hy
   rw [AT,QN hy,e1]
  ·exact DZ QA
  ·kwd_less
  ·rw [<- h3'];exact HN h2'
end
end
section
variable {P:Params} {d:Nat} {σ:Mini.St}
mutual
theorem ML {ldr:QH} {ds:QC X4} {R:Fl->QE->Prop} (hdr:Xy "dresses"=QB (.QQ ldr)) (hdl:QS ldr=.Qs (QFS .Qm)) (ldl:ldr < QO) (hn:9<=QO) (k:∀XH,YU [] σ XH->R (.ret (.Ys QM)) XH):ex1 (G P) (Ae (G P) 20) 34 ⟨(fdO (AO P)).Qv,[("stops",2),("ends",3),("times",4),("dress",5),("d",6),("second",7),("first",8)],(fdO (AO P)).Q0s,QB (296,1)⟩ (lst 5) σ R:=by
 injections P σ ldr ds R _ _ _ _ _
 conv=>arg 5;whnf
 repeat keq_hits
 refine Dm [] (by kernel_rfl) (by kernel_rfl) ?_
 repeat keq_hits
 refine K5 (Xr:=QFS .Qm) hdl ?_
 unfold CO
 refine Ax (fun t σ2=>YU [] σ σ2/\QO < Q02/\Z3 QO=.Qs []) (fun _=>Yn) (fun _ _=>Yn) ?_ (fun t σ2 hI=>(hI.1.hp ldr ldl (by simp)).QR hdl) ?_ ?_ (fun _ q=>Q2i) (fun _ _ q=>Q2i)
 ·exact ⟨⟨Q0N _,fun l' hl' _=>QN (Xv hl')⟩,Xu _,QY QA⟩
 ·intros t x σ2 hx hI R2 hn2 u1 u2 u3
  obtain ⟨g2,hx2,hac⟩:=hI
  have zO:∃d0,x=.Qm d0:=by
   obtain ⟨z,_,hz⟩:=Z2 (XG hx)
   exact ⟨z,hz.symm⟩
  obtain ⟨d0,QA⟩:=zO
  have gn2:=Q8V
  try dsimp only
  repeat keq_hits
  refine ⟨QA,?_⟩
  repeat keq_hits
  refine S7 (n:=7) (QY QA) (by exact UW) ?_
  unfold CO
  refine Ax (fun j σ3=>YU [] σ σ3/\QO < Q0l/\Q4s QO=.Qs []/\Q1Q "d"=QB (.Qm d0)) (fun _=>Yn) (fun _ _=>Yn) ?_ (fun _ _ _=>ZQ) ?_ ?_ (fun _ q=>Q2i) (fun _ _ q=>Q2i)
  ·refine ⟨?_,?_,?_,?_⟩
   ·repeat kwd_rel
   ·kwd_less
   ·kas_types
   ·keq_rows
  ·intros j x σ3 hx3 hI R3 hn3 u4 u5 u6
   obtain ⟨g3,QDB,hac3,hd3⟩:=hI
   obtain ⟨hj,QA⟩:=ID hx3
   have gn3:=Q9H
   dsimp only
   repeat keq_hits
   refine F4 (d:=19) ?_;intros σ4 l w v n m g4 k1 k2 hw hv hnn hn5 hm3 hld
   have gn4:Q0l<=QD9:=g4.nx
   have y4:σ4.loc "k"=QB (.Qm (j:QH)):=by rw [g4.loc];keq_rows
   have y5:σ4.loc "d"=QB (.Qm d0):=by rw [g4.loc];keq_rows
   repeat keq_hits
   refine Ao (k:=j) (v:=.Xt (BW w v n m j)) hld QA (by rw [QT,Yj hj];rfl) (by exact H8 hj) ?_
   repeat keq_hits
   refine Jh (d:=18) ?_ ?_
   ·have:(BW w v n m j).QGf<=5:=by
     show (DS w v n m j).QAW<=5
     rw [XW]
     exact IB hm3 j
    exact RJ this
   intros σ5 g5
   have gn5:=g5.nx
   have y6:Q3O "k"=QB (.Qm (j:QH)):=by rw [g5.loc];exact y4
   have y7:Q3O "d"=QB (.Qm d0):=by rw [g5.loc];exact y5
   have hj':rxJ (BW w v n m j).cps=XY ((2:X4) < (j:QH)):=by
    have:=IC hw hv hnn hn5 hm3 j hj
    show rxJ (DS w v n m j).Xe=_
    rw [this]
    exact Q1P (QFQ (n:=2)).Q37
   repeat keq_hits
   rw [hj',beq_self_eq_true,show (!QM)=QJ from QA]
   repeat keq_hits
   have G4:YU [] σ σ4:=⟨by exact Rs QDB gn4,fun l hl _=>(Q8W l (by show l < Q0l;exact Dr QDB hl)).QR (Q42 l hl (by simp))⟩
   refine hn3 σ5 ⟨⟨by exact aaf QDB gn4 gn5,fun l hl hx=>(QAa l (by exact aae QDB gn4 hl)).QR (QGh l hl hx)⟩,by exact Rr QDB gn4 gn5,(QAa _ (by exact B8 QDB gn4)).QR ((Q8W _ (by show QO < Q0l;omega)).QR hac3),y7⟩
  ·intros σ3 hI
   obtain ⟨g3,QDB,hac3,hd3⟩:=hI
   exact hn2 _ ⟨g3,QDB,hac3⟩
 ·intros σ2 hI
  obtain ⟨g2,hx2,hac⟩:=hI
  have gn2:=Q8V
  try dsimp only
  repeat keq_hits
  refine N8 ?_ ?_ ?_
  ·refine FQ ?_ hac
   show QO≠Q02
   exact Ag hx2
  ·exact QY QA
  repeat keq_hits
  refine k _ ?_
  have:YU [] σ {σ2 with loc:=Xy}:=⟨Q8V,Q3h⟩
  repeat kwd_rel
theorem T1 (P:Ql) (ps:QC (X4×Tok)) (hl:Zj<=63):JG (G P) (Ae (G P) 20) (QB (296,1)) 299 [.QQ 0] (st2 ps) fun v XH=>v=.Ys QM/\X5 0=.Q4t ps 0/\∃es,X5 1=.tab es:=by
 injections P ps _
 refine FG (Ud P) QA ["stops","ends","times","dress","d","second","first"] ?_ (by decide) ?_ 40 [("stops",2),("ends",3),("times",4),("dress",5),("d",6),("second",7),("first",8)] QA ?_
 ·kernel_rfl
 ·kernel_rfl
 intros σ1 hn hh hlo hc
 have hn:YD=9:=hn
 have h0:Q2A 0=.Q4t ps 0:=hh 0 (by show 0 < 2;exact Kv)
 have h1:Q2A 1=.tab []:=hh 1 (by show 1 < 2;exact Ku)
 have hs:Za "script"=QB (.QQ 0):=by rw [hlo];kernel_rfl
 have hcs:ES σ1 [2,3,4,5,6,7,8]:=by
  intros c hc'
  simp only [QDf,QBR,or_false]at hc'
  rcases hc' with QA | QA | QA | QA | QA | QA | QA
  ·exact ⟨_,hc 0 "stops" QA⟩
  ·exact ⟨_,hc 1 "ends" QA⟩
  ·exact ⟨_,hc 2 "times" QA⟩
  ·exact ⟨_,hc 3 "dress" QA⟩
  ·exact ⟨_,hc 4 "d" QA⟩
  ·exact ⟨_,hc 5 "second" QA⟩
  ·exact ⟨_,hc 6 "first" QA⟩
 have htb:Ea σ1:=⟨[],h1,fun lc h=>by cases h⟩
 refine Ar (Js hs h0 hl (by exact aad hn) ?_);intros s1 ldr ds g1 k1 o1 m1 hld;refine AB ?_
 have n1:=g1.nx
 refine Ar (Jr (ps:=ps) ((k1 "script" (by simp [A8])).QR hs) ((QGg 0 (by exact Rq hn) (by simp)).QR h0) hl (by exact aac hn n1) ?_);intros s2 lw ws g2 k2 o2 m2 hlw hws;refine AB ?_
 have n2:=Q8V
 refine Ar (ahH (ws:=ws) o2 hlw m2 hws (by exact aab hn n1 n2) ?_);intros s3 la g3 k3 o3 m3 hla;refine AB ?_
 have n3:=Q9H
 refine Ar (ahG (ws:=ws) ((k3 "numbers" (by simp [A8])).QR o2) ((Q42 lw m2 (by simp)).QR hlw) (by exact B8 m2 n3) hws (by exact aaa hn n1 n2 n3) ?_);intros s4 lb g4 k4 o4 m4 hlb;refine AB ?_
 have n4:=g4.nx
 have G4:YU [] σ1 s4:=(g1.trans g2).QR (g3.trans g4)
 have dl:s4.loc "dresses"=QB (.QQ ldr):=by rw [k4 "dresses" (by simp [A8]),k3 "dresses" (by simp [A8]),k2 "dresses" (by simp [A8])];exact o1
 have hld4:s4.hp ldr=.Qs (QFS .Qm):=(Q8W _ (by exact Rr m1 n2 n3) (by simp)).QR ((Q42 _ (by exact B8 m1 n2) (by simp)).QR ((Q3h _ m1 (by simp)).QR hld))
 have la1:=De 2 ws
 have lb1:=De 1 ws
 have hcs4:ES s4 [2,3,4,5,6,7,8]:=by
  intros c hc'
  obtain ⟨u,hu⟩:=hcs c hc'
  have:c < 9:=(KW hc').2
  exact ⟨u,(QGh c (by exact W9 hn this) (by simp)).QR hu⟩
 refine Ar (MH (A:=CN 2 ws) (B:=CN 1 ws) (ds:=ds) ((k4 "a" (by simp [A8])).QR o3) o4 ((Q8W la m3 (by simp)).QR hla) hlb (by exact B8 m3 n4) m4 (by exact W8 hn n1 n2 n3 n4) (by exact Rp hws la1) (by exact Rp hws lb1) (IF 2 ws) (IF 1 ws) hcs4 (htb.grow G4 (by exact Ro hn) (by simp) fun l hl=>by cases hl) dl hld4 (by exact Rn m1 n2 n3 n4) ?_);intros s5 g5 t5 d5;refine AB ?_
 have n5:=g5.nx
 have ld9:ldr∉[1,2,3,4,5,6,7,8]:=by
  intros hm
  rcases XT hm with QA | hm
  ·rw [(QGh 1 (by exact Ro hn) (by simp)).QR h1]at hld4;cases hld4
  ·obtain ⟨u,hu⟩:=hcs4 _ hm
   rw [hu]at hld4;cases hld4
 obtain ⟨es,t5⟩:=t5
 refine Ar (ML (ds:=ds) d5 ((QAa ldr (by exact Rn m1 n2 n3 n4) ld9).QR hld4) (by exact W7 m1 n2 n3 n4 n5) (by exact W6 hn n1 n2 n3 n4 n5) ?_);intros s6 g6;refine TI ?_
 refine ⟨QA,?_,es,?_⟩
 ·exact (QD8 0 (by exact W5 hn n1 n2 n3 n4 n5) (by simp)).QR ((QAa 0 (by exact W4 hn n1 n2 n3 n4) (by simp)).QR ((QGh 0 (by exact Rq hn) (by simp)).QR h0))
 ·exact (QD8 1 (by exact W3 hn n1 n2 n3 n4 n5) (by simp)).QR t5
end
end
theorem all:(PySem.Challenge.rw_dm0061_01).Holds:=hd fun _=>Tr T1
end
end Mine01
end

theorem PySem.Challenge.cw_dm0061_01_holds : PySem.Challenge.rw_dm0061_01.Holds :=
  Mine01.all
