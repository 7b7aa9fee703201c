import PyProof.Rows.All
import Wide.All
import OpenK.AllK
import Wide.FinOn
import Lean
import PySem.Challenge.RW_dm0061_01
set_option Elab.async false
set_option linter.all false
set_option compiler.extract_closed false
section
set_option compiler.extract_closed false
namespace Mini
open PySem in
instance:Nonempty Params:=⟨{strHash:=fun _=>0,shareClass:=fun _=>default,mergeTok:=fun t=>t,idOf:=fun _=>0,idOfShared:=fun _ _=>0,followText:=fun _=>false,idOfImm:=fun _=>0}⟩
instance:Nonempty PySem.World:=let ⟨p⟩:=(inferInstance:Nonempty PySem.Params);⟨⟨fun _ _=>0,p⟩⟩
instance:Nonempty PySem.Setting:=let ⟨p⟩:=(inferInstance:Nonempty PySem.Params);⟨⟨default,p⟩⟩
instance:Nonempty PySem.Around:=⟨{}⟩
instance:Nonempty PySem.Shared:=⟨{}⟩
instance:Nonempty PySem.Drawn:=⟨{}⟩
instance:Nonempty PySem.Sre.Seen:=⟨{}⟩
instance:Nonempty PySem.Sre.M:=⟨{code:=#[],text:=#[],lim:=0,start:=0,pc:=0,pos:=0,handed:=0,marks:=#[]}⟩
theorem Tg {α:Type} (n:Nonempty α) (p:α->Prop):∃x,(∃y,p y)->p x:=by
 by_cases h:∃y,p y
 ·exact h.elim fun y hy=>⟨y,fun _=>hy⟩
 ·exact n.elim fun x=>⟨x,fun q=>absurd q h⟩
noncomputable def ep1 {α:Type} (n:Nonempty α) (p:α->Prop):α:=Classical.choose (Tg n p)
theorem eps1 {α:Type} [n:Nonempty α] {p:α->Prop} (h:∃x,p x):p (ep1 n p):=Classical.choose_spec (Tg n p) h
noncomputable def e1 {α:Type} (n:Nonempty α) (p:α->Prop):α:=ep1 n fun x=>¬p x
theorem ei1 {α:Type} [n:Nonempty α] {p:α->Prop} (h:p (e1 n p)):∀x,p x:=fun x=>Classical.byContradiction fun q=>eps1 (p:=fun x=>¬p x) ⟨x,q⟩ h
noncomputable def e2 {α1 α2:Type} (n:Nonempty (α1×α2)) (p:α1->α2->Prop):α1×α2:=ep1 n fun t=>¬p t.1 t.2
theorem ei2 {α1 α2:Type} [n:Nonempty (α1×α2)] {p:α1->α2->Prop} (h:p (e2 n p).1 (e2 n p).2):∀x1 x2,p x1 x2:=fun x1 x2=>Classical.byContradiction fun q=>eps1 (p:=fun t:α1×α2=>¬p t.1 t.2) ⟨(x1,x2),q⟩ h
noncomputable def ep2 {α1 α2:Type} (n:Nonempty (α1×α2)) (p:α1->α2->Prop):α1×α2:=ep1 n fun t=>p t.1 t.2
theorem eps2 {α1 α2:Type} [n:Nonempty (α1×α2)] {p:α1->α2->Prop} (h:∃x1 x2,p x1 x2):p (ep2 n p).1 (ep2 n p).2:=eps1 (p:=fun t:α1×α2=>p t.1 t.2) (h.elim fun x1 h=>h.elim fun x2 h=>⟨(x1,x2),h⟩)
noncomputable def e3 {α1 α2 α3:Type} (n:Nonempty (α1×α2×α3)) (p:α1->α2->α3->Prop):α1×α2×α3:=ep1 n fun t=>¬p t.1 t.2.1 t.2.2
theorem ei3 {α1 α2 α3:Type} [n:Nonempty (α1×α2×α3)] {p:α1->α2->α3->Prop} (h:p (e3 n p).1 (e3 n p).2.1 (e3 n p).2.2):∀x1 x2 x3,p x1 x2 x3:=fun x1 x2 x3=>Classical.byContradiction fun q=>eps1 (p:=fun t:α1×α2×α3=>¬p t.1 t.2.1 t.2.2) ⟨(x1,x2,x3),q⟩ h
noncomputable def ep3 {α1 α2 α3:Type} (n:Nonempty (α1×α2×α3)) (p:α1->α2->α3->Prop):α1×α2×α3:=ep1 n fun t=>p t.1 t.2.1 t.2.2
theorem eps3 {α1 α2 α3:Type} [n:Nonempty (α1×α2×α3)] {p:α1->α2->α3->Prop} (h:∃x1 x2 x3,p x1 x2 x3):p (ep3 n p).1 (ep3 n p).2.1 (ep3 n p).2.2:=eps1 (p:=fun t:α1×α2×α3=>p t.1 t.2.1 t.2.2) (h.elim fun x1 h=>h.elim fun x2 h=>h.elim fun x3 h=>⟨(x1,x2,x3),h⟩)
noncomputable def e4 {α1 α2 α3 α4:Type} (n:Nonempty (α1×α2×α3×α4)) (p:α1->α2->α3->α4->Prop):α1×α2×α3×α4:=ep1 n fun t=>¬p t.1 t.2.1 t.2.2.1 t.2.2.2
theorem ei4 {α1 α2 α3 α4:Type} [n:Nonempty (α1×α2×α3×α4)] {p:α1->α2->α3->α4->Prop} (h:p (e4 n p).1 (e4 n p).2.1 (e4 n p).2.2.1 (e4 n p).2.2.2):∀x1 x2 x3 x4,p x1 x2 x3 x4:=fun x1 x2 x3 x4=>Classical.byContradiction fun q=>eps1 (p:=fun t:α1×α2×α3×α4=>¬p t.1 t.2.1 t.2.2.1 t.2.2.2) ⟨(x1,x2,x3,x4),q⟩ h
noncomputable def ep4 {α1 α2 α3 α4:Type} (n:Nonempty (α1×α2×α3×α4)) (p:α1->α2->α3->α4->Prop):α1×α2×α3×α4:=ep1 n fun t=>p t.1 t.2.1 t.2.2.1 t.2.2.2
theorem eps4 {α1 α2 α3 α4:Type} [n:Nonempty (α1×α2×α3×α4)] {p:α1->α2->α3->α4->Prop} (h:∃x1 x2 x3 x4,p x1 x2 x3 x4):p (ep4 n p).1 (ep4 n p).2.1 (ep4 n p).2.2.1 (ep4 n p).2.2.2:=eps1 (p:=fun t:α1×α2×α3×α4=>p t.1 t.2.1 t.2.2.1 t.2.2.2) (h.elim fun x1 h=>h.elim fun x2 h=>h.elim fun x3 h=>h.elim fun x4 h=>⟨(x1,x2,x3,x4),h⟩)
noncomputable def e5 {α1 α2 α3 α4 α5:Type} (n:Nonempty (α1×α2×α3×α4×α5)) (p:α1->α2->α3->α4->α5->Prop):α1×α2×α3×α4×α5:=ep1 n fun t=>¬p t.1 t.2.1 t.2.2.1 t.2.2.2.1 t.2.2.2.2
theorem ei5 {α1 α2 α3 α4 α5:Type} [n:Nonempty (α1×α2×α3×α4×α5)] {p:α1->α2->α3->α4->α5->Prop} (h:p (e5 n p).1 (e5 n p).2.1 (e5 n p).2.2.1 (e5 n p).2.2.2.1 (e5 n p).2.2.2.2):∀x1 x2 x3 x4 x5,p x1 x2 x3 x4 x5:=fun x1 x2 x3 x4 x5=>Classical.byContradiction fun q=>eps1 (p:=fun t:α1×α2×α3×α4×α5=>¬p t.1 t.2.1 t.2.2.1 t.2.2.2.1 t.2.2.2.2) ⟨(x1,x2,x3,x4,x5),q⟩ h
noncomputable def e6 {α1 α2 α3 α4 α5 α6:Type} (n:Nonempty (α1×α2×α3×α4×α5×α6)) (p:α1->α2->α3->α4->α5->α6->Prop):α1×α2×α3×α4×α5×α6:=ep1 n fun t=>¬p t.1 t.2.1 t.2.2.1 t.2.2.2.1 t.2.2.2.2.1 t.2.2.2.2.2
theorem ei6 {α1 α2 α3 α4 α5 α6:Type} [n:Nonempty (α1×α2×α3×α4×α5×α6)] {p:α1->α2->α3->α4->α5->α6->Prop} (h:p (e6 n p).1 (e6 n p).2.1 (e6 n p).2.2.1 (e6 n p).2.2.2.1 (e6 n p).2.2.2.2.1 (e6 n p).2.2.2.2.2):∀x1 x2 x3 x4 x5 x6,p x1 x2 x3 x4 x5 x6:=fun x1 x2 x3 x4 x5 x6=>Classical.byContradiction fun q=>eps1 (p:=fun t:α1×α2×α3×α4×α5×α6=>¬p t.1 t.2.1 t.2.2.1 t.2.2.2.1 t.2.2.2.2.1 t.2.2.2.2.2) ⟨(x1,x2,x3,x4,x5,x6),q⟩ h
noncomputable def e7 {α1 α2 α3 α4 α5 α6 α7:Type} (n:Nonempty (α1×α2×α3×α4×α5×α6×α7)) (p:α1->α2->α3->α4->α5->α6->α7->Prop):α1×α2×α3×α4×α5×α6×α7:=ep1 n fun t=>¬p t.1 t.2.1 t.2.2.1 t.2.2.2.1 t.2.2.2.2.1 t.2.2.2.2.2.1 t.2.2.2.2.2.2
theorem ei7 {α1 α2 α3 α4 α5 α6 α7:Type} [n:Nonempty (α1×α2×α3×α4×α5×α6×α7)] {p:α1->α2->α3->α4->α5->α6->α7->Prop} (h:p (e7 n p).1 (e7 n p).2.1 (e7 n p).2.2.1 (e7 n p).2.2.2.1 (e7 n p).2.2.2.2.1 (e7 n p).2.2.2.2.2.1 (e7 n p).2.2.2.2.2.2):∀x1 x2 x3 x4 x5 x6 x7,p x1 x2 x3 x4 x5 x6 x7:=fun x1 x2 x3 x4 x5 x6 x7=>Classical.byContradiction fun q=>eps1 (p:=fun t:α1×α2×α3×α4×α5×α6×α7=>¬p t.1 t.2.1 t.2.2.1 t.2.2.2.1 t.2.2.2.2.1 t.2.2.2.2.2.1 t.2.2.2.2.2.2) ⟨(x1,x2,x3,x4,x5,x6,x7),q⟩ h
noncomputable def e8 {α1 α2 α3 α4 α5 α6 α7 α8:Type} (n:Nonempty (α1×α2×α3×α4×α5×α6×α7×α8)) (p:α1->α2->α3->α4->α5->α6->α7->α8->Prop):α1×α2×α3×α4×α5×α6×α7×α8:=ep1 n fun t=>¬p t.1 t.2.1 t.2.2.1 t.2.2.2.1 t.2.2.2.2.1 t.2.2.2.2.2.1 t.2.2.2.2.2.2.1 t.2.2.2.2.2.2.2
theorem ei8 {α1 α2 α3 α4 α5 α6 α7 α8:Type} [n:Nonempty (α1×α2×α3×α4×α5×α6×α7×α8)] {p:α1->α2->α3->α4->α5->α6->α7->α8->Prop} (h:p (e8 n p).1 (e8 n p).2.1 (e8 n p).2.2.1 (e8 n p).2.2.2.1 (e8 n p).2.2.2.2.1 (e8 n p).2.2.2.2.2.1 (e8 n p).2.2.2.2.2.2.1 (e8 n p).2.2.2.2.2.2.2):∀x1 x2 x3 x4 x5 x6 x7 x8,p x1 x2 x3 x4 x5 x6 x7 x8:=fun x1 x2 x3 x4 x5 x6 x7 x8=>Classical.byContradiction fun q=>eps1 (p:=fun t:α1×α2×α3×α4×α5×α6×α7×α8=>¬p t.1 t.2.1 t.2.2.1 t.2.2.2.1 t.2.2.2.2.1 t.2.2.2.2.2.1 t.2.2.2.2.2.2.1 t.2.2.2.2.2.2.2) ⟨(x1,x2,x3,x4,x5,x6,x7,x8),q⟩ h
noncomputable def e9 {α1 α2 α3 α4 α5 α6 α7 α8 α9:Type} (n:Nonempty (α1×α2×α3×α4×α5×α6×α7×α8×α9)) (p:α1->α2->α3->α4->α5->α6->α7->α8->α9->Prop):α1×α2×α3×α4×α5×α6×α7×α8×α9:=ep1 n fun t=>¬p t.1 t.2.1 t.2.2.1 t.2.2.2.1 t.2.2.2.2.1 t.2.2.2.2.2.1 t.2.2.2.2.2.2.1 t.2.2.2.2.2.2.2.1 t.2.2.2.2.2.2.2.2
theorem ei9 {α1 α2 α3 α4 α5 α6 α7 α8 α9:Type} [n:Nonempty (α1×α2×α3×α4×α5×α6×α7×α8×α9)] {p:α1->α2->α3->α4->α5->α6->α7->α8->α9->Prop} (h:p (e9 n p).1 (e9 n p).2.1 (e9 n p).2.2.1 (e9 n p).2.2.2.1 (e9 n p).2.2.2.2.1 (e9 n p).2.2.2.2.2.1 (e9 n p).2.2.2.2.2.2.1 (e9 n p).2.2.2.2.2.2.2.1 (e9 n p).2.2.2.2.2.2.2.2):∀x1 x2 x3 x4 x5 x6 x7 x8 x9,p x1 x2 x3 x4 x5 x6 x7 x8 x9:=fun x1 x2 x3 x4 x5 x6 x7 x8 x9=>Classical.byContradiction fun q=>eps1 (p:=fun t:α1×α2×α3×α4×α5×α6×α7×α8×α9=>¬p t.1 t.2.1 t.2.2.1 t.2.2.2.1 t.2.2.2.2.1 t.2.2.2.2.2.1 t.2.2.2.2.2.2.1 t.2.2.2.2.2.2.2.1 t.2.2.2.2.2.2.2.2) ⟨(x1,x2,x3,x4,x5,x6,x7,x8,x9),q⟩ h
noncomputable def e10 {α1 α2 α3 α4 α5 α6 α7 α8 α9 α10:Type} (n:Nonempty (α1×α2×α3×α4×α5×α6×α7×α8×α9×α10)) (p:α1->α2->α3->α4->α5->α6->α7->α8->α9->α10->Prop):α1×α2×α3×α4×α5×α6×α7×α8×α9×α10:=ep1 n fun t=>¬p t.1 t.2.1 t.2.2.1 t.2.2.2.1 t.2.2.2.2.1 t.2.2.2.2.2.1 t.2.2.2.2.2.2.1 t.2.2.2.2.2.2.2.1 t.2.2.2.2.2.2.2.2.1 t.2.2.2.2.2.2.2.2.2
theorem ei10 {α1 α2 α3 α4 α5 α6 α7 α8 α9 α10:Type} [n:Nonempty (α1×α2×α3×α4×α5×α6×α7×α8×α9×α10)] {p:α1->α2->α3->α4->α5->α6->α7->α8->α9->α10->Prop} (h:p (e10 n p).1 (e10 n p).2.1 (e10 n p).2.2.1 (e10 n p).2.2.2.1 (e10 n p).2.2.2.2.1 (e10 n p).2.2.2.2.2.1 (e10 n p).2.2.2.2.2.2.1 (e10 n p).2.2.2.2.2.2.2.1 (e10 n p).2.2.2.2.2.2.2.2.1 (e10 n p).2.2.2.2.2.2.2.2.2):∀x1 x2 x3 x4 x5 x6 x7 x8 x9 x10,p x1 x2 x3 x4 x5 x6 x7 x8 x9 x10:=fun x1 x2 x3 x4 x5 x6 x7 x8 x9 x10=>Classical.byContradiction fun q=>eps1 (p:=fun t:α1×α2×α3×α4×α5×α6×α7×α8×α9×α10=>¬p t.1 t.2.1 t.2.2.1 t.2.2.2.1 t.2.2.2.2.1 t.2.2.2.2.2.1 t.2.2.2.2.2.2.1 t.2.2.2.2.2.2.2.1 t.2.2.2.2.2.2.2.2.1 t.2.2.2.2.2.2.2.2.2) ⟨(x1,x2,x3,x4,x5,x6,x7,x8,x9,x10),q⟩ h
open Lean
def kqN (s:String):Name:=if s == "N" then `null else if s.startsWith "T." then `Lean.Parser.Tactic++(s.drop 2).toName else if s.startsWith "E." then `Lean.Parser.Term++(s.drop 2).toName else s.toName
def kq (s:String) (a:List Syntax):Syntax :=
 let push (st:List (Name×Array Syntax)) (x:Syntax):=match st with | (n,b)::r=>(n,b.push x)::r | []=>[(`null,#[x])]
 let st:=(s.splitOn " ").foldl (init:=[(`null,#[])]) fun st w =>
  let c:=w.front
  if c == '(' then (kqN (w.drop 1).toString,#[])::st
  else if c == ')' then (match st with | (n,b)::r=>push r (mkNode n b) | []=>[])
  else if c == '"' then push st (mkAtom (w.drop 1).toString)
  else if c == '$' then push st (a.getD (w.drop 1).toNat! .missing)
  else if c == '@' then (match st with | (n,b)::r=>(n,b++(a.getD (w.drop 1).toNat! .missing).getArgs)::r | []=>[])
  else push st (mkIdent w.toName)
 match st with | (_,b)::_=>b.getD 0 .missing | []=>.missing
def kqL (l:List Syntax):Syntax:=mkNode `null l.toArray
def kqs (l:List Syntax):Syntax:=kq "(T.paren \"( (T.tacticSeq (T.tacticSeq1Indented $0 ) ) \") )" [kqL (l.intersperse (mkAtom ";"))]
def kqf (l:List Syntax):Syntax:=kq "(T.first \"first $0 )" [kqL (l.map fun t=>kq "(group \"| (T.tacticSeq (T.tacticSeq1Indented (N $0 ) ) ) )" [t])]
def kqg (h:Option Syntax) (t x:Syntax):Syntax :=
 kq "(T.generalize \"generalize (N (T.generalizeArg (N ) $0 \"= $1 ) ) $2 )" [t,x,match h with | some h=>kq "(N (T.location \"at (T.locationHyp (N $0 ) ) ) )" [h] | none=>kqL []]
def kcgen (f:String) (xs:List Syntax) (h:Option Syntax):MacroM (List Syntax):=do
 let n:=xs.length
 let e:=kq ("(E.app "++f++" (N (E.hole \"_ ) (E.hole \"_ ) ) )") []
 match xs with
 | [x]=>pure [kqg h e x]
 | _ =>
  let y:=mkIdent (<- Macro.addMacroScope `t)
  let p (k:Nat):Syntax :=
   let t:=(List.range k).foldl (fun t _=>kq "(E.app Prod.snd (N $0 ) )" [t]) y
   if k+1 < n then kq "(E.app Prod.fst (N $0 ) )" [t] else t
  pure (kqg h e y::(xs.zipIdx.map fun (x,k)=>kqg h (p k) x)++[kq "(T.clear \"clear (N $0 ) )" [y]])
def kqr (i:Syntax):Syntax:=kq "(T.refine \"refine (E.noImplicitLambda \"no_implicit_lambda% $0 ) )" [i]
def kqw (t:Syntax):Syntax:=kq "(T.withReducibleAndInstances \"with_reducible_and_instances (T.tacticSeq (T.tacticSeq1Indented (N $0 ) ) ) )" [t]
def kci (k:Nat) (xs:List Syntax):MacroM (List Syntax):=do
 pure (kqw (kqr (kq ("(E.app Mini.ei"++toString k++" (N (E.syntheticHole \"? \"_ ) ) )") []))::(<- kcgen ("Mini.e"++toString k) (xs.take k) none))
def kcs (xs:List Syntax):List Syntax:=if xs.isEmpty then [] else [kq "(T.intros \"intros $0 )" [kqL xs]]
def kqh (s:String):Syntax:=kq ("(T.set_option \"set_option tactic.hygienic (N ) \"false \"in (T.tacticSeq (T.tacticSeq1Indented (N (T."++s++" \""++s++" (N ) ) ) ) ) )") []
def kcin (xs:List Syntax):MacroM Syntax:=do
 if xs.isEmpty then Macro.throwUnsupported
 let z:=(xs.headD .missing).getId == `zE
 let pre:=if z || (xs.headD .missing).getId == `zF then xs.take 1 else []
 let xs:=if pre.isEmpty then xs else xs.drop 1
 let rest (k:Nat):List Syntax:=if k < xs.length then kcs (pre++xs.drop k) else []
 if z&&!(xs.headD .missing).isIdent then return kqs (kqh "intro"::rest 1)
 if z&&(xs.headD .missing).getId == `zI then return kqh "intros"
 let n:=min 10 (xs.takeWhile fun x=>x.isIdent&&x.getId != `zI).length
 let l <- ((List.range n).map (n - ·)).mapM fun k=>do pure (kqs ((<- kci k xs)++rest k))
 let fn (ys:List Syntax):Syntax:=kqr (kq "(E.fun \"fun (E.basicFun $0 (N ) \"=> (E.syntheticHole \"? \"_ ) ) )" [kqL ys])
 let f:=if pre.isEmpty then fn xs::kq "(T.revert \"revert $0 )" [kqL xs]::kcs (mkIdent `zF::xs) else fn (xs.take 1)::rest 1
 pure (kqf (l++[kqs f]))
def kcrv (xs:List Syntax):MacroM Syntax:=do
 if xs.isEmpty then Macro.throwUnsupported
 pure (kqs (kq "(T.revert \"revert $0 )" [kqL (xs.filter fun x=>x.isIdent&&x.getId != `zI)]::kcs (mkIdent `zE::xs)))
def kpats (p:Syntax):Option (List Syntax) :=
 if p.getKind == `Lean.Parser.Tactic.rcasesPat.tuple then
  (((p.getArg 1).getArgs.toList.zipIdx.filter fun q=>q.2 % 2 == 0).map (·.1)).mapM fun l =>
   if (l.getArg 1).getNumArgs == 0&&((l.getArg 0).getArg 0).getNumArgs == 1 then some (((l.getArg 0).getArg 0).getArg 0) else none
 else none
def kpt (l:List Syntax):Syntax :=
 kq "(T.rcasesPat.tuple \"⟨ $0 \"⟩ )" [kqL ((l.map fun p=>kq "(T.rcasesPatLo (T.rcasesPatMed (N $0 ) ) (N ) )" [p]).intersperse (mkAtom ","))]
def krc (e p:Syntax):Syntax:=kq "(T.rcases \"rcases (N (T.elimTarget (N ) $0 ) ) (N \"with (T.rcasesPatLo (T.rcasesPatMed (N $1 ) ) (N ) ) ) )" [e,p]
def kob1 (h e:Syntax):Syntax:=kq "(T.obtain \"obtain (N (T.rcasesPatMed (N (T.rcasesPat.one $0 ) ) ) ) (N ) (N \":= (N $1 ) ) )" [h,e]
def kfis (t:Syntax):Syntax:=kq "(T.failIfSuccess \"fail_if_success (T.tacticSeq (T.tacticSeq1Indented (N $0 ) ) ) )" [t]
def ktry (e:Syntax):Syntax:=kqs [kfis (kqs [kfis (kq "(T.tacticHave__ \"have (E.letConfig (N ) ) (E.letDecl (E.letIdDecl (E.letId zE ) (N ) (N ) \":= $0 ) ) )" [e])])]
def kap (f:String) (e:Syntax):Syntax:=kq ("(E.app "++f++" (N $0 ) )") [e]
def kobP (p e:Syntax):List Syntax :=
 let k:=p.getKind
 if k == `Lean.Parser.Tactic.rcasesPat.one then
  if (p.getArg 0).getId == `rfl then [krc e p] else if p.getArg 0 == e then [] else [kob1 (p.getArg 0) e]
 else if k == `Lean.Parser.Tactic.rcasesPat.ignore then []
 else match kpats p with
 | none=>[krc e p]
 | some [q]=>kobP1 q e
 | some _=>[kq "(T.obtain \"obtain (N (T.rcasesPatMed (N $0 ) ) ) (N ) (N \":= (N $1 ) ) )" [p,e]]
where kobP1 (q e:Syntax):List Syntax:=[kq "(T.obtain \"obtain (N (T.rcasesPatMed (N $0 ) ) ) (N ) (N \":= (N $1 ) ) )" [kpt [q],e]]
def kobT (qs:List Syntax) (e:Syntax):MacroM (List Syntax):=do
 match qs with
 | []=>pure [krc e (kpt [])]
 | [q]=>pure (kobP q e)
 | q::r=>do
  let h:Syntax:=mkIdent (<- Macro.addMacroScope `h)
  let l <- ((List.range (min 4 r.length)).map (min 4 r.length - ·)).mapM fun k=>do
   let mut xs:List Syntax:=[]
   let mut ts:List Syntax:=[]
   for q in qs.take k do
    if q.getKind == `Lean.Parser.Tactic.rcasesPat.one&&(q.getArg 0).getId != `rfl then xs:=xs++[q.getArg 0]
    else
     let y:=mkIdent (<- Macro.addMacroScope (.num `y xs.length))
     xs:=xs++[y.raw];ts:=ts++kobP q y
   let i:=kap ("Mini.eps"++toString k) e
   let h:=match qs.drop k with | [q]=>if q.getKind == `Lean.Parser.Tactic.rcasesPat.one&&(q.getArg 0).getId != `rfl then q.getArg 0 else h | _=>h
   pure (kqs (ktry i::kob1 h i::(<- kcgen ("Mini.ep"++toString k) xs (some h))++ts++kobP (if k+1=qs.length then (qs.drop k).headD .missing else kpt (qs.drop k)) h))
  let c:=kqs (ktry (kap "And.left" e)::kobP q (kap "And.left" e)++kobP (if r.length=1 then r.headD .missing else kpt r) (kap "And.right" e))
  let ids:=qs.all fun q=>q.getKind == `Lean.Parser.Tactic.rcasesPat.one&&(q.getArg 0).getId != `rfl
  pure [kqf (l++[c]++(if ids then [kqs (krc e (kpt qs)::[kq "(T.injections \"injections $0 )" [kqL (qs.map (·.getArg 0)++[(mkIdent `zI).raw])]])] else [])++[krc e (kpt qs)])]
def kobM (s:Syntax):MacroM Syntax:=do
 let p:=((s.getArg 1).getArg 0).getArg 0
 if p.getNumArgs != 1 then Macro.throwUnsupported
 let p:=p.getArg 0
 let e:=((s.getArg 3).getArg 1).getArg 0
 if (s.getArg 2).getNumArgs > 0 || (s.getArg 3).getNumArgs == 0 || ((s.getArg 3).getArg 1).getNumArgs != 1 then Macro.throwUnsupported
 match kpats p with
 | none=>Macro.throwUnsupported
 | some qs =>
  if e.isIdent then pure (kqs (<- kobT qs e)) else
  let h:=mkIdent (<- Macro.addMacroScope `h)
  pure (kqs [kob1 h e,kq "(T.obtain \"obtain (N (T.rcasesPatMed (N $0 ) ) ) (N ) (N \":= (N $1 ) ) )" [p,h]])
def krp (h:Syntax):Syntax:=kq "(T.tacticTry_ \"try (T.tacticSeq (T.tacticSeq1Indented (N (T.replace \"replace (E.letDecl (E.letIdDecl (E.letId $0 ) (N ) (N ) \":= $0 ) ) ) ) ) ) )" [h]
def krf:Syntax:=kq "(T.tacticTry_ \"try (T.tacticSeq (T.tacticSeq1Indented (N (T.withReducible \"with_reducible (T.tacticSeq (T.tacticSeq1Indented (N (T.tacticRfl \"rfl ) ) ) ) ) ) ) ) )" []
def khas (t:Syntax) (k:Name):Bool:=(t.find? fun x=>x.getKind == k).isSome
def krl (r:Syntax):Syntax :=
 let t:=r.getArg 1
 let w:=kq "(T.rewriteSeq \"rewrite (T.optConfig (N ) ) (T.rwRuleSeq \"[ (N $0 ) \"] ) (N ) )" [r]
 if khas t `Lean.Parser.Term.syntheticHole || khas t `Lean.Parser.Term.byTactic || khas t `Lean.Parser.Term.anonymousCtor then w else
 let b:=khas t `Lean.Parser.Term.byTactic'
 let d:=kq "(E.ellipsis \".. )" []
 let t:Syntax:=if b then t else if t.getKind == `Lean.Parser.Term.app then mkNode `Lean.Parser.Term.app #[t.getArg 0,mkNode `null ((t.getArg 1).getArgs.push d)] else kq "(E.app $0 (N $1 ) )" [t,d]
 let t:Syntax:=if b then t else kq "(E.typeAscription (E.hygienicLParen \"( (hygieneInfo $1 ) ) $0 \": (N ) \") )" [t,mkIdent .anonymous]
 let t:Syntax:=if (r.getArg 0).getNumArgs == 0 then t else kq "(E.app Eq.symm (N $0 ) )" [t]
 let f:=kq "(T.refine \"refine (E.app Eq.substr (N $0 (E.syntheticHole \"? \"_ ) ) ) )" [t]
 kqf [if b then f else kqw f,w]
def kshM (s:Syntax):MacroM Syntax:=pure (kqr (kq "(E.typeAscription (E.hygienicLParen \"( (hygieneInfo $1 ) ) (E.syntheticHole \"? \"_ ) \": (N $0 ) \") )" [s.getArg 1,mkIdent .anonymous]))
def kat (l:Syntax):MacroM Syntax:=do
 let h:=((l.getArg 0).getArg 1).getArg 0
 if h.getNumArgs == 1&&(h.getArg 0).isIdent then pure (h.getArg 0) else Macro.throwUnsupported
def krwM (s:Syntax):MacroM Syntax:=do
 let l:=s.getArg 3
 if ((s.getArg 1).getArg 0).getNumArgs > 0 then Macro.throwUnsupported
 let rs:=(s.getArg 2).getArg 1
 if l.getNumArgs == 0 then pure (kqs (((rs.getArgs.toList.zipIdx.filter fun q=>q.2 % 2 == 0).map fun q=>krl q.1)++[krf]))
 else pure (kqs [kq "(T.rewriteSeq \"rewrite (T.optConfig (N ) ) (T.rwRuleSeq \"[ $0 \"] ) $1 )" [rs,l],krf,krp (<- kat l)])
def ksiM (s:Syntax):MacroM Syntax:=do
 let h <- kat (s.getArg 5)
 pure (kqs [s.setArg 5 (kq "(N (T.location \"at (T.locationHyp (N (E.explicit \"@ $0 ) ) ) ) )" [h]),krp h])
end Mini
end
local macro_rules (kind:=Lean.Parser.Tactic.rwSeq) | s=>Mini.krwM s
local macro_rules (kind:=Lean.Parser.Tactic.simp) | s=>Mini.ksiM s
local macro_rules (kind:=Lean.Parser.Tactic.show) | s=>Mini.kshM s
local macro_rules (kind:=Lean.Parser.Tactic.intros) | s=>Mini.kcin (s.getArg 1).getArgs.toList
local macro_rules (kind:=Lean.Parser.Tactic.injections) | s=>Mini.kcrv (s.getArg 1).getArgs.toList
local macro_rules (kind:=Lean.Parser.Tactic.obtain) | s=>Mini.kobM s
section
open Lean
namespace Mini
def kmuT:Array String:=("XL Xt XP Yf Ya YP X1 Zm QS wpAny_bind rfl some List s.heap.objs.size Mini.St wpAny_pure none Nat Value false List.length_map PyData.keyHash true if_neg σ.nx ref Nat.lt_of_lt_of_le trans σ.hp List.getElem?_map Val s.heap Option List.getElem?_eq_some_iff.mp if_pos Shared Heap.get?_push_of_some Str.ofString s.heap.get? builtin List.mem_singleton.mp Expr List.getElem?_eq_getElem Nat.le_refl model Bool.false_ne_true type Params int xs.length env.locals wpAny Addr Unicode.isSpace list List.map_append Bool scope σ.alloc Comprehension h.elim Heap.lt_size env Option.some.inj Heap.get?_push_size Int σ'.hp List.range Str Bool.and_eq_true sizeLine_eq Array.getD_eq_getD_getElem? String kernel prog Nat.le_of_lt List.mem_of_getElem? σ' Builtin.Range.rangeSize pos c.prog Obj.data_mapFields s.heap.push Lab.push_ext Array A.length Heap.get?_update_self List.mem_cons.mp Bool.false_eq_true List.map_cons List.size_toArray Nat.zero_le Heap.SameBut.update decide s2.heap.objs.size wpAny_holding Nat.lt_irrefl List.length_cons sizeLine args absurd SetTable.below toArray builtinLookup_eq_fast σ'.nx Λ.n List.mem_singleton Sim.flat wpAny_newObj_type decide_eq_true_eq B.length List.length_take fields PySem.Challenge.rw_dm0061_01 items Λ.f str vs.toArray cons σ.loc List.length_append Nat.lt_succ_self w.alo w.blo SetTable Nat.le_trans wpAny_call_entry List.mem_append.mp kvs Nat.ne_of_lt s.toks motive List.length_range σ'.loc data σ1.nx next of_decide_eq_true typeLookup_type t.size Or.inr wpAny_callSpecial?_slot qs.map tuple Sim.bind heap List.drop_eq_getElem_cons PySem.Challenge.pw_dm0061_01 objs.size GroH cell cal isSubtype_type List.map_map Val.ref Unit Stmt wpAny_mono e1.trans body Obj.isFreed_of_fields Key items.length List.getElem?_range Nat.min_eq_left decide_eq_false Int.ofNat_lt.mp Int.ofNat_le.mpr beq_eq_false_iff_ne.mpr Ans.step False ok.ext Option.map_eq_some_iff.mp bool kvs.length Nat.ne_of_gt Way.slotAt Heap.get?_update_other Sre.M.runFor σ.upd decide_eq_true wpAny_seqItems wpAny_setField List.mem_map.mp σ2.hp Int.ofNat_lt.mpr beq_iff_eq.mp List.lookup_cons items.size se.add congrArg Λ.push es.size h'.get? Heap.SameBut Bool.not_eq_true' Int.toNat_natCast ListComp Obj e.ctorIdx a.length l.length Sim.holding fm.sc.names.lookup Nat.not_lt.mpr beq_iff_eq of_decide_eq_false Looks closureTuple trivial hc.inK.keeps Heap s₁.heap.objs.size t.place DictEntry length pure codeAny_builtin ForInStep.yield σ1.loc Obj.mapSeq List.getElem?_take Λ' annotations head List.mem_iff_getElem.mp Sim.pure if_false ps.length a2.length wpAny_of_eq Around.under_plainId F.length nil rawInt Sim.of fm.sc Tuple Sim List.sum_cons default Nat.lt_of_succ_lt_succ List.length_eq_zero_iff.mp Value.none isInstance List.take_add_one Or.inl σ2.nx Array.length_toList dict Nat.not_lt_zero h.get? Array.getElem?_eq_getElem PySem.F.plain_extend_loop List.length_singleton List.pairwise_cons.mp List.length_replicate kwdefaults Λ.Ext Int.natCast_nonneg Sim.stand List.mem_map.mpr List.getElem_mem w.bhi grown r.gkeep Sre.M.attempt Scope w.params gens call w.ahi g'.hp toks vs.length List.flatMap_cons List.append_assoc getMethod_builtin Obj.cls_mapFields List.reverse_cons g.eup wpAny_rule hA.handled List.rec qualname Builtin.Range.small onIf.el h'.objs.size p.getD Nat.add_zero Builtin.Re.reTurnSteps σ3.nx String.ofList wpAny_standAt Heap.ExtBut wpAny_field depth Looks.of_peek code Int.ofNat_inj.mp compareOp List.take_length PySem.W.Fast.tw4202317264376624991 r.listsV Heap.size_push Name pos.line List.replicate Nat.eq_of_beq_eq_true Nat.le_of_ble_eq_true Key.val Val.int fd.scope.names.lookup ps.map typeOf Classical.byContradiction Int.ofNat List.find?_cons sc.names.lookup List.forIn_cons Frag Nat.le_succ Value.isInt_shape Nat.zero_add SetTable.below.go Nat.lt_trans s.drawn refl w.params.setOrder codeAny Expr.casesOn scope.names fd.scope decide_eq_decide.mpr σ3.loc False.elim h₁ Obj.mapFields setIfInBounds Builtin.List.listSameRef x.cps.size idict Ai.el toNat g.hp List.all_eq_true.mp Bool.and_eq_true_iff.mp defaults pyModule builtins self v.length List.length_drop Value.ref VR.new Looks.ld List.filter_cons wpAny_askSetting s₁ SetTable.grown checkBoundCall specialOf target Attribute B.take Array.getElem?_eq_some_iff.mp name o.data fm.cl.lookup List.size_toArray.symm t.place.size Array.getElem?_eq_none wpAny_call Code.quiet_builtin looks_findIn s2.heap.push σ1.hp Nonempty List.pairwise_iff_getElem.mp Bool.or_eq_true codeAny_of_tree List.getElem?_eq_none_iff.mp wpAny_updateSeq g.sup plainId_quiet Bool.false_or Subscript ns.length s.heap.IsList l.toArray Nat.add_assoc assign List.getElem?_eq_none Nat.le_of_lt_succ fm.cd fm.tb Nat.lt_succ_of_lt Builtin.List.listExtendWith zero succ env' xq01 hlen codeAny_call_builtin Value.type firstArgMember items.drop NameKind List.forIn_nil Builtin.Tuple.tupleItemsOf t.getD GroH.trans q.elim Mini.St.hp globals closure kvs.map eval andThen entryFor_of_tree Way.first PySem.Fin wpAny_isInstance ts.length names.length Ad.el GoodT Around Value.isStrOf_shape Int.toNat_of_nonneg list_getitem_lookup slot_tupleiter_next List.mem_append.mpr Nat.add_lt_add_left List.length_reverse tail elim c.g.get? drawn function r.ob starEach Looks.of_pure es.toList.map es1.size Builtin.Frozenset.addrOf wpAny_attempt stay g.target Program List.range_succ List.append_nil σ5.loc Mine.longS Option.rec sysModules c.Ok List.find?_eq_none typeLookup pyNext hit.typeIs vs.reverse List.getElem?_drop slot_listiter_next Builtin.Re.reRawOf List.map_singleton mainGlobals PySem.F.plainAttrs_list PySem.F.plainAttrs_dict g2.hp r.nn PySem.W.S.bytesOf wpAny_truthy_bool List.pairwise_lt_range R.above knd.is Option.map_eq_none_iff knd.hash entryFor entryFor_alias Array.toList_push Nat.lt_or_ge r₁.growOwn s'.drawn Nat.lt_of_succ_lt s'.heap.get? step b.length Nat.lt_trichotomy σ2.loc g3.hp Ob.tuple symm True R.nn Af.mk Array.getElem?_toList names List.length_filter_le Nat.add_lt_of_lt_sub' params Nat.min_eq_right Nat.min_le_right scanBound R.keep seqIndex? List.any_eq_true argsOk acc.toList Manifest.toldItsClass.contains LT.andThen IsTupIter A.handled List.drop_length pure_bind ns.map qs.length ws.length σ5.nx Option.getD_some valueAt s.heap.DictOf Bool.not_true Value.builtin s'.heap names.reverse plain keep Λ'.f W.listOf motive_1 callSpecialIfBoundUnlessNone? Constant args.length acc.size Sre.accepts Char getD PySem.F.slot_dict_setdefault pyIter scope.names.all Array.size_push rs.map σ3.hp flist Af.el o.cls above EnvOk Λ₄ σ₄ Sre.M g'.nx hkey List.map_nil done callSpecial? ts.filterMap g'.iter pos.col Builtin.List.listLengthHint Arguments Value.int pickOrder r.size_fz cellsFrom A.in1.in1 Sre.Frame Nat.succ Mine.ofC inst R.base R.lne σ.set List.Perm.cons Nat.pos_of_ne_zero List.length_eraseIdx_of_lt Builtin.Frozenset.oneOther hor' s.TypeIs e₁.trans r.size_lab List.map recursionLimit hA.depth List.getD_eq_getElem?_getD Nat.lt_of_le_of_lt List.filter_append L.Pairwise Mini.mrg List.getElem?_append_right sliceRange_one σ'' List.getElem?_eq_none_iff PySem.F.slot_dict_delitem Builtin.SmallTypes.nextOf PySem.F.entry_extend_loop List.getElem?_append_left stmts xs.size List.getElem_drop List.getElem_take SetTable.probe.go cvs.map R.fzl Keeper.boundFrame if_true List.nodup_append SetAt Heap.SameBut.refl looks_subIn items.toList.drop Λ₁ s.heap.IsListIter wpAny_pyIter_slot local Nat.le_succ_of_le reverse σ''.nx σ''.hp sliceBounds_plain PySem.KeyKind PySem.strKind R.ob R.gens push r.grow wpAny_getItem_list_slice List.any_cons foldedForSure g.iter behindInMarks Builtin.Tuple.tupleExact seqObj s.heap.update List.mem_iff_getElem?.mp ms.map PySem.W.S.allLow World Nat.succ_le_succ Nat.le_add_right es.toList R.fzL R.low hko.trans Operator checkBuiltinCall isSubtype r.dictsV e₁ hdrop Λ1.push env.qual codeAny_call_builtin_at M.typeIs PySem.F.plain_list_iadd PySem.F.plain_tuple_new L.length List.getElem?_cons_succ o.ExactSet builtinsNs env.kindOf xq02 Or.elim wpAny_getItem_list_neg cvs.length List.getElem_cons_succ PySem.F.entry_dict_get meets_dict_get_default setdefault PySem.F.slot_dict_keys tt.andThen on1.el check_slot items.toList List.take_of_length_le List.toArray g.is_async Assign accv e₂.trans MapAt.typeIs Builtin.List.listTouch Int.lt_trans xs.drop Sre.category attempt List.filter_eq_nil_iff Nat.sub_self List.drop_eq_nil_of_le Nat.eq_zero_of_not_pos A.take range Nat.min_le_left R.inj a2.length.trans List.find?_some wpAny_specialOf letOwnedTupleGo σ₁ wpAny_execs_nil ne_of_beq_false vals fuel List.mem_append_right List.Perm.append_left PySem.F.plain_set_new PySem.F.slot_dict_get PySem.F.slot_set_iter codeAny_call_function seen Builtin.Re.reRunToEnd g.nx isTrue Bool.rec Mine.quickS_eq func DecidableEq Int.le_refl r.length Int.not_lt.mpr Int.not_le.mpr Nat.sub_lt_sub_right owner env.globals env.scope.kind Bool.false_and DatAll hA.units backTo Keeper.machine hx.ext append Obj.data_mapDictKeys Nat.le_zero.mp PySem.F.slot_set_add error wpAny_tryCatch entry_tupleiter_next isSubtype_stop Result hd₁ r.size_L wpAny_pyIter_keyiter wpAny_fieldsOf constantsAlone Bool.not_false FnIs Option.elim List.mem_of_mem_drop wpAny_newFunctionEnv hc.top.nolimit.keeps items.toList.toArray g.lt us.Pairwise vs.toArray.zip hkeep l.toArray.getD outcome.isSome Key.s fd.scope.names g3.loc g2.nx g4.hp Nat.beq Nat.rec A.units kvs.find? hD.typeIs Way.items t.plain getMethod Compare gens.drop h'.push hA.deeper PySem.W.Fast.strDec Nat.add_le_add_left Nat.sub_le_sub_left base List.filterMap_cons builtinType_eq_fast bindSpecialIfBound? args_tupleiter_next List.take_succ_cons e₄ List.flatMap_append Room entry_listiter_next callSpecialIfBound? Builtin.Re.reTarget List.map_congr_left liter k.val As.el Int.not_lt.mp R.nsm PySem.operate x.cps value A.in1 wpAny_handled A.in1.handled fm.cl alloc swapsWithSole swappedStores resolve_right es.toList.any A.map B.map g3.nx List.pairwise_cons Option.map es.flatMap r.toks Sim.newObj r.push Env.kindOf filter wpAny_getItem_list Heap.IsList.typeIs Heap.IsSliceOf.new decide_eq_true_iff Heap.dictOf_iff.mp turn r₅ r.base drop Λ₁.push scope.kind scope.names.lookup qual xs.zip args_listiter_next List.forIn_toArray Nat.sub_add_cancel hins List.map_replicate List.mem_cons_self readsAllW_cons_inv vs.map σ5.hp b.toNat Nat.lt_succ_of_le bmeth As.mk T.rec relayAll xs.Nodup DatIn x.length wpAny_truthy_list r1.push rest K.lookup Keeper.frame call_meetsIn table pickOrder.go acc.push wpAny_setState_of wpAny_storeSet_of fits_of_scanBound codeAny_mono Bool.true_or getAttr newTuple raiseNew hs₁.extBut wpAny_pyIter_list s'.toks foldedSetIterable fd.code bind compLoop hacc.ext callAny.viaDunder MapAt pos' Ans.mono Sre.forMatch toArray.size Nat.le_of_eq readsAllW_nil_inv g.loc List.pairwise_map g5.hp Val.str ws.take as.toList.length Str.empty cs.length clipAt Int.max_eq_right Nat.pred_le_pred h.standIn isSome s.heap.Ns env.cells.lookup r.flistsV r.tuplesV slicePick hv.ext hthere List.isEmpty_nil es.length OR.ofDict TypeIs K.In s₃ cont s₄ s₁.toks hK.length onCons Call cl.lookup args.kw_defaults hv.length xs.map dv.map compStart And.intro List.flatMap_nil emptyDict KRun ls.map outermost m.outcome.isSome Nat.le_of_not_lt Win.cells a.toArray b.toArray hB.inside ms.length hl1' List.getElem_map C.take ls.length DVs.trips List.not_mem_nil UInt8.toNat Bi.el Sim.operate sliceBounds Slice again builtinKind wpAny_throw W.fzo g.ifs wpAny_letGo hideAll_get List.mem_filter get? theTreesLotGoes h₃ List.nodup_cons as.toArray.size arm_exec_Assign hacc List.of_mem_zip p.toList.length Nat.max_eq_left Nat.le_add_left get?_update_seq mono here es.toList.find? e.trans machine plainId notedBy targets acc.map relabel h1.bind Sre.run w.cells Dat.int PySem.W.R.anyR Mini.xSD subclasses collection loose row.toRowW keysv truthOfDropped Int.mul_nonneg layNew owner.getD tabObj R.ns co.isFreed ok.sc ok.cells g.get? r.dats isNone ps.isEmpty evalArgs_plain frame stored dictSetDefault knd.pyHash Nat.mod_lt Bool.and_false Obj.putSet bind_assoc s₂ hdat on2.el newExc h₂ List.drop_zero extBut there W.done e₂ hd₅ s₁.drawn Walks.dictKeys Expr.Name.elim symm.trans methodCallForm Sim.last assignEach ts.map cl.map cenv hc.top.g.keeps hvs.length kindOf callType_codes g.ne' Sre.Loop Sre.Seen Sre.M.afterRun PUnit.unit List.take_succ ws.map Nat.add_le_add e'.trans WRecords hmeas g6.hp σ4.nx C.length hx3' Value.isStrOf SetTable.laid R.os Env.blockKind s.heap.IsCell subscriptTail List.all_cons ext2 text hmem key.scannable name.toString type_list_pop codeAny_loop' hasg hbod args.defaults assignInOrder env.blockKind hend Bool.or_false listUpdate_at List.cons.inj hvs.length_eq List.map_drop Mini.codeHdIn List.mem_cons slotNames Hook.says Λ'.n xs.toList t.advance r.upd filterMap And.right cLine Looks.now ext.trans h'.DictOf hmem1 fresh newFields handed_on r.nsm hk.length wpAny_ite List.take noteFrame W.noL hk₅ s₄.heap r.Llt b2.length AM.lookup AugAssign Λ1.n codeAmong h.handled ha.length cs.lookup Nodup seqItems? Array.map σ'.alloc m.outcome hf.inside List.cons s₁.heap mapo eqBool intKind Int.zero_add Int.add_zero Int.mul_zero Int.zero_mul Nat.ble Nat.succ.inj Int.toNat_lt SetTable.has Obj.IsDictOf ElemsOf h2.ext hc.inK truthy hl.push es.map hp.length_eq setAddHashed s.heap.SetOf o.dict handedOut_of b.id slot_set_add type_set_add LI.here r.keep h.IsListIter hfz' Keyword k.symm.trans BoolOp vs.all σ'.upd Cn.list UnaryOp apos.endLine p1.elim r.above r'.keep s₅ lookup A.depth codeAny_func VRs.of_items cs.map kas_rev us.Perm us.map m.step op.data its.map hA.aok h.nx propext List.mem_map r.symm g.same g.cells CQ.mrg hideAll_none e2.symm hJ.mono hne3 d0.fdiv g'.mono List.map_id' ds.map start Mine.quickS abstract Value.isInt Bh.mk Bh.el Int.add_mul Int.ble' Nat.mul_two Λ'' loadName h.objs.size binaryOp And.left IsNot r.mem l.filterMap subscripted keeperOf callWith_of es.findIdx? Slot toList.Perm es'.size wasDummy x.scannable hroom hperm e.key.isStr builtinType Meets.of_wp hself bindSpecial field extBut.push unpackItems execs wpAny_noted hJ₁ hP₂ r₂' IsRangeIter h.IsKeyIter r'.ob free codeHdIn interactive exec r.fz_unl FuncData forIn g'.is_async compTurn hP₄ ok.cd.trans Bind.madeBy contains hS₃ wpAny_mkInt VRs.of_refs seqEpoch_at hgo.keep giveBack turns G.gl GroX Grow.mrg List.lookup DVs.ints WData List.map_id sm.idict List.length hinv cps.size g1.hp G4.hp h.symm hplain KVR.of findIn hk.get hit₁ orelse e.symm r'.inj r'.fzl BR.zip BR.imm cellOf ns.sum update g.size σ4.hp x.fdiv l.map hasDict byValue Cp.el AJ.mk AJ.el Nat.blt i.toNat xs.getD empty ob.data standAt ok.gl NotEq CmpOp kvs.any without delItem r.instV VR.getD hg.elim splitId forLoop onRaise Λ₂ σ₂ W.there W.frame Λ₁.n xCall r2.view r2.nn hor.ext r1.nn s2.toks σ₃ h.units h.depth hitem LT.here Ne.symm h2.get? oc.data L.has hf.uniq hideAll sm.inst qs'.map".splitOn " ").toArray
def kmuC (c:Char):Nat:=if c.isDigit then c.toNat-48 else if c.isUpper then c.toNat-55 else c.toNat-61
def kmuX (t:Array String) (x:Syntax):Syntax :=
 match x with
 | .ident _ _ (.str .anonymous s) _ =>
  let l:=s.toList.map fun c=>(c,kmuC c)
  let f:="QXYZ".toList.idxOf (l.headD (' ',0)).1
  let i:=if l.length == 2 then f*62+(l.getD 1 (' ',0)).2 else if l.length == 3 then 248+(f*62+(l.getD 1 (' ',0)).2)*62+(l.getD 2 (' ',0)).2 else t.size
  if f < 4&&i < t.size&&s.all Char.isAlphanum then mkIdent (t.getD i "").toName else x.setInfo .none
 | _=>x.setInfo .none
def kmuM (s:Syntax):MacroM Syntax :=
 let cs:=(s.getArg 1).getArgs
 let t:=kmuT
 let isd (c:Syntax) (k:Name):Bool:=(c.getArg 1).getKind == `Lean.Parser.Command++k
 if cs.any fun c=>isd c `theorem then
  pure (mkNode `null (cs.map fun c =>
   let c:=c.rewriteBottomUp (kmuX t)
   if isd c `definition || isd c `abbrev then c.setArg 0 ((c.getArg 0).setArg 4 (mkNode `null #[mkNode `Lean.Parser.Command.noncomputable #[mkAtom "noncomputable"]])) else c))
 else Macro.throwUnsupported
end Mini
end
local macro_rules (kind:=Lean.Parser.Command.mutual) | s=>Mini.kmuM s
section
open PySem PySem.W PyProof.Rows
namespace Mine
mutual
def agb {α:Type} (as:XM α) (p:α->Qu) (QF9:QH:=0) (stop:QH:=as.size):Qu :=
 match Q8K QF9 0&&Q8K QAM stop with
 | QM=>QBp as.toList p
 | QJ=>as.any p QF9 stop
theorem anyL_eq:@Array.any.{0}=@agb:=by
 funext α as p QF9 stop
 unfold agb
 cases h:Q8K QF9 0&&Q8K QAM stop with
 | QJ=>rfl
 | QM =>
  obtain (⟨h1,h2⟩):=Q1a h
  obtain QA:=Q0y h1
  obtain QA:as.size=stop:=Q0y h2
  show as.any p=QBp as.toList p
  rw [<- PySem.W.R.anyR_eq,Array.any_toList]
def tbF (f:Builtin) (id:XA):QW Builtin:=match Q8W id "type.__new__" with
 | .Q7V _=>QB f
 | .isFalse _=>PySem.W.Fast.tw14364793385576792824 id
theorem tbF_eq:treeTable=tbF Q0s:=by
 funext id
 unfold tbF
 cases h:Q8W id "type.__new__" with
 | isFalse _=>exact congrFun PySem.W.Fast.te14364793385576792824 id
 | Q7V e =>
  subst e
  show treeTable "type.__new__"=QB Q0s
  rw [<- PySem.W.Fast.te4202317264376624991]
  kernel_rfl
def goS (l:QC UInt8):(QC QH->X6)->X6:=Q0Z (Y7:=fun _=>(QC QH->X6)->X6) (fun k=>k [])
 (fun b _ ih k=>Q8L (Y7:=fun _=>X6) (ih fun l=>k (0::l)) (fun m _=>ih fun l=>k (Q5A m::l)) Q9b) l
theorem JS:∀(l:QC UInt8) (k:QC QH->X6),goS l k=k (QGg QBC)
 | [],_=>QA
 | b::l,k=>by
  show Q8L (Y7:=fun _=>X6) (goS l fun l=>k (0::l)) (fun m _=>goS l fun l=>k (Q5A m::l)) Q9b=k (Q9b::QGg QBC)
  cases h:Q9b with
  | Q2Q=>exact JS l _
  | Q2R m=>exact JS l _
theorem KR:∀l:QC UInt8,Q6H l=QM->cpsOfBytes 0 0 l=QGg QBC
 | [],_=>QA
 | b::l,h=>by
  rw [PySem.W.S.allLow_cons,X7]at h
  have:Q9b < 128:=Q9c (Q0z h.1)
  rw [cpsOfBytes,QY this,KR l h.2];rfl
def quickS (s:XA):X6:=Q7W (Y7:=fun _=>X6) (Qb s) (goS (Q3b s) fun l=>⟨⟨l⟩⟩) (Q6H (Q3b s))
theorem quickS_eq:@Qb=quickS:=by
 funext s
 unfold quickS
 cases h:Q6H (Q3b s) with
 | QJ=>rfl
 | QM =>
  show _=goS (Q3b s) fun l=>⟨⟨l⟩⟩
  rw [JS,<- KR _ h];rfl
def ofC (cs:QC Q4e):X6:=⟨⟨PySem.W.R.mapR Char.toNat cs⟩⟩
theorem longS {s:X6} {cs:QC Q4e} (h:s=Qb (Q0i cs)):s=ofC cs:=by
 rw [h,PySem.W.Fast.ofString_ofList,ofC,<- PySem.W.R.mapR_eq]
end
end Mine
end
section
open PySem
namespace Mini
noncomputable def xSE {α:Type} (s:Stmt) (f:Expr->α) (d:α):α:=by apply @Stmt.casesOn (fun _=>α) s;(case Expr=>exact fun e _=>f e);all_goals ((repeat intro a);exact d)
noncomputable def xSA {α:Type} (s:Stmt) (f:Expr->α) (d:α):α:=by apply @Stmt.casesOn (fun _=>α) s;(case Assign=>exact fun _ e _=>f e);all_goals ((repeat intro a);exact d)
noncomputable def xSF {α:Type} (s:Stmt) (f:List Stmt->α) (d:α):α:=by apply @Stmt.casesOn (fun _=>α) s;(case For=>exact fun _ _ b _ _=>f b);all_goals ((repeat intro a);exact d)
noncomputable def xSC {α:Type} (s:Stmt) (f:List Stmt->α) (d:α):α:=by apply @Stmt.casesOn (fun _=>α) s;(case ClassDef=>exact fun _ _ _ b _ _ _ _ _ _ _=>f b);all_goals ((repeat intro a);exact d)
noncomputable def xSD {α:Type} (s:Stmt) (f:Arguments->List Stmt->Scope->Pos->α) (d:α):α:=by apply @Stmt.casesOn (fun _=>α) s;(case FunctionDef=>exact fun _ a b _ _ _ s _ _ p=>f a b s p);all_goals ((repeat intro a);exact d)
noncomputable def xEK {α:Type} (e:Expr) (f:Const->α) (d:α):α:=by apply @Expr.casesOn (fun _=>α) e;(case Constant=>exact fun k _ _=>f k);all_goals ((repeat intro a);exact d)
noncomputable def xEL {α:Type} (e:Expr) (f:Pos->α) (d:α):α:=by apply @Expr.casesOn (fun _=>α) e;(case Lambda=>exact fun _ _ _ p=>f p);all_goals ((repeat intro a);exact d)
noncomputable def xKS {α:Type} (k:Const) (f:Str->α) (d:α):α:=by apply @Const.casesOn (fun _=>α) k;(case str=>exact f);all_goals ((repeat intro a);exact d)
end Mini
end
section
open PySem PySem.W PyProof.Rows
set_option maxRecDepth 100000
set_option maxHeartbeats 8000000
namespace Mine01
mutual
def stF (p:Q3F) (i:QH):YW:=p.main.body.getD i Zs
def st (i:QH):YW:=stF YN i
def Pr (s:YW):QC YW:=Mini.xSC s (fun b=>b) []
def sub (s:YW) (j:QH):YW:=(Pr s).Q4f j Zs
def fnP (s:YW):Q53:=QBq s (fun a _ _ _=>a) Zs
def fnB (s:YW):QC YW:=QBq s (fun _ b _ _=>b) []
def fnS (s:YW):Q0J:=QBq s (fun _ _ s _=>s) Zs
def Bb (l:QC YW):X6:=match l with
 | []=>QAN
 | s::_=>Mini.xSE s (fun e=>Mini.xEK e (fun k=>Mini.xKS k (fun s=>s) QAN) QAN) QAN
def dL1:X6:=Bb (Pr (st 6))
def dC1:QC Q4e:=by
 refine' (?f:∀p:QC Q4e,dL1=Qb (Q0i p)->QC Q4e) _ ?u
 case f=>exact fun p _=>p
 case u =>
  have e:dL1=Qb _:=QA
  exact e
def dN1:X6:=Q5B dC1
theorem dl1:dL1=dN1:=Q3J (by kernel_rfl)
def dL2:X6:=Bb (fnB (st 8))
def dC2:QC Q4e:=by
 refine' (?f:∀p:QC Q4e,dL2=Qb (Q0i p)->QC Q4e) _ ?u
 case f=>exact fun p _=>p
 case u =>
  have e:dL2=Qb _:=QA
  exact e
def dN2:X6:=Q5B dC2
theorem dl2:dL2=dN2:=Q3J (by kernel_rfl)
def dL3:X6:=Bb (fnB (sub (st 6) 1))
def dC3:QC Q4e:=by
 refine' (?f:∀p:QC Q4e,dL3=Qb (Q0i p)->QC Q4e) _ ?u
 case f=>exact fun p _=>p
 case u =>
  have e:dL3=Qb _:=QA
  exact e
def dN3:X6:=Q5B dC3
theorem dl3:dL3=dN3:=Q3J (by kernel_rfl)
def dL4:X6:=Bb (fnB (sub (st 6) 10))
def dC4:QC Q4e:=by
 refine' (?f:∀p:QC Q4e,dL4=Qb (Q0i p)->QC Q4e) _ ?u
 case f=>exact fun p _=>p
 case u =>
  have e:dL4=Qb _:=QA
  exact e
def dN4:X6:=Q5B dC4
theorem dl4:dL4=dN4:=Q3J (by kernel_rfl)
def dL5:X6:=Bb (fnB (sub (st 6) 3))
def dC5:QC Q4e:=by
 refine' (?f:∀p:QC Q4e,dL5=Qb (Q0i p)->QC Q4e) _ ?u
 case f=>exact fun p _=>p
 case u =>
  have e:dL5=Qb _:=QA
  exact e
def dN5:X6:=Q5B dC5
theorem dl5:dL5=dN5:=Q3J (by kernel_rfl)
def dL6:X6:=Bb (fnB (sub (st 6) 4))
def dC6:QC Q4e:=by
 refine' (?f:∀p:QC Q4e,dL6=Qb (Q0i p)->QC Q4e) _ ?u
 case f=>exact fun p _=>p
 case u =>
  have e:dL6=Qb _:=QA
  exact e
def dN6:X6:=Q5B dC6
theorem dl6:dL6=dN6:=Q3J (by kernel_rfl)
def dL7:X6:=Bb (fnB (sub (st 6) 6))
def dC7:QC Q4e:=by
 refine' (?f:∀p:QC Q4e,dL7=Qb (Q0i p)->QC Q4e) _ ?u
 case f=>exact fun p _=>p
 case u =>
  have e:dL7=Qb _:=QA
  exact e
def dN7:X6:=Q5B dC7
theorem dl7:dL7=dN7:=Q3J (by kernel_rfl)
def dL8:X6:=Bb (fnB (sub (st 6) 7))
def dC8:QC Q4e:=by
 refine' (?f:∀p:QC Q4e,dL8=Qb (Q0i p)->QC Q4e) _ ?u
 case f=>exact fun p _=>p
 case u =>
  have e:dL8=Qb _:=QA
  exact e
def dN8:X6:=Q5B dC8
theorem dl8:dL8=dN8:=Q3J (by kernel_rfl)
def dIx (_:Q3F):Type:=YV
def pwF:X6->X6->X6->X6->X6->X6->X6->X6->(XA->X6)->Q3F:=by
 refine' (?f:∀p:X6->X6->X6->X6->X6->X6->X6->X6->(XA->X6)->Q3F,dIx (p dL1 dL2 dL3 dL4 dL5 dL6 dL7 dL8 Qb)->X6->X6->X6->X6->X6->X6->X6->X6->(XA->X6)->Q3F) _ ?u
 case f=>exact fun p _=>p
 case u =>
  have x:dIx YN:=()
  delta YN at x
  have e1:dL1=Qb _:=QA
  have e2:dL2=Qb _:=QA
  have e3:dL3=Qb _:=QA
  have e4:dL4=Qb _:=QA
  have e5:dL5=Qb _:=QA
  have e6:dL6=Qb _:=QA
  have e7:dL7=Qb _:=QA
  have e8:dL8=Qb _:=QA
  rw [<- e1,<- e2,<- e3,<- e4,<- e5,<- e6,<- e7,<- e8]at x
  clear e1 e2 e3 e4 e5 e6 e7 e8
  generalize dL1=d1 at x ⊢;generalize dL2=d2 at x ⊢;generalize dL3=d3 at x ⊢;generalize dL4=d4 at x ⊢;generalize dL5=d5 at x ⊢;generalize dL6=d6 at x ⊢;generalize dL7=d7 at x ⊢;generalize dL8=d8 at x ⊢
  generalize Qb=S at x ⊢
  exact x
def dTw:Q3F:=pwF dN1 dN2 dN3 dN4 dN5 dN6 dN7 dN8 QFA
theorem dPe:YN=dTw:=by
 rw [dTw,<- Q7X,<- dl1,<- dl2,<- dl3,<- dl4,<- dl5,<- dl6,<- dl7,<- dl8]
 kernel_rfl
def p2 (F:XA->X6) (S:QH->YW) (P:Ql):ZC:=⟨.QG,QG,(.Q01 ([⟨QL P (F "\x69mport.loaded._sre"),(.Xs (F "\x69mport.loaded._sre") 183),(.Yn QM)⟩,⟨QL P (F "class._frozen_importlib.BuiltinImporter"),(.Xs (F "class._frozen_importlib.BuiltinImporter") 185),(.QP 14)⟩,⟨QL P (F "watched.\x69mport"),(.Xs (F "watched.\x69mport") 206),(.QP 18)⟩,⟨QL P (F "class._frozen_importlib.ModuleSpec"),(.Xs (F "class._frozen_importlib.ModuleSpec") 216),(.QP 22)⟩,⟨QL P (F "sys.modules.booked-epoch"),(.Xs (F "sys.modules.booked-epoch") 245),(.Qm (3) 0)⟩,⟨QL P (F "\x69mport.later-laid._sre"),(.Xs (F "\x69mport.later-laid._sre") 270),(.Yn QM)⟩,⟨QL P (F "watched.library"),(.Xs (F "watched.library") 272),(.QP 27)⟩,⟨QL P (F "watched.library-objects"),(.Xs (F "watched.library-objects") 0),(.Xs (Str.mk #[12]) 0)⟩,⟨QL P (F "watched.library-deep._sre"),(.Xs (F "watched.library-deep._sre") 273),(.Xs (Str.mk #[4,0,0,11,4,0,0,11,4,0,0,3,4,0,0,11,8,4,100,105,99,116,2]) 0)⟩]:QC ZS).Xe 9),#[]⟩
def p3 (F:XA->X6) (S:QH->YW) (P:Ql):ZC:=⟨(.Qk "dict"),QG,(.Q01 ([⟨QL P (F "__name__"),(.Xs (F "__name__") 165),(.Xs (F "law_dm0061_01") 721)⟩,⟨QL P (F "__doc__"),(.Xs (F "__doc__") 166),.QG⟩,⟨QL P (F "__package__"),(.Xs (F "__package__") 167),.QG⟩,⟨QL P (F "__loader__"),(.Xs (F "__loader__") 168),(.Qd "__main__.__loader__#opaque")⟩,⟨QL P (F "__spec__"),(.Xs (F "__spec__") 169),.QG⟩,⟨QL P (F "__annotations__"),(.Xs (F "__annotations__") 170),(.QP 6)⟩,⟨QL P (F "__builtins__"),(.Xs (F "__builtins__") 171),(.QP 4)⟩,⟨QL P (F "__file__"),(.Xs (F "__file__") 173),(.Xs (F "/claim/cut.py") 172)⟩,⟨QL P (F "__cached__"),(.Xs (F "__cached__") 174),.QG⟩,⟨QL P (F "_sre"),(.Xs (F "_sre") 275),(.QP 12)⟩,⟨QL P (F "_wall"),(.Xs (F "_wall") 288),(.QP 38)⟩,⟨QL P (F "_tuplegetter"),(.Xs (F "_tuplegetter") 347),(.QP 77)⟩,⟨QL P (F "Match"),(.Xs (F "Match") 475),(.QP 152)⟩,⟨QL P (F "_calculate_ratio"),(.Xs (F "_calculate_ratio") 483),(.QP 162)⟩,⟨QL P (F "SequenceMatcher"),(.Xs (F "SequenceMatcher") 669),(.QP 259)⟩,⟨QL P (F "_twin_re_1"),(.Xs (F "_twin_re_1") 710),(.QP 268)⟩,⟨QL P (F "IS_LINE_JUNK"),(.Xs (F "IS_LINE_JUNK") 720),(.QP 277)⟩,⟨QL P (F "_law_dress"),(.Xs (F "_law_dress") 736),(.QP 284)⟩,⟨QL P (F "_law_blocks"),(.Xs (F "_law_blocks") 742),(.QP 289)⟩,⟨QL P (F "_law_goes_no_further"),(.Xs (F "_law_goes_no_further") 748),(.QP 294)⟩,⟨QL P (F "law"),(.Xs (F "law") 754),(.QP 299)⟩]:QC ZS).Xe 21),#[]⟩
def p76 (F:XA->X6) (S:QH->YW) (P:Ql):ZC:=⟨(.Qk "dict"),QG,(.Q01 ([⟨QL P (F "__module__"),(.Xs (F "__module__") 298),(.Xs (F "cpy313.difflib") 289)⟩,⟨QL P (F "__firstlineno__"),(.Xs (F "__firstlineno__") 302),(.Qm (6) 301)⟩,⟨QL P (F "__init__"),(.Xs (F "__init__") 311),(.QP 52)⟩,⟨QL P (F "__get__"),(.Xs (F "__get__") 320),(.QP 60)⟩,⟨QL P (F "__set__"),(.Xs (F "__set__") 329),(.QP 67)⟩,⟨QL P (F "__delete__"),(.Xs (F "__delete__") 337),(.QP 74)⟩,⟨QL P (F "__static_attributes__"),(.Xs (F "__static_attributes__") 340),(.QP 75)⟩,⟨QL P (F "__dict__"),(.Xs (F "__dict__") 342),(.QP 78)⟩,⟨QL P (F "__weakref__"),(.Xs (F "__weakref__") 344),(.QP 79)⟩,⟨QL P (F "__doc__"),(.Xs (F "__doc__") 345),.QG⟩]:QC ZS).Xe 4),#[]⟩
def p77 (F:XA->X6) (S:QH->YW) (P:Ql):ZC:=⟨(.Qk "type"),QG,(.cls {Q1u:=(F "_tuplegetter"),bases:=[(.Qk "object")],mro:=[(.QP 77),(.Qk "object")],ns:=76,Q0a:=(F "_tuplegetter"),QGh:=QM,QDN:=[],QBr:=[],QFB:=QJ,QBs:=QG,hasDel:=QJ}),#[QG,QG,(QB (.Xs (F "_tuplegetter") 291)),(QB (.Xs (F "_tuplegetter") 299)),(QB (.Qd "object.__new__")),(QB (.Yn QM))]⟩
def p78 (F:XA->X6) (S:QH->YW) (P:Ql):ZC:=⟨(.Qk "getset_descriptor"),QG,(.Xo #[(.Xs (F "__dict__") 341),(.QP 77),(.Qd "function.__dict__"),(.Qd "function.__dict__#set")]),#[]⟩
def p79 (F:XA->X6) (S:QH->YW) (P:Ql):ZC:=⟨(.Qk "getset_descriptor"),QG,(.Xo #[(.Xs (F "__weakref__") 343),(.QP 77),(.Qd "ExceptionGroup.__weakref__"),.QG]),#[]⟩
def p85 (F:XA->X6) (S:QH->YW) (P:Ql):ZC:=⟨(.Qk "cell"),QG,(.YQ (QB (.QP 152))),#[]⟩
def p92 (F:XA->X6) (S:QH->YW) (P:Ql):ZC:=⟨(.Qk "dict"),QG,(.Q01 ([]:QC ZS).Xe 0),#[]⟩
def p98 (F:XA->X6) (S:QH->YW) (P:Ql):ZC:=⟨(.Qk "code"),QG,(.Xo #[(.Xs (F "__new__") 369),(.Xs (F "Match.__new__") 370),(.Xs (F "/claim/cut.py") 371),(.Qm (30) 0),(.Qm (4) 0),(.Qm (0) 0),(.Qm (0) 0),(.Qm (3) 0),(.QP 93),(.Yn QM),(.Qm (276) 0),(.QP 94),.QG,(.QP 95),(.QP 96),(.QP 97),(.Qm (376) 0),(.Qm (30) 0),(.Xs (F "/claim/cut.py") 377)]),#[]⟩
def p99 (F:XA->X6) (S:QH->YW) (P:Ql):ZC:=⟨(.Qk "function"),QG,(.Q7Y {Q1u:=(F "__new__"),Q0a:=(F "Match.__new__"),Q44:=fnP (sub (S 4) 4),YZ:=.Q5e (fnB (sub (S 4) 4)),Qv:=fnS (sub (S 4) 4),Q2g:=3,Q2h:=[],Q1b:=.QG,Q09:=.QG,doc:=(.Xs (Bb (fnB (sub (S 4) 4))) 378),Q1c:=(.Xs (F "cpy313.difflib") 289),Zb:=QG,Q0o:=(.QP 98),ZM:=.QG,Q1d:=0}),#[]⟩
def aio (F:XA->X6) (S:QH->YW) (P:Ql):ZC:=⟨(.Qk "code"),QG,(.Xo #[(.Xs (F "_make") 380),(.Xs (F "Match._make") 381),(.Xs (F "/claim/cut.py") 382),(.Qm (34) 0),(.Qm (2) 0),(.Qm (0) 0),(.Qm (0) 0),(.Qm (3) 0),(.QP 100),(.Yn QM),(.Qm (276) 0),(.QP 101),.QG,(.QP 102),(.QP 103),(.QP 104),(.Qm (386) 0),(.Qm (34) 0),(.Xs (F "/claim/cut.py") 387)]),#[]⟩
def afl (F:XA->X6) (S:QH->YW) (P:Ql):ZC:=⟨(.Qk "function"),QG,(.Q7Y {Q1u:=(F "_make"),Q0a:=(F "Match._make"),Q44:=fnP (sub (S 4) 5),YZ:=.Q5e (fnB (sub (S 4) 5)),Qv:=fnS (sub (S 4) 5),Q2g:=3,Q2h:=[],Q1b:=.QG,Q09:=.QG,doc:=(.Xs (Bb (fnB (sub (S 4) 5))) 388),Q1c:=(.Xs (F "cpy313.difflib") 289),Zb:=(QB 109),Q0o:=(.QP 105),ZM:=.QG,Q1d:=0}),#[]⟩
def ain (F:XA->X6) (S:QH->YW) (P:Ql):ZC:=⟨(.Qk "dict"),QG,(.Q01 ([⟨QL P (F "__module__"),(.Xs (F "__module__") 390),(.Xs (F "cpy313.difflib") 289)⟩,⟨QL P (F "__name__"),(.Xs (F "__name__") 393),(.Xs (F "_make") 392)⟩,⟨QL P (F "__qualname__"),(.Xs (F "__qualname__") 396),(.Xs (F "Match._make") 395)⟩,⟨QL P (F "__doc__"),(.Xs (F "__doc__") 398),(.Xs (Bb (fnB (sub (S 4) 5))) 388)⟩,⟨QL P (F "__annotations__"),(.Xs (F "__annotations__") 400),(.QP 109)⟩]:QC ZS).Xe 5),#[]⟩
def aim (F:XA->X6) (S:QH->YW) (P:Ql):ZC:=⟨(.Qk "classmethod"),(QB 107),(.Xo #[(.QP 106),(.Yn QJ)]),#[]⟩
def ail (F:XA->X6) (S:QH->YW) (P:Ql):ZC:=⟨(.Qk "dict"),QG,(.Q01 ([]:QC ZS).Xe 0),#[]⟩
def aik (F:XA->X6) (S:QH->YW) (P:Ql):ZC:=⟨(.Qk "dict"),QG,(.Q01 ([⟨QL P (F "index"),(.Xs (F "index") 447),(.Qm (0) 441)⟩,⟨QL P (F "__doc__"),(.Xs (F "__doc__") 449),(.Xs (F "Alias for field number 0") 442)⟩]:QC ZS).Xe 2),#[]⟩
def aij (F:XA->X6) (S:QH->YW) (P:Ql):ZC:=⟨(.QP 77),(QB 140),.Q4U,#[]⟩
def aii (F:XA->X6) (S:QH->YW) (P:Ql):ZC:=⟨(.Qk "dict"),QG,(.Q01 ([⟨QL P (F "index"),(.Xs (F "index") 457),(.Qm (1) 451)⟩,⟨QL P (F "__doc__"),(.Xs (F "__doc__") 459),(.Xs (F "Alias for field number 1") 452)⟩]:QC ZS).Xe 2),#[]⟩
def aih (F:XA->X6) (S:QH->YW) (P:Ql):ZC:=⟨(.QP 77),(QB 143),.Q4U,#[]⟩
def aig (F:XA->X6) (S:QH->YW) (P:Ql):ZC:=⟨(.Qk "dict"),QG,(.Q01 ([⟨QL P (F "index"),(.Xs (F "index") 467),(.Qm (2) 461)⟩,⟨QL P (F "__doc__"),(.Xs (F "__doc__") 469),(.Xs (F "Alias for field number 2") 462)⟩]:QC ZS).Xe 2),#[]⟩
def aif (F:XA->X6) (S:QH->YW) (P:Ql):ZC:=⟨(.QP 77),(QB 146),.Q4U,#[]⟩
def aie (F:XA->X6) (S:QH->YW) (P:Ql):ZC:=⟨(.Qk "dict"),QG,(.Q01 ([⟨QL P (F "__module__"),(.Xs (F "__module__") 355),(.Xs (F "cpy313.difflib") 289)⟩,⟨QL P (F "__firstlineno__"),(.Xs (F "__firstlineno__") 359),(.Qm (24) 358)⟩,⟨QL P (F "__doc__"),(.Xs (F "__doc__") 361),(.Xs (Bb (Pr (S 4))) 360)⟩,⟨QL P (F "__slots__"),(.Xs (F "__slots__") 363),(.QP 90)⟩,⟨QL P (F "_fields"),(.Xs (F "_fields") 367),(.QP 91)⟩,⟨QL P (F "_field_defaults"),(.Xs (F "_field_defaults") 368),(.QP 92)⟩,⟨QL P (F "__new__"),(.Xs (F "__new__") 379),(.QP 153)⟩,⟨QL P (F "_make"),(.Xs (F "_make") 401),(.QP 108)⟩,⟨QL P (F "_replace"),(.Xs (F "_replace") 412),(.QP 117)⟩,⟨QL P (F "__replace__"),(.Xs (F "__replace__") 413),(.QP 117)⟩,⟨QL P (F "__repr__"),(.Xs (F "__repr__") 421),(.QP 124)⟩,⟨QL P (F "_asdict"),(.Xs (F "_asdict") 428),(.QP 131)⟩,⟨QL P (F "__getnewargs__"),(.Xs (F "__getnewargs__") 436),(.QP 138)⟩,⟨QL P (F "__match_args__"),(.Xs (F "__match_args__") 440),(.QP 139)⟩,⟨QL P (F "a"),(.Xs (F "a") 450),(.QP 141)⟩,⟨QL P (F "b"),(.Xs (F "b") 460),(.QP 144)⟩,⟨QL P (F "size"),(.Xs (F "size") 470),(.QP 147)⟩,⟨QL P (F "__static_attributes__"),(.Xs (F "__static_attributes__") 471),(.QP 149)⟩]:QC ZS).Xe 2),#[]⟩
def aid (F:XA->X6) (S:QH->YW) (P:Ql):ZC:=⟨(.Qk "type"),QG,(.cls {Q1u:=(F "Match"),bases:=[(.Qk "tuple")],mro:=[(.QP 152),(.Qk "tuple"),(.Qk "object")],ns:=151,Q0a:=(F "Match"),QGh:=QJ,QDN:=[],QBr:=[],QFB:=QJ,QBs:=QG,hasDel:=QJ}),#[(QB (.QP 82)),QG,(QB (.Xs (F "Match") 348)),(QB (.Xs (F "Match") 356)),(QB .QG),(QB (.Yn QJ))]⟩
def aic (F:XA->X6) (S:QH->YW) (P:Ql):ZC:=⟨(.Qk "staticmethod"),QG,(.Xo #[(.QP 99)]),#[]⟩
def aib (F:XA->X6) (S:QH->YW) (P:Ql):ZC:=⟨(.Qk "tuple"),QG,(.seq #[.QG,(.Xs (F "") 499),(.Xs (F "") 500),(.Yn QM)] 0),#[]⟩
def aia (F:XA->X6) (S:QH->YW) (P:Ql):ZC:=⟨(.Qk "code"),QG,(.Xo #[(.Xs (F "__init__") 501),(.Xs (F "SequenceMatcher.__init__") 502),(.Xs (F "/claim/cut.py") 503),(.Qm (146) 0),(.Qm (5) 0),(.Qm (0) 0),(.Qm (0) 0),(.Qm (3) 0),(.QP 171),(.Yn QM),(.Qm (276) 0),(.QP 172),.QG,(.QP 173),(.QP 174),(.QP 175),(.Qm (509) 0),(.Qm (146) 0),(.Xs (F "/claim/cut.py") 510)]),#[]⟩
def afk (F:XA->X6) (S:QH->YW) (P:Ql):ZC:=⟨(.Qk "function"),QG,(.Q7Y {Q1u:=(F "__init__"),Q0a:=(F "SequenceMatcher.__init__"),Q44:=fnP (sub (S 6) 1),YZ:=.Q5e (fnB (sub (S 6) 1)),Qv:=fnS (sub (S 6) 1),Q2g:=3,Q2h:=[],Q1b:=(.QP 170),Q09:=.QG,doc:=(.Xs (Bb (fnB (sub (S 6) 1))) 511),Q1c:=(.Xs (F "cpy313.difflib") 289),Zb:=QG,Q0o:=(.QP 176),ZM:=.QG,Q1d:=0}),#[]⟩
def ah9 (F:XA->X6) (S:QH->YW) (P:Ql):ZC:=⟨(.Qk "code"),QG,(.Xo #[(.Xs (F "set_seqs") 513),(.Xs (F "SequenceMatcher.set_seqs") 514),(.Xs (F "/claim/cut.py") 515),(.Qm (174) 0),(.Qm (3) 0),(.Qm (0) 0),(.Qm (0) 0),(.Qm (3) 0),(.QP 178),(.Yn QM),(.Qm (276) 0),(.QP 179),.QG,(.QP 180),(.QP 181),(.QP 182),(.Qm (519) 0),(.Qm (174) 0),(.Xs (F "/claim/cut.py") 520)]),#[]⟩
def afj (F:XA->X6) (S:QH->YW) (P:Ql):ZC:=⟨(.Qk "function"),QG,(.Q7Y {Q1u:=(F "set_seqs"),Q0a:=(F "SequenceMatcher.set_seqs"),Q44:=fnP (sub (S 6) 2),YZ:=.Q5e (fnB (sub (S 6) 2)),Qv:=fnS (sub (S 6) 2),Q2g:=3,Q2h:=[],Q1b:=.QG,Q09:=.QG,doc:=(.Xs (Bb (fnB (sub (S 6) 2))) 521),Q1c:=(.Xs (F "cpy313.difflib") 289),Zb:=QG,Q0o:=(.QP 183),ZM:=.QG,Q1d:=0}),#[]⟩
def ah8 (F:XA->X6) (S:QH->YW) (P:Ql):ZC:=⟨(.Qk "code"),QG,(.Xo #[(.Xs (F "set_seq1") 523),(.Xs (F "SequenceMatcher.set_seq1") 524),(.Xs (F "/claim/cut.py") 525),(.Qm (185) 0),(.Qm (2) 0),(.Qm (0) 0),(.Qm (0) 0),(.Qm (3) 0),(.QP 185),(.Yn QM),(.Qm (276) 0),(.QP 186),.QG,(.QP 187),(.QP 188),(.QP 189),(.Qm (528) 0),(.Qm (185) 0),(.Xs (F "/claim/cut.py") 529)]),#[]⟩
def afi (F:XA->X6) (S:QH->YW) (P:Ql):ZC:=⟨(.Qk "function"),QG,(.Q7Y {Q1u:=(F "set_seq1"),Q0a:=(F "SequenceMatcher.set_seq1"),Q44:=fnP (sub (S 6) 3),YZ:=.Q5e (fnB (sub (S 6) 3)),Qv:=fnS (sub (S 6) 3),Q2g:=3,Q2h:=[],Q1b:=.QG,Q09:=.QG,doc:=(.Xs (Bb (fnB (sub (S 6) 3))) 530),Q1c:=(.Xs (F "cpy313.difflib") 289),Zb:=QG,Q0o:=(.QP 190),ZM:=.QG,Q1d:=0}),#[]⟩
def ah7 (F:XA->X6) (S:QH->YW) (P:Ql):ZC:=⟨(.Qk "code"),QG,(.Xo #[(.Xs (F "set_seq2") 532),(.Xs (F "SequenceMatcher.set_seq2") 533),(.Xs (F "/claim/cut.py") 534),(.Qm (210) 0),(.Qm (2) 0),(.Qm (0) 0),(.Qm (0) 0),(.Qm (3) 0),(.QP 192),(.Yn QM),(.Qm (276) 0),(.QP 193),.QG,(.QP 194),(.QP 195),(.QP 196),(.Qm (537) 0),(.Qm (210) 0),(.Xs (F "/claim/cut.py") 538)]),#[]⟩
def afh (F:XA->X6) (S:QH->YW) (P:Ql):ZC:=⟨(.Qk "function"),QG,(.Q7Y {Q1u:=(F "set_seq2"),Q0a:=(F "SequenceMatcher.set_seq2"),Q44:=fnP (sub (S 6) 4),YZ:=.Q5e (fnB (sub (S 6) 4)),Qv:=fnS (sub (S 6) 4),Q2g:=3,Q2h:=[],Q1b:=.QG,Q09:=.QG,doc:=(.Xs (Bb (fnB (sub (S 6) 4))) 539),Q1c:=(.Xs (F "cpy313.difflib") 289),Zb:=QG,Q0o:=(.QP 197),ZM:=.QG,Q1d:=0}),#[]⟩
def ah6 (F:XA->X6) (S:QH->YW) (P:Ql):ZC:=⟨(.Qk "code"),QG,(.Xo #[(.Xs (F "__chain_b") 541),(.Xs (F "SequenceMatcher.__chain_b") 542),(.Xs (F "/claim/cut.py") 543),(.Qm (237) 0),(.Qm (1) 0),(.Qm (0) 0),(.Qm (0) 0),(.Qm (3) 0),(.QP 199),(.Yn QM),(.Qm (276) 0),(.QP 200),.QG,(.QP 201),(.QP 202),(.QP 203),(.Qm (556) 0),(.Qm (237) 0),(.Xs (F "/claim/cut.py") 557)]),#[]⟩
def afg (F:XA->X6) (S:QH->YW) (P:Ql):ZC:=⟨(.Qk "function"),QG,(.Q7Y {Q1u:=(F "__chain_b"),Q0a:=(F "SequenceMatcher.__chain_b"),Q44:=fnP (sub (S 6) 5),YZ:=.Q5e (fnB (sub (S 6) 5)),Qv:=fnS (sub (S 6) 5),Q2g:=3,Q2h:=[],Q1b:=.QG,Q09:=.QG,doc:=.QG,Q1c:=(.Xs (F "cpy313.difflib") 289),Zb:=QG,Q0o:=(.QP 204),ZM:=.QG,Q1d:=0}),#[]⟩
def ah5 (F:XA->X6) (S:QH->YW) (P:Ql):ZC:=⟨(.Qk "tuple"),QG,(.seq #[(.Qm (0) 559),.QG,(.Qm (0) 560),.QG] 0),#[]⟩
def ah4 (F:XA->X6) (S:QH->YW) (P:Ql):ZC:=⟨(.Qk "code"),QG,(.Xo #[(.Xs (F "find_longest_match") 561),(.Xs (F "SequenceMatcher.find_longest_match") 562),(.Xs (F "/claim/cut.py") 563),(.Qm (261) 0),(.Qm (5) 0),(.Qm (0) 0),(.Qm (0) 0),(.Qm (3) 0),(.QP 207),(.Yn QM),(.Qm (276) 0),(.QP 208),.QG,(.QP 209),(.QP 210),(.QP 211),(.Qm (583) 0),(.Qm (261) 0),(.Xs (F "/claim/cut.py") 584)]),#[]⟩
def aff (F:XA->X6) (S:QH->YW) (P:Ql):ZC:=⟨(.Qk "function"),QG,(.Q7Y {Q1u:=(F "find_longest_match"),Q0a:=(F "SequenceMatcher.find_longest_match"),Q44:=fnP (sub (S 6) 6),YZ:=.Q5e (fnB (sub (S 6) 6)),Qv:=fnS (sub (S 6) 6),Q2g:=3,Q2h:=[],Q1b:=(.QP 206),Q09:=.QG,doc:=(.Xs (Bb (fnB (sub (S 6) 6))) 585),Q1c:=(.Xs (F "cpy313.difflib") 289),Zb:=QG,Q0o:=(.QP 212),ZM:=.QG,Q1d:=0}),#[]⟩
def ah3 (F:XA->X6) (S:QH->YW) (P:Ql):ZC:=⟨(.Qk "code"),QG,(.Xo #[(.Xs (F "get_matching_blocks") 587),(.Xs (F "SequenceMatcher.get_matching_blocks") 588),(.Xs (F "/claim/cut.py") 589),(.Qm (336) 0),(.Qm (1) 0),(.Qm (0) 0),(.Qm (0) 0),(.Qm (3) 0),(.QP 214),(.Yn QM),(.Qm (276) 0),(.QP 215),.QG,(.QP 216),(.QP 217),(.QP 218),(.Qm (610) 0),(.Qm (336) 0),(.Xs (F "/claim/cut.py") 611)]),#[]⟩
def afe (F:XA->X6) (S:QH->YW) (P:Ql):ZC:=⟨(.Qk "function"),QG,(.Q7Y {Q1u:=(F "get_matching_blocks"),Q0a:=(F "SequenceMatcher.get_matching_blocks"),Q44:=fnP (sub (S 6) 7),YZ:=.Q5e (fnB (sub (S 6) 7)),Qv:=fnS (sub (S 6) 7),Q2g:=3,Q2h:=[],Q1b:=.QG,Q09:=.QG,doc:=(.Xs (Bb (fnB (sub (S 6) 7))) 612),Q1c:=(.Xs (F "cpy313.difflib") 289),Zb:=QG,Q0o:=(.QP 219),ZM:=.QG,Q1d:=0}),#[]⟩
def ah2 (F:XA->X6) (S:QH->YW) (P:Ql):ZC:=⟨(.Qk "dict"),QG,(.Q01 ([⟨QL P (F "__module__"),(.Xs (F "__module__") 491),(.Xs (F "cpy313.difflib") 289)⟩,⟨QL P (F "__firstlineno__"),(.Xs (F "__firstlineno__") 495),(.Qm (71) 494)⟩,⟨QL P (F "__doc__"),(.Xs (F "__doc__") 497),(.Xs (Bb (Pr (S 6))) 496)⟩,⟨QL P (F "__init__"),(.Xs (F "__init__") 512),(.QP 177)⟩,⟨QL P (F "set_seqs"),(.Xs (F "set_seqs") 522),(.QP 184)⟩,⟨QL P (F "set_seq1"),(.Xs (F "set_seq1") 531),(.QP 191)⟩,⟨QL P (F "set_seq2"),(.Xs (F "set_seq2") 540),(.QP 198)⟩,⟨QL P (F "_SequenceMatcher__chain_b"),(.Xs (F "_SequenceMatcher__chain_b") 558),(.QP 205)⟩,⟨QL P (F "find_longest_match"),(.Xs (F "find_longest_match") 586),(.QP 213)⟩,⟨QL P (F "get_matching_blocks"),(.Xs (F "get_matching_blocks") 613),(.QP 220)⟩,⟨QL P (F "get_opcodes"),(.Xs (F "get_opcodes") 620),(.QP 227)⟩,⟨QL P (F "get_grouped_opcodes"),(.Xs (F "get_grouped_opcodes") 629),(.QP 235)⟩,⟨QL P (F "ratio"),(.Xs (F "ratio") 638),(.QP 242)⟩,⟨QL P (F "quick_ratio"),(.Xs (F "quick_ratio") 645),(.QP 249)⟩,⟨QL P (F "real_quick_ratio"),(.Xs (F "real_quick_ratio") 652),(.QP 256)⟩,⟨QL P (F "__static_attributes__"),(.Xs (F "__static_attributes__") 663),(.QP 257)⟩,⟨QL P (F "__dict__"),(.Xs (F "__dict__") 665),(.QP 260)⟩,⟨QL P (F "__weakref__"),(.Xs (F "__weakref__") 667),(.QP 261)⟩]:QC ZS).Xe 3),#[]⟩
def ah1 (F:XA->X6) (S:QH->YW) (P:Ql):ZC:=⟨(.Qk "type"),QG,(.cls {Q1u:=(F "SequenceMatcher"),bases:=[(.Qk "object")],mro:=[(.QP 259),(.Qk "object")],ns:=258,Q0a:=(F "SequenceMatcher"),QGh:=QM,QDN:=[],QBr:=[],QFB:=QJ,QBs:=QG,hasDel:=QJ}),#[QG,QG,(QB (.Xs (F "SequenceMatcher") 484)),(QB (.Xs (F "SequenceMatcher") 492)),(QB (.Qd "object.__new__")),(QB (.Yn QM))]⟩
def ah0 (F:XA->X6) (S:QH->YW) (P:Ql):ZC:=⟨(.Qk "getset_descriptor"),QG,(.Xo #[(.Xs (F "__dict__") 664),(.QP 259),(.Qd "function.__dict__"),(.Qd "function.__dict__#set")]),#[]⟩
def ahZ (F:XA->X6) (S:QH->YW) (P:Ql):ZC:=⟨(.Qk "getset_descriptor"),QG,(.Xo #[(.Xs (F "__weakref__") 666),(.QP 259),(.Qd "ExceptionGroup.__weakref__"),.QG]),#[]⟩
def ahY (F:XA->X6) (S:QH->YW) (P:Ql):ZC:=⟨(.Qk "tuple"),QG,(.seq #[(.Qm (14) 0),(.Qm (4) 0),(.Qm (0) 0),(.Qm (0) 0),(.Qm (4294967295) 0),(.Qm (24) 0),(.Qm (9) 0),(.Qm (0) 0),(.Qm (4294967295) 0),(.Qm (13) 0),(.Qm (4) 0),(.Qm (8) 0),(.Qm (12) 0),(.Qm (0) 0),(.Qm (1) 0),(.Qm (23) 0),(.Qm (15) 0),(.Qm (0) 0),(.Qm (1) 0),(.Qm (16) 0),(.Qm (35) 0),(.Qm (24) 0),(.Qm (9) 0),(.Qm (0) 0),(.Qm (4294967295) 0),(.Qm (13) 0),(.Qm (4) 0),(.Qm (8) 0),(.Qm (12) 0),(.Qm (0) 0),(.Qm (1) 0),(.Qm (18) 0),(.Qm (6) 0),(.Qm (5) 0),(.Qm (1) 0)] 0),#[]⟩
def ahX (F:XA->X6) (S:QH->YW) (P:Ql):ZC:=⟨(.Qk "re.Pattern"),QG,(.Xo #[(.Xs (F "\\s*(?:#\\s*)?$") 671),(.Qm (32) 709),(.Qm (0) 0),.QG,.QG,(.QP 267),(.Qm (0) 0)]),#[]⟩
def ahW (F:XA->X6) (S:QH->YW) (P:Ql):ZC:=⟨(.Qk "builtin_function_or_method"),QG,(.Xo #[(.Qd "re.Pattern.match"),(.QP 268)]),#[]⟩
def ahV (F:XA->X6) (S:QH->YW) (P:Ql):ZC:=⟨(.Qk "tuple"),QG,(.seq #[(.QP 269)] 0),#[]⟩
def ahU (F:XA->X6) (S:QH->YW) (P:Ql):ZC:=⟨(.Qk "code"),QG,(.Xo #[(.Xs (F "IS_LINE_JUNK") 712),(.Xs (F "IS_LINE_JUNK") 713),(.Xs (F "/claim/cut.py") 714),(.Qm (420) 0),(.Qm (2) 0),(.Qm (0) 0),(.Qm (0) 0),(.Qm (3) 0),(.QP 271),(.Yn QM),(.Qm (276) 0),(.QP 272),.QG,(.QP 273),(.QP 274),(.QP 275),(.Qm (717) 0),(.Qm (420) 0),(.Xs (F "/claim/cut.py") 718)]),#[]⟩
def afd (F:XA->X6) (S:QH->YW) (P:Ql):ZC:=⟨(.Qk "function"),QG,(.Q7Y {Q1u:=(F "IS_LINE_JUNK"),Q0a:=(F "IS_LINE_JUNK"),Q44:=fnP (S 8),YZ:=.Q5e (fnB (S 8)),Qv:=fnS (S 8),Q2g:=3,Q2h:=[],Q1b:=(.QP 270),Q09:=.QG,doc:=(.Xs (Bb (fnB (S 8))) 719),Q1c:=(.Xs (F "cpy313.difflib") 289),Zb:=QG,Q0o:=(.QP 276),ZM:=.QG,Q1d:=0}),#[]⟩
def ahT (F:XA->X6) (S:QH->YW) (P:Ql):ZC:=⟨(.Qk "code"),QG,(.Xo #[(.Xs (F "_law_dress") 723),(.Xs (F "_law_dress") 724),(.Xs (F "/claim/cut.py") 725),(.Qm (435) 0),(.Qm (1) 0),(.Qm (0) 0),(.Qm (0) 0),(.Qm (3) 0),(.QP 278),(.Yn QM),(.Qm (276) 0),(.QP 279),.QG,(.QP 280),(.QP 281),(.QP 282),(.Qm (734) 0),(.Qm (435) 0),(.Xs (F "/claim/cut.py") 735)]),#[]⟩
def afc (F:XA->X6) (S:QH->YW) (P:Ql):ZC:=⟨(.Qk "function"),QG,(.Q7Y {Q1u:=(F "_law_dress"),Q0a:=(F "_law_dress"),Q44:=fnP (S 10),YZ:=.Q5e (fnB (S 10)),Qv:=fnS (S 10),Q2g:=3,Q2h:=[],Q1b:=.QG,Q09:=.QG,doc:=.QG,Q1c:=(.Xs (F "law_dm0061_01") 721),Zb:=QG,Q0o:=(.QP 283),ZM:=.QG,Q1d:=0}),#[]⟩
def ahS (F:XA->X6) (S:QH->YW) (P:Ql):ZC:=⟨(.Qk "code"),QG,(.Xo #[(.Xs (F "_law_blocks") 737),(.Xs (F "_law_blocks") 738),(.Xs (F "/claim/cut.py") 739),(.Qm (443) 0),(.Qm (3) 0),(.Qm (0) 0),(.Qm (0) 0),(.Qm (3) 0),(.QP 285),(.Yn QM),(.Qm (276) 0),(.QP 286),.QG,.QG,.QG,(.QP 287),(.Qm (740) 0),(.Qm (443) 0),(.Xs (F "/claim/cut.py") 741)]),#[]⟩
def afb (F:XA->X6) (S:QH->YW) (P:Ql):ZC:=⟨(.Qk "function"),QG,(.Q7Y {Q1u:=(F "_law_blocks"),Q0a:=(F "_law_blocks"),Q44:=fnP (S 11),YZ:=.Q5e (fnB (S 11)),Qv:=fnS (S 11),Q2g:=3,Q2h:=[],Q1b:=.QG,Q09:=.QG,doc:=.QG,Q1c:=(.Xs (F "law_dm0061_01") 721),Zb:=QG,Q0o:=(.QP 288),ZM:=.QG,Q1d:=0}),#[]⟩
def ahR (F:XA->X6) (S:QH->YW) (P:Ql):ZC:=⟨(.Qk "code"),QG,(.Xo #[(.Xs (F "_law_goes_no_further") 743),(.Xs (F "_law_goes_no_further") 744),(.Xs (F "/claim/cut.py") 745),(.Qm (445) 0),(.Qm (3) 0),(.Qm (0) 0),(.Qm (0) 0),(.Qm (3) 0),(.QP 290),(.Yn QM),(.Qm (276) 0),(.QP 291),.QG,.QG,.QG,(.QP 292),(.Qm (746) 0),(.Qm (445) 0),(.Xs (F "/claim/cut.py") 747)]),#[]⟩
def afa (F:XA->X6) (S:QH->YW) (P:Ql):ZC:=⟨(.Qk "function"),QG,(.Q7Y {Q1u:=(F "_law_goes_no_further"),Q0a:=(F "_law_goes_no_further"),Q44:=fnP (S 12),YZ:=.Q5e (fnB (S 12)),Qv:=fnS (S 12),Q2g:=3,Q2h:=[],Q1b:=.QG,Q09:=.QG,doc:=.QG,Q1c:=(.Xs (F "law_dm0061_01") 721),Zb:=QG,Q0o:=(.QP 293),ZM:=.QG,Q1d:=0}),#[]⟩
def ae9 (F:XA->X6) (S:QH->YW) (P:Ql):ZC:=⟨(.Qk "code"),QG,(.Xo #[(.Xs (F "law") 749),(.Xs (F "law") 750),(.Xs (F "/claim/cut.py") 751),(.Qm (455) 0),(.Qm (1) 0),(.Qm (0) 0),(.Qm (0) 0),(.Qm (3) 0),(.QP 295),(.Yn QM),(.Qm (276) 0),(.QP 296),.QG,.QG,.QG,(.QP 297),(.Qm (752) 0),(.Qm (455) 0),(.Xs (F "/claim/cut.py") 753)]),#[]⟩
def ae8 (F:XA->X6) (S:QH->YW) (P:Ql):ZC:=⟨(.Qk "function"),QG,(.Q7Y {Q1u:=(F "law"),Q0a:=(F "law"),Q44:=fnP (S 13),YZ:=.Q5e (fnB (S 13)),Qv:=fnS (S 13),Q2g:=3,Q2h:=[],Q1b:=.QG,Q09:=.QG,doc:=.QG,Q1c:=(.Xs (F "law_dm0061_01") 721),Zb:=QG,Q0o:=(.QP 298),ZM:=.QG,Q1d:=0}),#[]⟩
def agd:QC QH:=[2,3,76,77,78,79,85,92,98,99,105,106,107,108,109,140,141,143,144,146,147,151,152,153,170,176,177,183,184,190,191,197,198,204,205,206,212,213,219,220,258,259,260,261,267,268,269,270,276,277,283,284,288,289,293,294,298,299]
def KF (F:XA->X6) (S:QH->YW) (P:Ql):Q1A:=(nat_lit 2,p2 F S P)::(nat_lit 3,p3 F S P)::(nat_lit 76,p76 F S P)::(nat_lit 77,p77 F S P)::(nat_lit 78,p78 F S P)::(nat_lit 79,p79 F S P)::(nat_lit 85,p85 F S P)::(nat_lit 92,p92 F S P)::(nat_lit 98,p98 F S P)::(nat_lit 99,p99 F S P)::(nat_lit 105,aio F S P)::(nat_lit 106,afl F S P)::(nat_lit 107,ain F S P)::(nat_lit 108,aim F S P)::(nat_lit 109,ail F S P)::(nat_lit 140,aik F S P)::(nat_lit 141,aij F S P)::(nat_lit 143,aii F S P)::(nat_lit 144,aih F S P)::(nat_lit 146,aig F S P)::(nat_lit 147,aif F S P)::(nat_lit 151,aie F S P)::(nat_lit 152,aid F S P)::(nat_lit 153,aic F S P)::(nat_lit 170,aib F S P)::(nat_lit 176,aia F S P)::(nat_lit 177,afk F S P)::(nat_lit 183,ah9 F S P)::(nat_lit 184,afj F S P)::(nat_lit 190,ah8 F S P)::(nat_lit 191,afi F S P)::(nat_lit 197,ah7 F S P)::(nat_lit 198,afh F S P)::(nat_lit 204,ah6 F S P)::(nat_lit 205,afg F S P)::(nat_lit 206,ah5 F S P)::(nat_lit 212,ah4 F S P)::(nat_lit 213,aff F S P)::(nat_lit 219,ah3 F S P)::(nat_lit 220,afe F S P)::(nat_lit 258,ah2 F S P)::(nat_lit 259,ah1 F S P)::(nat_lit 260,ah0 F S P)::(nat_lit 261,ahZ F S P)::(nat_lit 267,ahY F S P)::(nat_lit 268,ahX F S P)::(nat_lit 269,ahW F S P)::(nat_lit 270,ahV F S P)::(nat_lit 276,ahU F S P)::(nat_lit 277,afd F S P)::(nat_lit 283,ahT F S P)::(nat_lit 284,afc F S P)::(nat_lit 288,ahS F S P)::(nat_lit 289,afb F S P)::(nat_lit 293,ahR F S P)::(nat_lit 294,afa F S P)::(nat_lit 298,ae9 F S P)::(nat_lit 299,ae8 F S P)::[]
def K (P:Ql):Q1A:=KF Qb st P
def Q4V:QC QH:=[0,1,3,4,5,6,7,10,11,12,13]
def QBt:QC X6:=[(Qb "_tuplegetter"),(Qb "Match"),(Qb "SequenceMatcher"),(Qb "_twin_re_1"),(Qb "IS_LINE_JUNK")]
def qF (p:Q3F):Q3F:={p with main:={p.main with YZ:=[stF p 0,stF p 1,stF p 3,stF p 4,stF p 5,stF p 6,stF p 7,stF p 10,stF p 11,stF p 12,stF p 13]}}
def q:Q3F:={YN with main:={(YN).main with YZ:=[st 0,st 1,st 3,st 4,st 5,st 6,st 7,st 10,st 11,st 12,st 13]}}
theorem dKe:K=KF QFA (stF dTw):=by
 rw [<- Q7X,<- dPe]
 rfl
theorem dQe:q=qF dTw:=Z4 qF dPe
def o99 (P:Ql):ZC:=p99 Qb st P
def aiA (P:Ql):ZC:=afl Qb st P
def aiz (P:Ql):ZC:=afk Qb st P
def aiy (P:Ql):ZC:=afj Qb st P
def aix (P:Ql):ZC:=afi Qb st P
def aiw (P:Ql):ZC:=afh Qb st P
def aiv (P:Ql):ZC:=afg Qb st P
def aiu (P:Ql):ZC:=aff Qb st P
def ait (P:Ql):ZC:=afe Qb st P
def ais (P:Ql):ZC:=afd Qb st P
def air (P:Ql):ZC:=afc Qb st P
def aiq (P:Ql):ZC:=afb Qb st P
def aip (P:Ql):ZC:=afa Qb st P
def Nh (P:Ql):ZC:=ae9 Qb st P
def AO (P:Ql):ZC:=ae8 Qb st P
end
end Mine01
end
section
open PySem PySem.W PyProof.Rows
set_option maxRecDepth 100000
set_option maxHeartbeats 8000000
namespace Mine01
mutual
abbrev H:Hook:=kHook K agd (fun _=>by kernel_rfl)
theorem left:LeftO YN q QBt (fun s=>xlAt q [] s&&recOk (Xp).row.records s) (Hook.obs H) (Hook.val H) 4812:=by
 intro w
 rw [Mine.tbF_eq]
 unfold openEnds fencedOpening topFrom PySem.W.opening topStub
 dsimp only [H,kHook]
 rw [PySem.W.Fast.te4187177175401517315,PySem.W.Fast.te5923862056798008813,PySem.W.Fast.te10274390034422433532,PySem.W.Fast.te1435165496053646825,PySem.W.Fast.te14289696077712309145,
  PySem.W.Fast.te14082659384304107361,PySem.W.Fast.te8920871248978507458,PySem.W.Fast.te12456147031677567982,PySem.W.Fast.te17154629097778926822,PySem.W.Fast.te12822647523644345616,PySem.W.Fast.te6905046200447255374]
 rw [dQe,dKe,dPe]
 delta Q0s
 rw [Mine.anyL_eq]
 kernel_rfl
end
end Mine01
end
section
open PySem PySem.W PyProof.Rows
set_option maxRecDepth 100000
set_option maxHeartbeats 8000000
namespace Mine01
mutual
def Tf (s:YW):Pos:=QBq s (fun _ _ _ p=>p) Zs
theorem TJ:(Xp).wellSaid=QM:=by
 rw [PySem.W.Fast.te9446332074065402090]
 delta Xp
 rw [dPe,Q7X]
 kernel_rfl
theorem hd (Tr:∀(_said:(Xp).row.wellSaid=QM),WalkO q QBt (Q0 q []) (QDO H) (Xp).QBu ⟨Qb "law",fnP (st 13),fnB (st 13),fnS (st 13),Tf (st 13)⟩ [] fun f vs=>PySem.call f vs):(Xp).Holds:=by
 w_on
 refine holds_law TJ fun TJ=>?_
 refine PySem.W.holds_open (q:=q) (QBt:=QBt) (Q1:=fun s=>xlAt q [] s&&recOk (RowW.records (Xp).QBu) s) (Q2:=Q0 q []) (Q3:=Hook.obs H) (Q4:=Hook.val H) (Q5:=QDO H) (N:=4812) left (Hook.of H) (Hook.keeps H)
  (fun s e=>xl_of s (Q1a e).1) XL.keeps (by kernel_rfl) (by kernel_rfl) (by kernel_rfl) (fun s e=>recFacts_of (Q1a e).2) (by rfl) (by assumption) (by decide +XB) ⟨QA,QA,QA,QA,QA,by decide +XB⟩ ?hw (Tr TJ)
 case hw=>w_witness2
end
end Mine01
end
section
open PySem PySem.W PySem.Calls PyProof.Rows
set_option genInjectivity true
set_option genSizeOf false
namespace Mini
inductive Key where
 | i (n:Int)
 | s (x:Str)
 deriving DecidableEq
set_option genInjectivity false
mutual
inductive QU where
 | QG
 | Yn (b:Qu)
 | Qm (i:X3)
 | Xs (x:X6)
 | QP (l:QH)
 | imm (v:QI)
 deriving Q7Z
inductive Ob where
 | any
 | Qs (xs:QC QU)
 | YJ (xs:QC QU)
 | Q01 (Y4:QC (Yb×QU))
 | set (xs:QC Yb)
 | Q5C (c:Qq) (d:QH)
 | Q1V (Y4:QC (X6×QU))
 | sub (c:Qq) (xs:QC QU)
 | YQ (v:QW QU)
 | bm (id:XA) (Q1e:QU)
 | raw (o:ZC)
 | Q7A (a b k:X3)
 | QBv (d:QH)
 | lam (mk:Qq->ZC) (lc:QH)
 | Q4m (ps:QC (X3×Tok)) (n:QH)
 | tab (es:QC (QH×QH×QH))
 | QE2 (fv:QU) (tl:QH)
 | Q8m (l i:QH)
 | Q9d (f C:Qq)
structure St where
 loc:X6->QW QU
 hp:QH->Ob
 nx:QH
structure Lab where
 f:QH->Qq
 n:QH
instance:Q25 Yb:=⟨.i 0⟩
instance:Q25 QU:=⟨.QG⟩
instance:Q25 Ob:=⟨.any⟩
instance:Q25 Lab:=⟨⟨fun _=>Zs,0⟩⟩
instance:Q25 St:=⟨⟨fun _=>QG,fun _=>.any,0⟩⟩
def Lab.Ext (Λ Za:Lab):Prop:=Xh<=QDP/\∀l,l < Xh->Q4W l=Xr l
theorem Lab.Ext.refl (Λ:Lab):Q0A Λ:=⟨Qh _,fun _ _=>QA⟩
theorem Lab.Ext.trans {a b c:Lab} (h:a.Ext b) (k:b.Ext c):a.Ext c:=⟨Y1 h.1 k.1,fun l hl=>(k.2 l (QQ hl h.1)).QR (h.2 l hl)⟩
def Lab.push (Λ:Lab) (a:Qq):Lab:=⟨fun l=>if l=Xh then a else Xr l,Xh+1⟩
theorem XL (Λ:Lab) (a:Qq):Q0A (Z5 a):=⟨Q1B _,fun l hl=>QN (Y5 hl)⟩
def VR (Λ:Lab):QU->QI->Prop
 | .QG,v=>v=.QG
 | .Yn b,v=>v=.Yn b
 | .Qm i,v=>∃t,v=.Qm i t
 | .Xs x,v=>∃t,v=.Xs x t
 | .QP l,v=>l < Xh/\v=.QP (Xr l)
 | .imm u,v=>v=u
theorem VR.ext {Λ Za:Lab} (e:Q0A Za):∀ {v:QU} {c:QI},VR Λ v c->VR Za v c
 | .QG,_,h=>h
 | .Yn _,_,h=>h
 | .Qm _,_,h=>h
 | .Xs _,_,h=>h
 | .QP l,_,h=>⟨QQ h.1 e.1,by rw [e.2 l h.1];exact h.2⟩
 | .imm _,_,h=>h
inductive VRs (Λ:Lab):QC QU->QC QI->Prop
 | Zl:VRs Λ [] []
 | Xu {v:QU} {c:QI} {vs:QC QU} {cs:QC QI}:VR Λ v c->VRs Λ vs cs->VRs Λ (v::vs) (c::cs)
theorem VRs.ext {Λ Za:Lab} (e:Q0A Za) {vs:QC QU} {cs:QC QI} (h:VRs Λ vs cs):VRs Za vs cs:=by
 induction h with
 | Zl=>exact .Zl
 | Xu h _ ih=>exact .Xu (h.ext e) ih
theorem VRs.length {Λ:Lab} {vs:QC QU} {cs:QC QI} (h:VRs Λ vs cs):Q0Q=QAO:=by
 induction h with
 | Zl=>rfl
 | Xu _ _ ih=>rw [XZ,XZ,ih]
theorem VRs.append {Λ:Lab} {vs ws:QC QU} {cs ds:QC QI} (h:VRs Λ vs cs) (k:VRs Λ ws ds):VRs Λ (vs++ws) (cs++ds):=by
 induction h with
 | Zl=>exact k
 | Xu h _ ih=>exact .Xu h ih
theorem VRs.get {Λ:Lab} {vs:QC QU} {cs:QC QI} (h:VRs Λ vs cs):∀ {i:QH} {v:QU},vs[i]?=QB v->∃c,cs[i]?=QB c/\VR Λ v c:=by
 induction h with
 | Zl=>intro i v e;simp at e
 | Xu h _ ih =>
  intro i v e
  cases i with
  | Q2Q=>simp at e;subst e;exact ⟨_,QA,h⟩
  | Q2R i=>exact ih (by simpa using e)
theorem VRs.take {Λ:Lab} {vs:QC QU} {cs:QC QI} (h:VRs Λ vs cs):∀n,VRs Λ (vs.take n) (cs.take n):=by
 induction h with
 | Zl=>intro n;simp;exact .Zl
 | Xu h _ ih=>intro n;cases n with
  | Q2Q=>simp;exact .Zl
  | Q2R n=>simp;exact .Xu h (ih n)
theorem VRs.drop {Λ:Lab} {vs:QC QU} {cs:QC QI} (h:VRs Λ vs cs):∀n,VRs Λ (vs.drop n) (cs.drop n):=by
 induction h with
 | Zl=>intro n;simp;exact .Zl
 | Xu h k ih=>intro n;cases n with
  | Q2Q=>simp;exact .Xu h k
  | Q2R n=>simp;exact ih n
def EM:Yb->QI->Qu
 | .i n,v=>QFC n v
 | .s x,v=>QCw x v
end
section
variable {prog:Program} {w:World}
mutual
theorem FZ {A:Q2t} {E:QI->QZ->Prop} {s:QZ} {a:X3} {t:Tok} {b:X6} {u:Tok} {Q:Qu->QZ->Prop} (h:Q QJ s):Qp (Qi XC w) A (QE3 (.Qm a t) (.Xs b u)) Q E s:=by
 refine XX ?_
 refine Q9 ?_
 exact EqMixed.eq_int_str (Q:=fun v s=>Qp (Qi XC w) A (QBw v) Q E s) (Q3c h)
theorem FY {A:Q2t} {E:QI->QZ->Prop} {s:QZ} {a:X3} {t:Tok} {b:X6} {u:Tok} {Q:Qu->QZ->Prop} (h:Q QJ s):Qp (Qi XC w) A (QE3 (.Xs b u) (.Qm a t)) Q E s:=by
 refine XX ?_
 refine Q9 ?_
 exact EqMixed.eq_str_int (Q:=fun v s=>Qp (Qi XC w) A (QBw v) Q E s) (Q3c h)
end
end
mutual
def knd (XC:Q3F) (w:Q6I):Q61 XC w Yb where
 is:=EM
 hash:=fun | .i n=>hashInt n | .s x=>hashStr w x
 inj:=fun v a b ha hb=>by
  cases a <;> cases b
  ·rw [Value.isInt_inj v _ _ ha hb]
  ·obtain (⟨t,QA⟩):=Q1C ha;cases hb
  ·obtain (⟨t,QA⟩):=Q1C hb;cases ha
  ·rw [Value.isStrOf_inj v _ _ ha hb]
 QGi:=fun k v h=>by
  cases k
  ·exact (QE4 XC w).QGi _ v h
  ·exact (Q62 XC w).QGi _ v h
 pyHash:=fun {A E s k v Q} hv h=>by
  cases k
  ·exact (QE4 XC w).pyHash hv h
  ·exact (Q62 XC w).pyHash hv h
 QE3:=fun {A E s a b u v Q} hu hv h=>by
  cases a <;> cases b
  ·exact (QE4 XC w).QE3 hu hv (by simpa using h)
  ·obtain (⟨t,QA⟩):=Q1C hu;obtain (⟨t',QA⟩):=Q2u hv;exact FZ (by simpa using h)
  ·obtain (⟨t,QA⟩):=Q2u hu;obtain (⟨t',QA⟩):=Q1C hv;exact FY (by simpa using h)
  ·exact (Q62 XC w).QE3 hu hv (by simpa using h)
 «strs»:=fun k x t v h=>by
  cases k
  ·exact (QE4 XC w).«strs» _ x t v h
  ·exact (Q62 XC w).«strs» _ x t v h
def Bn:QU->QW Yb
 | .Qm i=>QB (.i i)
 | .Xs x=>QB (.s x)
 | _=>Option.none
def Q10:Yb->QU
 | .i n=>.Qm n
 | .s x=>.Xs x
theorem B0 {Λ:Lab} {v:QU} {k:Yb} {c:QI} (h:Bn v=QB k) (hv:VR Λ v c):EM k c=QM:=by
 cases v <;> simp [Bn]at h <;> subst h <;> obtain (⟨t,QA⟩):=hv <;> simp [EM,QFC,QCw]
theorem En {Λ:Lab} {k:Yb} {c:QI} (h:EM k c=QM):VR Λ Q8n c:=by
 cases k
 ·exact Q1C h
 ·exact Q2u h
def Ad {α:Type} (o:QW α) (f:α->Prop):Prop:=match o with | QB a=>f a | QG=>Yk
theorem Q2r {α:Type} {o:QW α} {f:α->Prop} {C:Prop} (h:Ad o f) (k:∀a,o=QB a->f a->C):C:=by
 cases o with
 | QG=>exact Qy
 | QB a=>exact k a QA h
theorem Q0c {p:Prop} [Decidable p] {a b C:Prop} (h:if p then a else b) (k:p->a->C) (k':b->C):C :=
 if e:p then k e ((QY e).mp h) else k' ((QN e).mp h)
def Ai (v:QU) (f:QH->Prop):Prop:=match v with | .QP l=>f l | _=>Yk
theorem Q1W {v:QU} {f:QH->Prop} {C:Prop} (h:Ai v f) (k:∀l,v=.QP l->f l->C):C:=by
 cases v <;> first | exact k _ QA h | exact Qy
def Bi (v:QU) (f:X3->Prop):Prop:=match v with | .Qm l=>f l | _=>Yk
theorem QBD {v:QU} {f:X3->Prop} {C:Prop} (h:Bi v f) (k:∀l,v=.Qm l->f l->C):C:=by
 cases v <;> first | exact k _ QA h | exact Qy
def EI (v:QU) (f:X6->Prop):Prop:=match v with | .Xs l=>f l | _=>Yk
theorem EI.el {v:QU} {f:X6->Prop} {C:Prop} (h:EI v f) (k:∀l,v=.Xs l->f l->C):C:=by
 cases v <;> first | exact k _ QA h | exact Qy
def Cs (v:QU) (f:Qq->Prop):Prop:=∃l,v=.imm (.QP l)/\f l
theorem Cs.mk {v:QU} {f:Qq->Prop} {l:Qq} (h:v=.imm (.QP l)) (k:f l):Cs v f:=⟨l,h,k⟩
theorem Cs.el {v:QU} {f:Qq->Prop} {C:Prop} (h:Cs v f) (k:∀l,v=.imm (.QP l)->f l->C):C:=Qy fun l h=>k l h.1 h.2
def on0 (a:QC QU) (p:Prop):Prop:=match a with | []=>p | _::_=>Yk
def on1 (a:QC QU) (f:QU->Prop):Prop:=match a with | []=>Yk | v::a=>a=[]/\f v
def on2 (a:QC QU) (f:QU->QU->Prop):Prop:=match a with | []=>Yk | v::a=>on1 a (f v)
def on3 (a:QC QU) (f:QU->QU->QU->Prop):Prop:=match a with | []=>Yk | v::a=>on2 a (f v)
def Af (o:Ob) (f:QC QU->Prop):Prop:=∃xs,o=.Qs xs/\f xs
theorem Q3z {o:Ob} {f:QC QU->Prop} {xs:QC QU} (h:o=.Qs xs) (k:f xs):Af o f:=⟨xs,h,k⟩
theorem Q4n {o:Ob} {f:QC QU->Prop} {C:Prop} (h:Af o f) (k:∀xs,o=.Qs xs->f xs->C):C:=Qy fun xs h=>k xs h.1 h.2
def Cp (o:Ob) (f:QC QU->Prop):Prop:=∃xs,o=.YJ xs/\f xs
theorem Cp.mk {o:Ob} {f:QC QU->Prop} {xs:QC QU} (h:o=.YJ xs) (k:f xs):Cp o f:=⟨xs,h,k⟩
theorem QGj {o:Ob} {f:QC QU->Prop} {C:Prop} (h:Cp o f) (k:∀xs,o=.YJ xs->f xs->C):C:=Qy fun xs h=>k xs h.1 h.2
def As (o:Ob) (f:QC (Yb×QU)->Prop):Prop:=∃xs,o=.Q01 xs/\f xs
theorem Q9e {o:Ob} {f:QC (Yb×QU)->Prop} {xs:QC (Yb×QU)} (h:o=.Q01 xs) (k:f xs):As o f:=⟨xs,h,k⟩
theorem Q8o {o:Ob} {f:QC (Yb×QU)->Prop} {C:Prop} (h:As o f) (k:∀xs,o=.Q01 xs->f xs->C):C:=Qy fun xs h=>k xs h.1 h.2
def Bh (o:Ob) (f:QC Yb->Prop):Prop:=∃xs,o=.set xs/\f xs
theorem QFD {o:Ob} {f:QC Yb->Prop} {xs:QC Yb} (h:o=.set xs) (k:f xs):Bh o f:=⟨xs,h,k⟩
theorem QFE {o:Ob} {f:QC Yb->Prop} {C:Prop} (h:Bh o f) (k:∀xs,o=.set xs->f xs->C):C:=Qy fun xs h=>k xs h.1 h.2
def AX (o:Ob) (f:QC (X6×QU)->Prop):Prop:=∃xs,o=.Q1V xs/\f xs
theorem AX.mk {o:Ob} {f:QC (X6×QU)->Prop} {xs:QC (X6×QU)} (h:o=.Q1V xs) (k:f xs):AX o f:=⟨xs,h,k⟩
theorem AX.el {o:Ob} {f:QC (X6×QU)->Prop} {C:Prop} (h:AX o f) (k:∀xs,o=.Q1V xs->f xs->C):C:=Qy fun xs h=>k xs h.1 h.2
def Bt (o:Ob) (f:Qq->QH->Prop):Prop:=∃x y,o=.Q5C x y/\f x y
theorem Bt.mk {o:Ob} {f:Qq->QH->Prop} {x:Qq} {y:QH} (h:o=.Q5C x y) (k:f x y):Bt o f:=⟨x,y,h,k⟩
theorem Bt.el {o:Ob} {f:Qq->QH->Prop} {C:Prop} (h:Bt o f) (k:∀x y,o=.Q5C x y->f x y->C):C:=Qy fun x h=>Qy fun y h=>k x y h.1 h.2
def Cq (o:Ob) (f:Qq->QC QU->Prop):Prop:=∃x y,o=.sub x y/\f x y
theorem Cq.mk {o:Ob} {f:Qq->QC QU->Prop} {x:Qq} {y:QC QU} (h:o=.sub x y) (k:f x y):Cq o f:=⟨x,y,h,k⟩
theorem Cq.el {o:Ob} {f:Qq->QC QU->Prop} {C:Prop} (h:Cq o f) (k:∀x y,o=.sub x y->f x y->C):C:=Qy fun x h=>Qy fun y h=>k x y h.1 h.2
def By (o:Ob) (f:X3->X3->X3->Prop):Prop:=∃x y z,o=.Q7A x y z/\f x y z
theorem By.mk {o:Ob} {f:X3->X3->X3->Prop} {x:X3} {y:X3} {z:X3} (h:o=.Q7A x y z) (k:f x y z):By o f:=⟨x,y,z,h,k⟩
theorem By.el {o:Ob} {f:X3->X3->X3->Prop} {C:Prop} (h:By o f) (k:∀x y z,o=.Q7A x y z->f x y z->C):C:=Qy fun x h=>Qy fun y h=>Qy fun z h=>k x y z h.1 h.2
def BD (o:Ob) (f:QW QU->Prop):Prop:=∃v,o=.YQ v/\f v
theorem BD.mk {o:Ob} {f:QW QU->Prop} {v:QW QU} (h:o=.YQ v) (k:f v):BD o f:=⟨v,h,k⟩
theorem BD.el {o:Ob} {f:QW QU->Prop} {C:Prop} (h:BD o f) (k:∀v,o=.YQ v->f v->C):C:=Qy fun v h=>k v h.1 h.2
def AJ (o:Ob) (f:QC (X3×Tok)->QH->Prop):Prop:=∃x y,o=.Q4m x y/\f x y
theorem QGk {o:Ob} {f:QC (X3×Tok)->QH->Prop} {x:QC (X3×Tok)} {y:QH} (h:o=.Q4m x y) (k:f x y):AJ o f:=⟨x,y,h,k⟩
theorem QGl {o:Ob} {f:QC (X3×Tok)->QH->Prop} {C:Prop} (h:AJ o f) (k:∀x y,o=.Q4m x y->f x y->C):C:=Qy fun x h=>Qy fun y h=>k x y h.1 h.2
def JI (v:QU) (f:XA->Prop):Prop:=∃l,v=.imm (.Qk l)/\f l
theorem JI.mk {v:QU} {f:XA->Prop} {l:XA} (h:v=.imm (.Qk l)) (k:f l):JI v f:=⟨l,h,k⟩
theorem JI.el {v:QU} {f:XA->Prop} {C:Prop} (h:JI v f) (k:∀l,v=.imm (.Qk l)->f l->C):C:=Qy fun l h=>k l h.1 h.2
def FH (o:Ob) (f:XA->QU->Prop):Prop:=∃x y,o=.bm x y/\f x y
theorem FH.mk {o:Ob} {f:XA->QU->Prop} {x:XA} {y:QU} (h:o=.bm x y) (k:f x y):FH o f:=⟨x,y,h,k⟩
theorem FH.el {o:Ob} {f:XA->QU->Prop} {C:Prop} (h:FH o f) (k:∀x y,o=.bm x y->f x y->C):C:=Qy fun x h=>Qy fun y h=>k x y h.1 h.2
def Cr (o:Ob) (f:(Qq->ZC)->QH->Prop):Prop:=∃x y,o=.lam x y/\f x y
theorem Cr.mk {o:Ob} {f:(Qq->ZC)->QH->Prop} {x:Qq->ZC} {y:QH} (h:o=.lam x y) (k:f x y):Cr o f:=⟨x,y,h,k⟩
theorem Cr.el {o:Ob} {f:(Qq->ZC)->QH->Prop} {C:Prop} (h:Cr o f) (k:∀x y,o=.lam x y->f x y->C):C:=Qy fun x h=>Qy fun y h=>k x y h.1 h.2
def CE (o:Ob) (f:Qq->Qq->Prop):Prop:=∃x y,o=.Q9d x y/\f x y
theorem CE.mk {o:Ob} {f:Qq->Qq->Prop} {x:Qq} {y:Qq} (h:o=.Q9d x y) (k:f x y):CE o f:=⟨x,y,h,k⟩
theorem CE.el {o:Ob} {f:Qq->Qq->Prop} {C:Prop} (h:CE o f) (k:∀x y,o=.Q9d x y->f x y->C):C:=Qy fun x h=>Qy fun y h=>k x y h.1 h.2
def DF (o:Ob) (f:QU->QH->Prop):Prop:=∃x y,o=.QE2 x y/\f x y
theorem DF.mk {o:Ob} {f:QU->QH->Prop} {x:QU} {y:QH} (h:o=.QE2 x y) (k:f x y):DF o f:=⟨x,y,h,k⟩
theorem DF.el {o:Ob} {f:QU->QH->Prop} {C:Prop} (h:DF o f) (k:∀x y,o=.QE2 x y->f x y->C):C:=Qy fun x h=>Qy fun y h=>k x y h.1 h.2
def CD (o:Ob) (f:QH->Prop):Prop:=∃v,o=.QBv v/\f v
theorem CD.mk {o:Ob} {f:QH->Prop} {v:QH} (h:o=.QBv v) (k:f v):CD o f:=⟨v,h,k⟩
theorem CD.el {o:Ob} {f:QH->Prop} {C:Prop} (h:CD o f) (k:∀v,o=.QBv v->f v->C):C:=Qy fun v h=>k v h.1 h.2
def O2 (o:Ob) (f:QC QU->Prop):Prop:=(∃xs,o=.YJ xs/\f xs)\/(∃xs,o=.Qs xs/\f xs)
theorem O2.el {o:Ob} {f:QC QU->Prop} {C:Prop} (h:O2 o f) (k:∀xs,o=.YJ xs->f xs->C) (k':∀xs,o=.Qs xs->f xs->C):C:=Qy (fun h=>Qy fun xs h=>k xs h.1 h.2) fun h=>Qy fun xs h=>k' xs h.1 h.2
end
@[elab_as_elim] theorem on0.el {Λ:Lab} {a:List Val} {as:List Value} {p:Prop} {C:List Value->Prop} (ha:VRs Λ a as) (h:on0 a p) (k:p->C []):C as:=by
 cases ha with
 | nil=>exact k h
 | cons _ _=>exact h.elim
@[elab_as_elim] theorem on1.el {Λ:Lab} {a:List Val} {as:List Value} {f:Val->Prop} {C:List Value->Prop} (ha:VRs Λ a as) (h:on1 a f) (k:∀v x,VR Λ v x->f v->C [x]):C as:=by
 cases ha with
 | nil=>exact h.elim
 | cons h1 h2 =>
  obtain (⟨rfl,h⟩):=h
  cases h2
  exact k _ _ h1 h
@[elab_as_elim] theorem on2.el {Λ:Lab} {a:List Val} {as:List Value} {f:Val->Val->Prop} {C:List Value->Prop} (ha:VRs Λ a as) (h:on2 a f) (k:∀v u x y,VR Λ v x->VR Λ u y->f v u->C [x,y]):C as:=by
 cases ha with
 | nil=>exact h.elim
 | cons h1 h2=>exact on1.el (C:=fun as=>C (_::as)) h2 h fun u y h3 h=>k _ _ _ _ h1 h3 h
@[elab_as_elim] theorem on3.el {Λ:Lab} {a:List Val} {as:List Value} {f:Val->Val->Val->Prop} {C:List Value->Prop} (ha:VRs Λ a as) (h:on3 a f) (k:∀v u w x y z,VR Λ v x->VR Λ u y->VR Λ w z->f v u w->C [x,y,z]):C as:=by
 cases ha with
 | nil=>exact h.elim
 | cons h1 h2=>exact on2.el (C:=fun as=>C (_::as)) h2 h fun u w y z h3 h4 h=>k _ _ _ _ _ _ h1 h3 h4 h
end Mini
end
section
set_option genInjectivity false
set_option genSizeOf false
namespace La
mutual
inductive T where
 | v (i:QH) | c (n:QH) | a (x y:T) | p (x:T) | s (x y:T) | m (k:QH) (x:T)
inductive F where
 | l (x y:T) | t (x y:T) | e (x y:T) | n (x y:T) | u (x y:T) | w (x y:T) | f
inductive C where
 | f (ms:QH) | s (j:QH) (p q:C) | n (j:QH) (p q:C)
def nth (v:QC QH):QH->QH:=Q0Z (Y7:=fun _=>QH->QH) (fun _=>0) (fun x _ r i=>Q8L (Y7:=fun _=>QH) x (fun k _=>r k) i) v
def dT (v:QC QH) (t:T):QH:=Q9f (Y7:=fun _=>QH) (nth v) (fun n=>n) (fun _ _ x y=>x+y) (fun _ x=>x+1) (fun _ _ x y=>x - y) (fun k _ x=>k*x) t
def dF (v:QC QH) (f:F):Prop:=F.rec (Y7:=fun _=>Prop) (fun x y=>dT v x<=dT v y) (fun x y=>dT v x < dT v y) (fun x y=>dT v x=dT v y) (fun x y=>dT v x≠dT v y) (fun x y=>¬dT v x<=dT v y) (fun x y=>¬dT v x < dT v y) Yk f
def imp (v:QC QH) (hs:QC F) (g:F):Prop:=Q0Z (Y7:=fun _=>Prop) (dF v g) (fun h _ r=>dF v h->r) hs
abbrev Po:=QC X3
def ev (p:Po) (d:QC X3):X3:=Q0Z (Y7:=fun _=>QC X3->X3) (fun _=>0) (fun a _ r d=>Q0Z (Y7:=fun _=>X3) 0 (fun x d _=>a*x+r d) d) p d
def add (p q:Po):Po:=Q0Z (Y7:=fun _=>Po->Po) (fun q=>q) (fun a p r q=>Q0Z (Y7:=fun _=>Po) (a::p) (fun b q _=>(a+b)::r q) q) p q
def mul (k:X3) (p:Po):Po:=Q0Z (Y7:=fun _=>Po) [] (fun a _ r=>(k*a)::r) p
def un (i:QH):Po:=Q8L (Y7:=fun _=>Po) [1] (fun _ r=>0::r) i
def nI (d:QC X3) (i:QH):X3:=Q0Z (Y7:=fun _=>QH->X3) (fun _=>0) (fun x _ r i=>Q8L (Y7:=fun _=>X3) x (fun k _=>r k) i) d i
theorem FX (p:Po):∀q d,ev (add p q) d=ev p d+ev q d:=by
 induction p with
 | Zl=>intro q d;exact (QE5 _).Q3w
 | Xu a p ih =>
  intro q d
  induction q with
  | Zl=>exact (QE6 _).Q3w
  | Xu b q _ =>
   cases d with
   | Zl=>rfl
   | Xu x d =>
    show (a+b)*x+ev (add p q) d=(a*x+ev p d)+(b*x+ev q d)
    rw [ih,QFF];omega
theorem DI (k:X3) (p:Po):∀d,ev (mul k p) d=k*ev p d:=by
 induction p with
 | Zl=>intro d;exact (QE7 _).Q3w
 | Xu a p ih =>
  intro d
  cases d with
  | Zl=>exact (QE7 _).Q3w
  | Xu x d =>
   show (k*a)*x+ev (mul k p) d=k*(a*x+ev p d)
   rw [ih,Int.mul_add,Int.mul_assoc]
theorem NM (i:QH):∀d,ev (un i) d=nI d i:=by
 induction i with
 | Q2Q =>
  intro d
  cases d with
  | Zl=>rfl
  | Xu x d=>show 1*x+0=x;omega
 | Q2R i ih =>
  intro d
  cases d with
  | Zl=>rfl
  | Xu x d=>show 0*x+ev (un i) d=nI d i;rw [ih,QE8,QE5]
def sub (x y:Po):Po:=add x (mul (-1) y)
theorem JU (p q d):ev (sub p q) d=ev p d - ev q d:=by
 unfold sub;rw [FX,DI];omega
def eqT (x:T):T->Qu:=Q9f (Y7:=fun _=>T->Qu)
 (fun i y=>Q9f (Y7:=fun _=>Qu) (fun j=>Q8K i j) (fun _=>QJ) (fun _ _ _ _=>QJ) (fun _ _=>QJ) (fun _ _ _ _=>QJ) (fun _ _ _=>QJ) y)
 (fun i y=>Q9f (Y7:=fun _=>Qu) (fun _=>QJ) (fun j=>Q8K i j) (fun _ _ _ _=>QJ) (fun _ _=>QJ) (fun _ _ _ _=>QJ) (fun _ _ _=>QJ) y)
 (fun _ _ f g y=>Q9f (Y7:=fun _=>Qu) (fun _=>QJ) (fun _=>QJ) (fun a b _ _=>f a&&g b) (fun _ _=>QJ) (fun _ _ _ _=>QJ) (fun _ _ _=>QJ) y)
 (fun _ f y=>Q9f (Y7:=fun _=>Qu) (fun _=>QJ) (fun _=>QJ) (fun _ _ _ _=>QJ) (fun a _=>f a) (fun _ _ _ _=>QJ) (fun _ _ _=>QJ) y)
 (fun _ _ f g y=>Q9f (Y7:=fun _=>Qu) (fun _=>QJ) (fun _=>QJ) (fun _ _ _ _=>QJ) (fun _ _=>QJ) (fun a b _ _=>f a&&g b) (fun _ _ _=>QJ) y)
 (fun k _ f y=>Q9f (Y7:=fun _=>Qu) (fun _=>QJ) (fun _=>QJ) (fun _ _ _ _=>QJ) (fun _ _=>QJ) (fun _ _ _ _=>QJ) (fun j a _=>Q8K k j&&f a) y) x
theorem EQ {a b:Qu} (h:(a&&b)=QM):a=QM/\b=QM:=Q1a h
theorem NN (x:T):∀y,eqT x y=QM->x=y:=by
 induction x with
 | v i=>intro y h;cases y with
  | v j=>exact Z4 T.v (Q0y h)
  | _=>exact Xc h Qj
 | c i=>intro y h;cases y with
  | c j=>exact Z4 T.c (Q0y h)
  | _=>exact Xc h Qj
 | a p q f g=>intro y h;cases y with
  | a p' q'=>have:=EQ h;rw [f _ this.1,g _ this.2]
  | _=>exact Xc h Qj
 | p p f=>intro y h;cases y with
  | p p'=>rw [f _ h]
  | _=>exact Xc h Qj
 | s p q f g=>intro y h;cases y with
  | s p' q'=>have:=EQ h;rw [f _ this.1,g _ this.2]
  | _=>exact Xc h Qj
 | m k p f=>intro y h;cases y with
  | m k' p'=>have:=EQ h;rw [Q0y this.1,f _ this.2]
  | _=>exact Xc h Qj
def ix (x y:T) (S:QC (T×T)):QW QH:=Q0Z (Y7:=fun _=>QW QH) QG (fun p _ r=>Q7W (Y7:=fun _=>QW QH) (Q3K (Y7:=fun _=>QW QH) QG (fun k=>QB (k+1)) r) (QB 0) (eqT x p.1&&eqT y p.2)) S
def o2 (a b:QW Po) (f:Po->Po->Po):QW Po:=Q3K (Y7:=fun _=>QW Po) QG (fun x=>Q3K (Y7:=fun _=>QW Po) QG (fun y=>QB (f x y)) b) a
theorem E8 {a b:QW Po} {f r} (h:o2 a b f=QB r):∃x y,a=QB x/\b=QB y/\r=f x y:=by
 cases a with
 | QG=>exact nomatch h
 | QB x =>
  cases b with
  | QG=>exact nomatch h
  | QB y=>exact ⟨x,y,QA,QA,(X1 h).Q3w⟩
def lin (n:QH) (S:QC (T×T)) (t:T):QW Po:=Q9f (Y7:=fun _=>QW Po)
 (fun i=>Q7W (Y7:=fun _=>QW Po) QG (QB (un (i+1))) (QGm i n)) (fun k=>QB [Q16 k]) (fun _ _ x y=>o2 x y add) (fun _ x=>o2 x x fun x _=>add [1] x)
 (fun a b _ _=>Q3K (Y7:=fun _=>QW Po) QG (fun j=>QB (un (n+1+j))) (ix a b S)) (fun k _ x=>o2 x x fun x _=>mul (Q16 k) x) t
def Q7K (v d:QC QH):QC X3:=1::(v++d).map Q16
def ds (v:QC QH) (S:QC (T×T)):QC QH:=S.map fun p=>dT v p.1 - dT v p.2
theorem JK (l:QC QH):∀i,nI (QGg Q16) i=(nth l i:QH):=by
 induction l with
 | Zl=>intro i;rfl
 | Xu x l ih =>
  intro i
  cases i with
  | Q2Q=>rfl
  | Q2R i=>exact ih i
theorem Nk (a b:QC QH):∀i,i < ZE->nth (a++b) i=nth a i:=by
 induction a with
 | Zl=>intro i h;exact Xc h (Q02 _)
 | Xu x a ih =>
  intro i h
  cases i with
  | Q2Q=>rfl
  | Q2R i=>exact ih i (Zt h)
theorem IN (a b:QC QH) (j:QH):nth (a++b) (ZE+j)=nth b j:=by
 induction a with
 | Zl=>show nth b (0+j)=_;rw [Q1D]
 | Xu x a ih =>
  have:(x::a).ZT+j=(ZE+j)+1:=by simp only [XZ];omega
  rw [this];exact ih
theorem afT (v:QC QH) (x y:T) (S:QC (T×T)):∀j,ix x y S=QB j->nth (ds v S) j=dT v x - dT v y:=by
 induction S with
 | Zl=>intro j h;exact nomatch h
 | Xu p S ih =>
  intro j h
  have h':Q7W (Y7:=fun _=>QW QH) (Q3K (Y7:=fun _=>QW QH) QG (fun k=>QB (k+1)) (ix x y S)) (QB 0) (eqT x p.1&&eqT y p.2)=QB j:=h
  clear h
  cases e:(eqT x p.1&&eqT y p.2) with
  | QM =>
   rw [e]at h'
   have:=EQ e
   rw [<- X1 h',NN _ _ this.1,NN _ _ this.2];rfl
  | QJ =>
   rw [e]at h'
   cases f:ix x y S with
   | QG=>rw [f]at h';exact nomatch h'
   | QB k =>
    rw [f]at h'
    rw [<- X1 h']
    exact ih k f
theorem Nt (v:QC QH) (S:QC (T×T)) (t:T):∀p,lin Q1f S t=QB p->ev p (Q7K v (ds v S))=(dT v t:QH):=by
 induction t with
 | v i =>
  intro p h
  have h':Q7W (Y7:=fun _=>QW Po) QG (QB (un (i+1))) (QGm i Q1f)=QB p:=h
  clear h
  cases e:QGm i Q1f with
  | QJ=>rw [e]at h';exact nomatch h'
  | QM =>
   rw [e]at h'
   rw [<- X1 h',NM]
   show nI ((v++ds v S).map Q16) i=_
   rw [JK,Nk _ _ _ (Q0z e)];rfl
 | c n =>
  intro p h
  rw [<- X1 h]
  show (n:X3)*1+0=(n:QH)
  omega
 | a x y f g =>
  intro p h
  obtain (⟨q,r,e1,e2,QA⟩):=E8 h
  rw [FX,f q e1,g r e2];rfl
 | p x f =>
  intro p h
  obtain (⟨q,r,e1,e2,QA⟩):=E8 h
  rw [FX,f q e1]
  show (1:X3)*1+0+_=((dT v x+1:QH):X3)
  omega
 | s x y _ _ =>
  intro p h
  have h':Q3K (Y7:=fun _=>QW Po) QG (fun j=>QB (un (Q1f+1+j))) (ix x y S)=QB p:=h
  clear h
  cases e:ix x y S with
  | QG=>rw [e]at h';exact nomatch h'
  | QB j =>
   rw [e]at h'
   rw [<- X1 h',NM]
   have:Q1f+1+j=(Q1f+j)+1:=by omega
   rw [this]
   show nI ((v++ds v S).map Q16) _=_
   rw [JK,IN,afT v x y S j e];rfl
 | m k x f =>
  intro p h
  obtain (⟨q,r,e1,e2,QA⟩):=E8 h
  rw [DI,f q e1]
  show _=((k*dT v x:QH):X3)
  rw [Int.natCast_mul];rfl
def dd (n:QH) (S:QC (T×T)) (x y:T):QW Po:=o2 (lin n S y) (lin n S x) sub
theorem EN {v S x y p} (h:dd Q1f S x y=QB p):ev p (Q7K v (ds v S))=(dT v y:X3) - dT v x:=by
 obtain (⟨q,r,e1,e2,QA⟩):=E8 h
 rw [JU,Nt _ _ _ _ e1,Nt _ _ _ _ e2]
structure St where
 g:QC Po
 n:QC Po
def St.ok (s:St) (d:QC X3):Prop:=(∀p∈s.g,0<=ev p d)/\(∀p∈s.n,ev p d≠0)
def St.p (s:St) (p:Po):St:=⟨p::s.g,s.n⟩
theorem St.ok.p {s:St} {d p} (h:s.ok d) (k:0<=ev p d):(s.p p).ok d:=⟨fun q hq=>by
 cases hq with
 | Zc=>exact k
 | Q31 _ hq=>exact h.1 q hq,h.2⟩
def oS (o:QW Po) (f:Po->St):QW St:=Q3K (Y7:=fun _=>QW St) QG (fun p=>QB (f p)) o
theorem Dg {o f r} (h:oS o f=QB r):∃p,o=QB p/\r=f p:=by
 cases o with
 | QG=>exact nomatch h
 | QB p=>exact ⟨p,QA,(X1 h).Q3w⟩
def fct (n:QH) (S:QC (T×T)) (f:F) (s:St):QW St:=F.rec (Y7:=fun _=>QW St)
 (fun x y=>oS (dd n S x y) fun p=>s.p p)
 (fun x y=>oS (dd n S x y) fun p=>s.p (add [-1] p))
 (fun x y=>oS (dd n S x y) fun p=>(s.p p).p (mul (-1) p))
 (fun x y=>oS (dd n S x y) fun p=>⟨s.g,p::s.n⟩)
 (fun x y=>oS (dd n S y x) fun p=>s.p (add [-1] p))
 (fun x y=>oS (dd n S y x) fun p=>s.p p) (QB s) f
theorem I7 {v d p}:ev (add [-1] p) (Q7K v d)=ev p (Q7K v d) - 1:=by
 rw [FX]
 show (-1:X3)*1+0+_=_
 omega
theorem NL {v S f s s'} (h:fct Q1f S f s=QB s') (k:s.ok (Q7K v (ds v S))) (d:dF v f):s'.ok (Q7K v (ds v S)):=by
 cases f with
 | l x y =>
  obtain (⟨p,e,QA⟩):=Dg h
  have d':dT v x<=dT v y:=d
  exact k.p (by rw [EN e];omega)
 | t x y =>
  obtain (⟨p,e,QA⟩):=Dg h
  have d':dT v x < dT v y:=d
  exact k.p (by rw [I7,EN e];omega)
 | e x y =>
  obtain (⟨p,e,QA⟩):=Dg h
  have d':dT v x=dT v y:=d
  exact (k.p (by rw [EN e];omega)).p (by rw [DI,EN e];omega)
 | n x y =>
  obtain (⟨p,e,QA⟩):=Dg h
  have d':dT v x≠dT v y:=d
  refine ⟨k.1,fun q hq=>?_⟩
  cases hq with
  | Zc=>rw [EN e];omega
  | Q31 _ hq=>exact k.2 q hq
 | u x y =>
  obtain (⟨p,e,QA⟩):=Dg h
  have d':¬dT v x<=dT v y:=d
  exact k.p (by rw [I7,EN e];omega)
 | w x y =>
  obtain (⟨p,e,QA⟩):=Dg h
  have d':¬dT v x < dT v y:=d
  exact k.p (by rw [EN e];omega)
 | f=>exact Q1P d
def Uh (ms:QC QH) (ps:QC Po):Po:=Q0Z (Y7:=fun _=>QC Po->Po) (fun _=>[]) (fun m _ r ps=>Q0Z (Y7:=fun _=>Po) [] (fun p ps _=>add (mul (Q16 m) p) (r ps)) ps) ms ps
theorem Pn (d:QC X3) (ms:QC QH):∀ps,(∀p∈ps,0<=ev p d)->0<=ev (Uh ms ps) d:=by
 induction ms with
 | Zl=>intro ps _;exact Q7a 0
 | Xu m ms ih =>
  intro ps h
  cases ps with
  | Zl=>exact Q7a 0
  | Xu p ps =>
   show 0<=ev (add (mul (Q16 m) p) (Uh ms ps)) d
   rw [FX,DI]
   have h1:=ih ps fun q hq=>h q (.Q31 _ hq)
   have h2:=QBx (Q0B m) (h p (.Zc _))
   have h3:Q16 m*ev p d=(m:X3)*ev p d:=QA
   omega
def afE (p:Po):Qu:=Q0Z (Y7:=fun _=>Qu) QM (fun a _ r=>QFG a 0&&r) p
def afG (p:Po):Qu:=Q0Z (Y7:=fun _=>Qu) QJ (fun a p _=>QFG a (-1)&&afE p) p
theorem N9 {a b:X3} (h:QFG a b=QM):a<=b:=Int.ble'_eq_true _ _ |>.mp h
theorem O5 (p:Po):afE p=QM->∀d:QC QH,ev p (d.map Q16)<=0:=by
 induction p with
 | Zl=>intro _ d;exact Q7a 0
 | Xu a p ih =>
  intro h d
  have h:=EQ h
  cases d with
  | Zl=>exact Q7a 0
  | Xu x d =>
   show a*(x:X3)+ev p (d.map Q16)<=0
   have h1:=ih h.2 d
   have h2:=QBx (a:=-a) (b:=x) (by have:=N9 h.1;omega) (Q0B x)
   rw [Int.neg_mul]at h2
   omega
theorem O8 {p:Po} (h:afG p=QM) (v d:QC QH):ev p (Q7K v d) < 0:=by
 cases p with
 | Zl=>exact Xc h Qj
 | Xu a p =>
  have h:=EQ h
  show a*1+ev p ((v++d).map Q16) < 0
  have h1:=O5 p h.2 (v++d)
  have h2:=N9 h.1
  omega
def oB {α:Type} (o:QW α) (f:α->Qu):Qu:=Q3K (Y7:=fun _=>Qu) QJ f o
theorem DX {α:Type} {o:QW α} {f} (h:oB o f=QM):∃p,o=QB p/\f p=QM:=by
 cases o with
 | QG=>exact Xc h Qj
 | QB p=>exact ⟨p,QA,h⟩
def nt {α:Type} (l:QC α) (j:QH):QW α:=Q0Z (Y7:=fun _=>QH->QW α) (fun _=>QG) (fun x _ r i=>Q8L (Y7:=fun _=>QW α) (QB x) (fun k _=>r k) i) l j
theorem TX {α:Type} (l:QC α):∀j x,nt l j=QB x->x∈l:=by
 induction l with
 | Zl=>intro j x h;exact nomatch h
 | Xu y l ih =>
  intro j x h
  cases j with
  | Q2Q=>rw [<- X1 h];exact .Zc _
  | Q2R j=>exact .Q31 _ (ih j x h)
theorem afD (v:QC QH) (S:QC (T×T)):∀j d,nt S j=QB d->nth (ds v S) j=dT v d.1 - dT v d.2:=by
 induction S with
 | Zl=>intro j x h;exact nomatch h
 | Xu y l ih =>
  intro j x h
  cases j with
  | Q2Q=>rw [<- X1 h];rfl
  | Q2R j=>exact ih j x h
def dg (n:QH):QC QH:=Q8L (Y7:=fun _=>QH->QC QH->QC QH) (fun _ a=>a) (fun _ r n a=>Q7W (Y7:=fun _=>QC QH) (r (Nat.div n 10) (Nat.mod n 10::a)) a (QE9 n 1)) 40 n []
def run (n:QH) (S:QC (T×T)) (c:C):St->Qu:=C.rec (Y7:=fun _=>St->Qu)
 (fun ms s=>afG (Uh (dg ms) s.g))
 (fun j _ _ p q s=>oB (nt S j) fun d=>oB (dd n S d.2 d.1) fun e=>p (((s.p e).p (sub (un (n+1+j)) e)).p (sub e (un (n+1+j))))&&q ((s.p (add [-1] (mul (-1) e))).p (mul (-1) (un (n+1+j)))))
 (fun j _ _ p q s=>oB (nt s.n j) fun d=>p (s.p (add [-1] d))&&q (s.p (add [-1] (mul (-1) d)))) c
theorem TM (v:QC QH) (S:QC (T×T)) (c:C):∀s:St,s.ok (Q7K v (ds v S))->run Q1f S c s=QM->Yk:=by
 induction c with
 | f ms =>
  intro s k h
  have h1:=Pn _ (dg ms) _ k.1
  have h2:=O8 h v (ds v S)
  omega
 | s j p q f g =>
  intro s k h
  obtain (⟨d,e1,h⟩):=DX h
  obtain (⟨e,e2,h⟩):=DX h
  have h:=EQ h
  have w:=EN e2
  have u:ev (un (Q1f+1+j)) (Q7K v (ds v S))=((dT v d.1 - dT v d.2:QH):X3):=by
   rw [NM]
   have:Q1f+1+j=(Q1f+j)+1:=by omega
   rw [this]
   show nI ((v++ds v S).map Q16) _=_
   rw [JK,IN,afD v S j d e1]
  by_cases c:dT v d.2<=dT v d.1
  ·exact f _ (((k.p (by omega)).p (by rw [JU];omega)).p (by rw [JU];omega)) h.1
  ·exact g _ ((k.p (by rw [I7,DI];omega)).p (by rw [DI];omega)) h.2
 | n j p q f g =>
  intro s k h
  obtain (⟨d,e1,h⟩):=DX h
  have h:=EQ h
  have w:=k.2 d (TX _ _ _ e1)
  by_cases c:0 < ev d (Q7K v (ds v S))
  ·exact f _ (k.p (by rw [I7];omega)) h.1
  ·exact g _ (k.p (by rw [I7,DI];omega)) h.2
def ng (f:F):F:=F.rec (Y7:=fun _=>F) (fun x y=>.t y x) (fun x y=>.l y x) (fun x y=>.n x y) (fun x y=>.e x y) (fun x y=>.l x y) (fun x y=>.t x y) (.l (.c 0) (.c 0)) f
theorem afF {v f} (h:dF v (ng f)->Yk):dF v f:=by
 cases f with
 | l x y=>exact Nat.not_lt.mp h
 | t x y=>exact Nat.not_le.mp h
 | e x y=>exact @Decidable.of_not_not (dT v x=dT v y) (Nat.decEq ..) h
 | n x y=>exact h
 | u x y=>exact h
 | w x y=>exact h
 | f=>exact h (Qh _)
def chk (n:QH) (S:QC (T×T)) (c:C) (hs:QC F):St->Qu:=Q0Z (Y7:=fun _=>St->Qu) (fun s=>run n S c s) (fun h _ r s=>oB (fct n S h s) r) hs
theorem Ul {v S c} (hs:QC F) (g:F):∀s:St,s.ok (Q7K v (ds v S))\/dF v g->chk Q1f S c hs s=QM->imp v hs g:=by
 induction hs with
 | Zl =>
  intro s k h
  cases k with
  | inl k=>exact (TM v S c s k h).Q32
  | inr k=>exact k
 | Xu f hs ih =>
  intro s k h d
  obtain (⟨s',e,h⟩):=DX h
  exact ih s' (k.elim (fun k=>.inl (NL e k d)) .inr) h
def sT (t:T) (r:QC (T×T)):QC (T×T):=Q9f (Y7:=fun _=>QC (T×T)->QC (T×T)) (fun _ r=>r) (fun _ r=>r) (fun _ _ f g r=>f (g r)) (fun _ f r=>f r) (fun x y f g r=>f (g ((x,y)::r))) (fun _ _ f r=>f r) t r
def sF (f:F) (r:QC (T×T)):QC (T×T):=F.rec (Y7:=fun _=>QC (T×T)) (fun x y=>sT x (sT y r)) (fun x y=>sT x (sT y r)) (fun x y=>sT x (sT y r)) (fun x y=>sT x (sT y r)) (fun x y=>sT x (sT y r)) (fun x y=>sT x (sT y r)) r f
def sFs (fs:QC F):QC (T×T):=Q0Z (Y7:=fun _=>QC (T×T)) [] (fun f _ r=>sF f r) fs
def top (n:QH) (hs:QC F) (g:F) (c:C) (S:QC (T×T)):Qu:=oB (fct n S (ng g) ⟨[],[]⟩) (chk n S c hs)
theorem go (v:QC QH) (hs:QC F) (g:F) (c:C) (h:top Q1f hs g c (sFs (ng g::hs))=QM):imp v hs g:=by
 obtain (⟨s',e,h⟩):=DX h
 refine Ul hs g s' ?_ h
 by_cases k:dF v g
 ·exact .inr k
 ·refine .inl (NL e ⟨fun p hp=>(nomatch hp),fun p hp=>(nomatch hp)⟩ ?_)
  by_cases q:dF v (ng g)
  ·exact q
  ·exact Xc (afF (v:=v) (f:=g) q) k
abbrev v0:=T.v 0
abbrev v1:=T.v 1
abbrev v2:=T.v 2
abbrev v3:=T.v 3
abbrev v4:=T.v 4
abbrev v5:=T.v 5
abbrev v6:=T.v 6
abbrev v7:=T.v 7
abbrev v8:=T.v 8
abbrev v9:=T.v 9
abbrev v10:=T.v 10
abbrev v11:=T.v 11
abbrev v12:=T.v 12
abbrev v13:=T.v 13
abbrev v14:=T.v 14
end
example (a b d:Nat):a<=b->b < d->a+1<=d:=go [a,b,d] [.l v0 v1,.t v1 v2] (.l (.p v0) v2) (.f 1111) rfl
end La
end
section
namespace Mini
open La
mutual
theorem ia1 {a b:QH} (h:a=b+1):(a:X3) - 1=b:=by omega
theorem ia2 {a b c:QH} (h:a+b=c):(a:X3)+b=c:=by omega
theorem ia3 {a b c:QH} (h:a+1=c+b):(a:X3) - b+1=c:=by omega
theorem ia4 {a b:QH} (h:a+1=b):(a:X3)+1=b:=by omega
theorem ia5 {a b c:QH} (h:a=c+b):(a:X3) - b=c:=by omega
end
variable {a b c d e f g h i j k l m n o p q r s t u v:Nat}
mutual
def zq1:=go [a,b,c] [.t (.p v0) v1,.e v1 (.p v2)] (.t v0 v2) (.f 10111) QA
theorem zq2:a<=b->a+1<=b+1:=go [a,b] [.l v0 v1] (.l (.p v0) (.p v1)) (.f 111) QA
def zq3:=go [a,b,c] [.l (.a v0 v1) v2] (.l (.a v0 (.p v1)) (.p v2)) (.f 111) QA
def zq4:=go [a,b] [.l v0 v1] (.e (.s (.p v1) (.p v0)) (.s v1 v0)) (.n 0 (.s 0 (.s 1 (.f 11000101) (.f 1011)) (.f 10101)) (.s 0 (.s 1 (.f 10101001) (.f 1011001)) (.f 1101))) QA
def zq5:=go [a,b] [] (.e (.s v0 v1) (.s (.p v0) (.p v1))) (.n 0 (.s 0 (.s 1 (.f 11000101) (.f 1011)) (.s 1 (.f 1100011) (.f 110001))) (.s 0 (.s 1 (.f 10101001) (.f 1011001)) (.f 1101))) QA
def zq6:=go [a] [.t (.c 0) v0] (.t (.s v0 (.c 1)) v0) (.s 0 (.f 110001) (.f 1011)) QA
def zq7:=go [a,b,c] [.l (.a v0 (.s v1 (.c 1))) v2] (.l (.a v1 v0) (.p v2)) (.s 0 (.f 101011) (.f 10111)) QA
theorem zq8:0<=a:=go [a] [] (.l (.c 0) v0) (.f 11) QA
def zq9:=go [a,b] [.t v0 v1] (.t (.c 0) v1) (.f 111) QA
def ahv:=go [a,b,c] [.t v0 v1,.l v2 v0] (.l v2 v1) (.f 1111) QA
def ahu:=go [a,b,c] [.t v0 v1,.l v2 v0] (.t v2 v1) (.f 1111) QA
def aht:=go [a] [.w (.c 0) v0] (.e v0 (.c 0)) (.n 0 (.f 11) (.f 111)) QA
def Ov:=go [a,b,c,d] [.l v0 v1,.t v1 v0] (.e v2 v3) (.f 111) QA
def aen:=go [a,b,c] [.l (.a v0 v1) (.p v2)] (.l v1 (.s (.p v2) v0)) (.s 0 (.f 101011) (.f 10111)) QA
def aei:=go [a,b,c,d] [.t v0 v1,.l (.a v2 v3) (.p v0)] (.l (.a (.s (.p v0) v2) v2) v1) (.s 0 (.f 1100011) (.f 1011)) QA
def aed:=go [a,b] [.t (.c 0) v0,.l (.s v0 (.c 1)) v1] (.e (.s (.p v1) v0) (.s v1 (.s v0 (.c 1)))) (.n 0 (.s 0 (.s 1 (.s 2 (.f 11000100101) (.f 1100000001)) (.f 101000001)) (.s 1 (.f 10100101) (.f 10101))) (.s 0 (.s 1 (.s 2 (.f 10101001001) (.f 1011001001)) (.f 101000001)) (.f 1101))) QA
def ahs:=go [a] [.t (.c 0) v0] (.e (.s v0 (.s v0 (.c 1))) (.c 1)) (.n 0 (.s 0 (.s 1 (.f 10101001) (.f 1011)) (.f 10101)) (.s 0 (.s 1 (.f 11000101) (.f 1011)) (.f 10101))) QA
def ad2:=go [a,b,c] [.l (.a v0 (.s v1 (.c 1))) v2] (.l v0 (.s v2 (.s v1 (.c 1)))) (.s 1 (.f 101011) (.f 10111)) QA
def adT:=go [a,b,c] [.t v0 (.s v1 (.s v2 (.c 1)))] (.e (.s v1 (.s v2 (.c 1))) (.p (.s (.s v1 (.s v2 (.c 1))) (.c 1)))) (.n 0 (.s 4 (.f 11001) (.f 10101)) (.s 4 (.f 10101) (.f 1011))) QA
def adQ:=go [a,b,c] [.t v0 (.s v1 (.s v2 (.c 1)))] (.l v0 (.s (.s v1 (.s v2 (.c 1))) (.c 1))) (.s 2 (.f 101011) (.f 10111)) QA
def ahr:=go [a] [.e (.p (.p v0)) (.c 1)] (.f) (.f 101) QA
def adB:=go [a] [.e (.p v0) (.c 0)] (.f) (.f 101) QA
def Ou:=go [a,b,c] [.l (.a v0 v1) (.p v2)] (.e (.a (.s (.p v2) v0) v0) (.p v2)) (.n 0 (.s 0 (.f 10101) (.f 1011)) (.s 0 (.f 11001) (.f 10101))) QA
def Hs:=go [a,b] [.l v0 v1] (.l v0 (.p v1)) (.f 111) QA
def ahq:=go [a,b] [.l (.p v0) v1,.e v0 v1] (.f) (.f 1101) QA
def ada:=go [a,b,c] [.l (.a v0 v1) v2] (.l v0 (.s v2 v1)) (.s 0 (.f 101011) (.f 10111)) QA
def Hr:=go [a,b] [.l v0 v1] (.l v0 v1) (.f 111) QA
def acV:=go [a,b,c,d,e] [.t (.c 0) v0,.l (.a v1 v0) v2,.l (.a v3 v4) v1] (.l (.a v3 v4) v2) (.f 11111) QA
def Lf:=go [a] [.t (.c 0) v0] (.t (.c 0) v0) (.f 111) QA
def DK:=go [a,b,c] [.l (.a v0 v1) v2] (.l (.a v0 v1) v2) (.f 111) QA
def acv:=go [a,b,c,d] [.t (.c 0) v0,.l v1 v2,.l (.a v2 v0) v3] (.l v1 v3) (.f 11111) QA
def aco:=go [a,b,c,d,e] [.t (.c 0) v0,.l (.a v1 v2) v3,.l (.a v3 v0) v4] (.l (.a v1 v2) v4) (.f 11111) QA
def ahp:=go [a,b,c] [] (.l v0 (.a (.p (.m 2 (.s v1 v2))) v0)) (.f 11) QA
def aho:=go [a,b,c,d] [] (.l v0 (.a (.p (.m 2 (.s v1 (.a v2 v3)))) v0)) (.f 11) QA
def ahn:=go [a,b,c,d,e,f,g,h] [.t (.c 0) v0,.l v1 v2,.l (.a v2 v0) v3,.l v4 (.a (.p (.m 2 (.s v2 v1))) v5),.l v6 (.a (.p (.m 2 (.s v3 (.a v2 v0)))) v4),.e v7 (.a (.p (.m 2 (.s v3 v1))) v5)] (.t v6 v7) (.s 0 (.s 1 (.s 2 (.f 102020020010110021) (.f 1011001)) (.f 10100000001)) (.f 101000001)) QA
def ahm:=go [a,b,c,d,e] [.l v0 v1,.l (.a v1 v2) v3,.t (.c 0) v2,.l v4 (.s v3 (.a v1 v2))] (.l (.p v4) (.s v3 v0)) (.s 0 (.s 1 (.f 110001011011) (.f 101000001)) (.f 1010111)) QA
def L8:=go [a,b] [.l v0 v1] (.e (.s (.s v1 (.c 1)) v0) (.s (.s v1 v0) (.c 1))) (.n 0 (.s 0 (.s 1 (.s 2 (.s 3 (.f 11001000100101) (.f 1100000000001)) (.f 1011001)) (.s 2 (.s 3 (.f 1100100010101) (.f 110000000001)) (.f 1010000001))) (.s 2 (.s 3 (.f 1100100011) (.f 110000001)) (.f 1010001))) (.s 0 (.s 1 (.s 2 (.s 3 (.f 10100101001001) (.f 1010101001001)) (.f 1011001001)) (.f 1100001)) (.s 1 (.f 1100101) (.f 110001)))) QA
def Ot:=go [a,b,c,d] [.l (.a v0 v1) v2,.t v3 v1] (.t v0 (.s v2 v3)) (.s 0 (.f 1010111) (.f 10111)) QA
def ahl:=go [a,b,c,d] [.l (.a v0 v1) v2,.t v2 v3] (.l (.a v0 (.p v1)) v3) (.f 1111) QA
def abN:=go [a,b] [.l v0 v1] (.e (.a v0 (.s v1 v0)) v1) (.n 0 (.s 0 (.f 10101) (.f 1011)) (.s 0 (.f 11001) (.f 10101))) QA
def ahk:=go [a,b,c,d] [.t v0 v1,.l (.a v1 (.s v2 v3)) v0] (.t v2 v3) (.f 111) QA
theorem Tm:¬a<=b->b < a:=go [a,b] [.u v0 v1] (.t v1 v0) (.f 111) QA
def ahj:=go [a,b,c,d] [.t v0 v1,.l (.a v2 (.s v1 v0)) v3] (.t v2 v3) (.s 0 (.f 1010111) (.f 10101)) QA
theorem L6:¬a < b->b<=a:=go [a,b] [.w v0 v1] (.l v1 v0) (.f 111) QA
def ahh:=go [a,b,c] [.l (.a v0 (.p v1)) v2] (.t v1 v2) (.f 111) QA
def ahg:=go [a,b,c,d,e] [.t v0 v1,.l v2 v0,.l (.a v1 (.s v3 (.p v4))) v2] (.l v3 v4) (.f 1111) QA
def ahf:=go [a,b] [.u (.p v0) v1] (.l v1 v0) (.f 111) QA
def ahe:=go [a,b,c,d,e] [.l v0 v1,.l (.a v2 (.s v3 v4)) v0] (.l v2 v1) (.f 1111) QA
def aaJ:=go [a,b,c] [.l v0 v1,.t v1 v2,.e v2 (.p v0)] (.e v1 v0) (.n 0 (.f 110001) (.f 11011)) QA
def aaC:=go [a,b] [.t v0 v1] (.e v1 (.p (.s v1 (.c 1)))) (.n 0 (.s 0 (.f 11001) (.f 10101)) (.s 0 (.f 10101) (.f 1011))) QA
def aat:=go [a,b,c] [.t v0 v1,.e v1 (.p v2)] (.l v0 v2) (.f 10111) QA
def aam:=go [a,b] [.e v0 (.p v1)] (.t v1 v0) (.f 1101) QA
def ahd:=go [a,b] [] (.e (.a v0 v1) (.a v1 v0)) (.n 0 (.f 11) (.f 11)) QA
def Le:=go [a,b] [.t v0 v1] (.t v0 (.p v1)) (.f 111) QA
theorem Hq:a < a+1:=go [a] [] (.t v0 (.p v0)) (.f 11) QA
def ahc:=go [a,b,c,d,e,f] [.e (.a v0 v1) (.a v2 v3),.e (.a v4 v2) (.a v5 v0)] (.e (.a v4 v1) (.a v5 v3)) (.n 0 (.f 11101) (.f 110101)) QA
def WI:=go [a,b,c,d] [.e v0 (.a v1 v2),.e v3 (.p v0)] (.e v3 (.a v1 (.p v2))) (.n 0 (.f 11101) (.f 110101)) QA
def ahb:=go [a,b] [.l v0 v1] (.e v1 (.a v0 (.s v1 v0))) (.n 0 (.s 0 (.f 11001) (.f 10101)) (.s 0 (.f 10101) (.f 1011))) QA
def aha:=go [a,b,c,d] [.t (.a v0 v1) (.a v0 v2),.t v3 v1] (.t v3 v2) (.f 1111) QA
def ag9:=go [a,b,c,d] [.t (.a v0 v1) (.a v0 v2),.t v3 (.p v1)] (.t v3 v2) (.f 1111) QA
def ag8:=go [a,b,c] [.t (.a v0 v1) (.a v0 v2)] (.t v1 v2) (.f 111) QA
def ag7:=go [a,b,c,d,e] [.l v0 (.a v1 v2),.e (.a v0 v3) (.a v4 v1)] (.l v4 (.a v3 v2)) (.f 11011) QA
def ag6:=go [a,b,c,d,e] [.t (.a v0 v1) v2,.e (.a v2 v3) (.a v4 v0)] (.t (.a v3 v1) v4) (.f 10111) QA
def Tl:=go [a,b,c] [.e v0 v1,.t v2 v1] (.t v2 v0) (.f 11101) QA
def V1:=go [a,b] [.t v0 v1] (.t (.s (.s v1 (.c 1)) v0) v1) (.s 0 (.s 1 (.f 110010001) (.f 11100011)) (.f 1011)) QA
def VS:=go [a,b,c] [.l (.s v0 (.c 1)) v1,.t v2 v0] (.e (.a (.s (.p v1) v0) v2) (.s v1 (.s (.s v0 (.c 1)) v2))) (.n 0 (.s 0 (.s 1 (.s 2 (.s 3 (.f 11000100100101) (.f 1100000000001)) (.f 10101000001)) (.f 10100001)) (.s 1 (.f 101001001) (.f 10101))) (.s 0 (.s 1 (.s 2 (.s 3 (.f 10101001001001) (.f 1011001001001)) (.f 10101000001)) (.f 10100001)) (.s 1 (.f 101001001) (.f 10101)))) QA
def VK:=go [a,b,c] [.l (.a v0 (.s v1 (.c 1))) v2] (.e (.a (.s (.p v2) v1) v1) (.p v2)) (.s 0 (.n 0 (.f 1101) (.f 111)) (.s 1 (.f 1010011) (.f 10101))) QA
def VE:=go [a,b,c] [.e v0 (.a v1 v2)] (.e (.a v1 v2) v0) (.n 0 (.f 1101) (.f 111)) QA
def Vu:=go [a,b] [.e v0 (.p v1)] (.e v0 (.p v1)) (.n 0 (.f 111) (.f 1101)) QA
def Vr:=go [a,b,c,d] [.e (.a v0 v1) v2,.e v2 (.p v3)] (.e v0 (.s (.p v3) v1)) (.n 0 (.s 0 (.f 11001101) (.f 1101)) (.s 0 (.f 101010101) (.f 10110101))) QA
def Os:=go [a,b,c] [.l v0 v1,.t v1 v2] (.t v0 v2) (.f 1111) QA
def ag5:=go [a,b] [.l v0 v1,.l v1 v0] (.e v1 v0) (.n 0 (.f 1101) (.f 111)) QA
def Vk:=go [a,b,c] [.l v0 v1,.t v2 v0] (.e (.s (.s v1 (.c 1)) (.s (.s v0 (.c 1)) v2)) (.a (.s v1 v0) v2)) (.n 0 (.s 0 (.s 1 (.s 2 (.s 3 (.s 4 (.f 11000101001000101) (.f 101000000000000001)) (.f 101100100010001)) (.f 10101000001)) (.f 10100001)) (.f 101011)) (.s 0 (.s 1 (.s 2 (.s 3 (.s 4 (.f 10101000100101001) (.f 1011000100101001)) (.f 1100000000001)) (.f 10101000001)) (.f 10100001)) (.f 101011))) QA
def Tk:=go [a,b] [.l v0 v1] (.e (.a (.s v1 v0) v0) v1) (.n 0 (.s 0 (.f 10101) (.f 1011)) (.s 0 (.f 11001) (.f 10101))) QA
theorem Ld:a - b<=a:=go [a,b] [] (.l (.s v0 v1) v0) (.s 0 (.f 11001) (.f 1101)) QA
def ag4:=go [a,b,c,d] [.e (.a v0 v1) (.a v2 v3)] (.l (.s v0 v3) v2) (.s 0 (.f 1100011) (.f 110001)) QA
def ag3:=go [a,b,c,d,e] [.l (.a v0 (.s v1 (.s v1 v2))) v3,.l v4 v0] (.l (.a v4 (.s v3 v0)) v3) (.s 0 (.f 1100101) (.f 10101)) QA
def ag2:=go [a,b,c,d,e,f,g] [.e (.a v0 v1) (.a v2 v3),.l (.a v3 (.s v4 (.s v4 v5))) v0,.l v6 v1] (.l (.a v6 (.s v0 v3)) v2) (.s 0 (.f 110010011) (.f 10101)) QA
def ag1:=go [a,b,c] [.t v0 (.s v1 v2)] (.t (.a v2 (.s (.s (.s v1 v2) (.c 1)) v0)) v1) (.s 0 (.s 1 (.s 2 (.f 110010010001) (.f 11100010011)) (.f 1010001)) (.f 1101)) QA
def ag0:=go [a,b,c,d,e] [.l (.a v0 (.s v1 (.s v1 v2))) v3,.t v4 (.s v3 (.s v3 v0))] (.t v4 v0) (.s 2 (.s 3 (.f 1100010101) (.f 1011)) (.f 10101)) QA
def agZ:=go [a,b,c,d,e,f,g] [.e (.a v0 v1) (.a v2 v3),.l (.a v3 (.s v4 (.s v4 v5))) v0,.t v6 (.s v2 (.s v0 v3))] (.t v6 v1) (.s 2 (.s 3 (.f 110001010101) (.f 1100001)) (.f 10101)) QA
def Oq:=go [a,b,c] [.t v0 (.s v1 v2)] (.e (.p (.s (.s v1 v2) (.c 1))) (.s v1 v2)) (.n 0 (.s 1 (.f 10101) (.f 1011)) (.s 1 (.f 11001) (.f 10101))) QA
def agY:=go [a,b,c] [.t v0 (.s v1 (.s v1 v2))] (.t (.s (.s v1 (.s v1 v2)) (.c 1)) v2) (.s 0 (.s 1 (.s 2 (.f 110010001001) (.f 1010000001)) (.f 1011)) (.s 1 (.s 2 (.f 11001000101) (.f 1100000101)) (.f 1011))) QA
def agX:=go [a,b,c,d,e] [.e (.a v0 v1) (.a v2 v3),.t v4 (.s v2 (.s v0 v3))] (.t (.s (.s v2 (.s v0 v3)) (.c 1)) v1) (.s 0 (.s 1 (.s 2 (.f 11001000100101) (.f 1010000001)) (.f 1100001)) (.s 1 (.s 2 (.f 1100100010101) (.f 101000001)) (.f 1011))) QA
def Gc:=go [a,b] [] (.l v0 (.a v0 v1)) (.f 11) QA
def agW:=go [a] [] (.e (.s v0 v0) (.c 0)) (.n 0 (.f 11) (.s 0 (.f 11001) (.f 101))) QA
def agV:=go [a,b,c,d,e] [.l (.a v0 (.s (.a v1 v2) v1)) v3,.l v3 v4] (.l (.a v0 (.s v3 v0)) v4) (.s 0 (.f 1100101) (.f 10101)) QA
def agU:=go [a,b,c,d,e,f,g] [.e (.a v0 v1) (.a v2 v3),.l (.a v3 (.s (.a v4 v5) v4)) v0,.l v2 v6] (.l (.a v1 (.s v0 v3)) v6) (.s 0 (.f 110010011) (.f 10101)) QA
theorem UQ:a < b - c->c+a < b:=go [a,b,c] [.t v0 (.s v1 v2)] (.t (.a v2 v0) v1) (.s 0 (.f 110011) (.f 1101)) QA
def agT:=go [a,b,c] [.t (.a v0 (.s v1 v0)) v2] (.t v1 v2) (.s 0 (.f 101011) (.f 10111)) QA
def agS:=go [a,b,c,d,e,f,g] [.e (.a v0 v1) (.a v2 v3),.l (.a v3 (.s (.a v4 v5) v4)) v0,.t (.a v1 (.s v0 v3)) v6] (.t v2 v6) (.s 1 (.f 101010101) (.f 10101)) QA
def agR:=go [a,b] [] (.l v0 (.a v1 (.s v0 v1))) (.s 0 (.f 10101) (.f 1011)) QA
def agQ:=go [a,b,c,d,e] [.l (.a v0 (.s (.a v1 v2) v1)) v3,.t v3 v4] (.t (.a v0 (.s v3 v0)) v4) (.s 0 (.f 1100101) (.f 10101)) QA
def agP:=go [a,b,c,d] [.e (.a v0 v1) (.a v2 v3)] (.l v2 (.a v1 (.s v0 v3))) (.s 0 (.f 1010101) (.f 101101)) QA
def agO:=go [a,b,c,d,e,f,g] [.e (.a v0 v1) (.a v2 v3),.l (.a v3 (.s (.a v4 v5) v4)) v0,.t v2 v6] (.t (.a v1 (.s v0 v3)) v6) (.s 0 (.f 110010011) (.f 10101)) QA
def UP:=go [a,b,c] [.e (.a v0 v1) v2] (.e v2 (.a v0 v1)) (.n 0 (.f 1101) (.f 111)) QA
def UO:=go [a,b,c,d] [.l v0 v1] (.e (.a (.s v1 v0) (.a (.a v2 v0) v3)) (.a (.a v1 v2) v3)) (.n 0 (.s 0 (.f 10101) (.f 1011)) (.s 0 (.f 11001) (.f 10101))) QA
def agN:=go [a,b,c] [] (.l (.a v0 v1) (.a (.a v0 v1) v2)) (.f 11) QA
def agM:=go [a,b,c,d,e,f,g,h,i] [.e (.a v0 v1) (.a v2 v3),.e (.a v4 v5) (.a v6 v7),.e v7 (.a v0 v8),.e v5 (.a v2 v8)] (.e (.a v4 v1) (.a v6 v3)) (.n 0 (.f 110110101) (.f 1110010101)) QA
def SZ:=go [a,b,c,d] [.l (.a v0 (.s (.a v1 v2) v1)) v3] (.e (.a v0 (.s v3 v0)) v3) (.n 0 (.s 0 (.f 10101) (.f 1011)) (.s 0 (.f 11001) (.f 10101))) QA
def SY:=go [a,b,c,d] [.e (.a v0 v1) (.a v2 v3),.e (.a v3 (.s v0 v3)) v0] (.e (.a v1 (.s v0 v3)) v2) (.n 0 (.f 11101) (.f 110101)) QA
def aeH:=go [a,b,c,d] [.t (.c 0) v0,.l (.a v1 (.s (.a v2 v0) v2)) v3,.e (.a v1 (.s v3 v1)) v3] (.t (.c 0) (.s v3 v1)) (.s 1 (.f 101010111) (.f 101)) QA
def SX:=go [a,b,c,d] [.e (.a v0 v1) v2] (.e (.a v0 (.a v1 v3)) (.a v2 v3)) (.n 0 (.f 111) (.f 1101)) QA
def aeG:=go [a,b,c,d,e,f,g,h] [.e (.a v0 v1) (.a v2 v3),.e (.a v4 v5) (.a v6 v7),.e v0 v7,.e v2 v5] (.e (.a v4 v1) (.a v6 v3)) (.n 0 (.f 111001101) (.f 1101100101)) QA
def aeF:=go [a,b,c,d] [.l (.a v0 (.s (.a v1 v2) v1)) v3,.e (.a v0 (.s v3 v0)) v3,.n v2 (.c 0)] (.n (.s v3 v0) (.c 0)) (.n 0 (.f 11) (.s 1 (.f 1010110101) (.f 101))) QA
def SW:=go [a,b] [.t v0 v1] (.l v0 (.s v1 (.c 1))) (.s 0 (.f 101011) (.f 10111)) QA
def SV:=go [a,b] [.t v0 v1] (.t (.s v1 (.c 1)) v1) (.s 0 (.f 110001) (.f 1011)) QA
def SU:=go [a,b,c] [.l v0 v1] (.l v0 (.a v1 v2)) (.f 111) QA
def aeE:=go [a,b,c] [.e (.c 0) (.a (.a v0 v1) v2)] (.e v0 (.c 0)) (.n 0 (.f 11) (.f 111)) QA
def aeD:=go [a,b,c] [.e (.c 0) (.a (.a v0 v1) v2)] (.e v1 (.c 0)) (.n 0 (.f 11) (.f 111)) QA
def aeC:=go [a,b,c] [.e (.c 0) (.a (.a v0 v1) v2)] (.e v2 (.c 0)) (.n 0 (.f 11) (.f 111)) QA
def SS:=go [a,b,c,d] [.t (.c 0) v0,.e (.a v1 v0) (.c 0)] (.e v2 v3) (.f 1011) QA
def aeB:=go [a,b,c,d] [] (.e (.a (.a v0 v1) (.s (.p v2) (.p v3))) (.a v0 (.a v1 (.s v2 v3)))) (.n 0 (.s 0 (.s 1 (.f 11000101) (.f 1011)) (.s 1 (.f 1100011) (.f 110001))) (.s 0 (.s 1 (.f 10101001) (.f 1011001)) (.f 1101))) QA
def aeA:=go [a,b,c,d] [.e v0 v1] (.e (.a v2 (.a v3 v1)) (.a (.a v2 v3) v0)) (.n 0 (.f 1101) (.f 111)) QA
def aez:=go [a,b] [.l (.c 1) v0] (.t v1 (.a v1 v0)) (.f 111) QA
def aey:=go [a,b,c] [.l (.a v0 v1) v2] (.l v1 (.s v2 v0)) (.s 0 (.f 101011) (.f 10111)) QA
def aex:=go [a,b,c,d] [.l (.a v0 v1) v2,.t v2 (.a v0 v3)] (.t (.s v2 v0) v3) (.s 0 (.f 1100101) (.f 10101)) QA
def GQ:=go [a,b,c] [.l (.a v0 v1) v2] (.l v0 v2) (.f 111) QA
def aew:=go [a,b,c] [.l (.a v0 (.c 0)) (.m 3 v1),.l v2 (.c 3)] (.l (.a (.a v2 v0) (.c 0)) (.m 3 (.p v1))) (.f 1111) QA
def aev:=go [a] [.w (.c 2) v0] (.t v0 (.c 3)) (.f 111) QA
def SR:=go [a,b] [.e v0 (.c 1)] (.e (.a v1 v0) (.p v1)) (.n 0 (.f 111) (.f 1101)) QA
def aeu:=go [a,b,c] [] (.e (.a (.a v0 v1) v2) (.a (.a v2 v1) v0)) (.n 0 (.f 11) (.f 11)) QA
theorem Be:a<=b->c < a->c < b:=go [a,b,c] [.l v0 v1,.t v2 v0] (.t v2 v1) (.f 1111) QA
def aet:=go [a,b,c,d] [.l v0 v1,.t v1 v2,.t v3 v0] (.t v3 v2) (.f 11111) QA
def aes:=go [a,b,c,d] [.e v0 v1,.e v2 v3,.t v2 v0] (.t v3 v1) (.f 1110011) QA
def aer:=go [a,b] [.l v0 v1,.n v0 v1] (.t v0 v1) (.n 0 (.f 1101) (.f 111)) QA
def aeq:=go [a,b,c,d] [.e v0 v1,.e v2 v3,.t v0 v2] (.l v1 v3) (.f 1101101) QA
def EA:=go [a] [] (.l v0 (.p v0)) (.f 11) QA
def SQ:=go [a] [] (.l (.p v0) (.p v0)) (.f 11) QA
def aep:=go [a,b] [.l v0 (.c 900),.l v1 (.p v0)] (.l v1 (.c 1000)) (.f 1111) QA
theorem Ck:a+(b+1)<=c->a < c:=go [a,b,c] [.l (.a v0 (.p v1)) v2] (.t v0 v2) (.f 111) QA
theorem Mf:a+(b+1)<=c->a+1+b<=c:=go [a,b,c] [.l (.a v0 (.p v1)) v2] (.l (.a (.p v0) v1) v2) (.f 111) QA
theorem Me:a+(b+1)=a+1+b:=go [a,b] [] (.e (.a v0 (.p v1)) (.a (.p v0) v1)) (.n 0 (.f 11) (.f 11)) QA
def aeo:=go [a] [] (.l (.a (.c 0) v0) v0) (.f 11) QA
theorem Kw:a<=b->b<=a->a=b:=go [a,b] [.l v0 v1,.l v1 v0] (.e v0 v1) (.n 0 (.f 111) (.f 1101)) QA
def Ig:=go [a,b] [.t v0 v1] (.t (.s (.p v1) (.p v0)) (.s (.p v1) v0)) (.s 0 (.s 1 (.f 110001001) (.f 1010001)) (.f 1011)) QA
def BH:=go [a,b] [.n v0 v1,.t v0 (.p v1)] (.t v0 v1) (.n 0 (.f 1101) (.f 111)) QA
theorem Bl:a < b+1->a≠b->a < b:=go [a,b] [.t v0 (.p v1),.n v0 v1] (.t v0 v1) (.n 0 (.f 1101) (.f 111)) QA
theorem SP:a<=a:=go [a] [] (.l v0 v0) (.f 11) QA
def aem:=go [a,b,c] [.t (.a (.a v0 (.c 200)) (.m 10 v1)) v2] (.t (.a v0 (.c 200)) v2) (.f 111) QA
def ael:=go [a,b,c] [.t (.a (.a v0 (.c 10)) (.m 2 v1)) v2] (.t (.a v0 (.c 10)) v2) (.f 111) QA
def aek:=go [a,b,c] [.t (.a (.a v0 (.c 200)) (.m 10 (.p v1))) v2] (.t (.a (.a (.a v0 (.c 3)) (.c 200)) (.m 10 v1)) v2) (.f 111) QA
def SO:=go [a,b,c] [.t (.a (.a v0 (.c 10)) (.m 2 (.p v1))) v2] (.t (.a (.a (.p v0) (.c 10)) (.m 2 v1)) v2) (.f 111) QA
def aej:=go [a,b,c] [.t (.a (.a v0 (.c 200)) (.m 10 (.p v1))) v2] (.t (.a (.a v0 (.c 200)) (.m 10 v1)) v2) (.f 111) QA
def SN:=go [a,b,c] [.t (.a (.a v0 (.c 10)) (.m 2 (.p v1))) v2] (.t (.a (.a v0 (.c 10)) (.m 2 v1)) v2) (.f 111) QA
def Md:=go [a] [] (.t v0 (.p (.p v0))) (.f 11) QA
def aeh:=go [a,b,c] [.t (.a (.a v0 (.c 200)) (.m 10 (.p v1))) v2] (.t (.a (.a (.p v0) (.c 200)) (.m 10 v1)) v2) (.f 111) QA
def SM:=go [a,b,c] [.t (.a (.a v0 (.c 200)) (.m 10 (.p v1))) v2] (.t (.a (.a (.a (.p v0) (.c 3)) (.c 200)) (.m 10 v1)) v2) (.f 111) QA
def SL:=go [a,b,c] [.t (.a (.a v0 (.c 10)) (.m 2 (.p v1))) v2] (.t (.a (.a (.p (.p v0)) (.c 10)) (.m 2 v1)) v2) (.f 111) QA
def aeg:=go [a,b,c] [.t (.a (.a v0 (.c 10)) (.m 2 v1)) v2] (.t v0 v2) (.f 111) QA
def aef:=go [a,b,c] [.t (.a (.a v0 (.c 10)) (.m 2 (.p v1))) v2] (.t (.p v0) v2) (.f 111) QA
def Ie:=go [a,b,c] [.t (.a (.a v0 (.c 10)) (.m 2 (.p v1))) v2] (.t v0 v2) (.f 111) QA
def Kv:=go [] [] (.t (.c 0) (.c 2)) (.f 11) QA
def Ku:=go [] [] (.t (.c 1) (.c 2)) (.f 11) QA
def Kt:=go [a,b] [.t (.a v0 (.c 200)) v1] (.t (.a v0 (.c 64)) v1) (.f 111) QA
def aee:=go [a,b,c,d] [.l v0 v1,.e v2 v0,.e v2 v3] (.l v3 v1) (.f 1100111) QA
theorem Ff:a+1+b=a+(b+1):=go [a,b] [] (.e (.a (.p v0) v1) (.a v0 (.p v1))) (.n 0 (.f 11) (.f 11)) QA
theorem aec:0<=a+1:=go [a] [] (.l (.c 0) (.p v0)) (.f 11) QA
theorem Dt:a < 1000->¬16777216 < a+1+0:=go [a] [.t v0 (.c 1000)] (.w (.c 16777216) (.a (.p v0) (.c 0))) (.f 111) QA
theorem aeb:a<=b->c<=d->a+c<=b+d:=go [a,b,c,d] [.l v0 v1,.l v2 v3] (.l (.a v0 v2) (.a v1 v3)) (.f 1111) QA
theorem aea:a+(b+c)=a+c+b:=go [a,b,c] [] (.e (.a v0 (.a v1 v2)) (.a (.a v0 v2) v1)) (.n 0 (.f 11) (.f 11)) QA
theorem ad9:1+a<=a+1:=go [a] [] (.l (.a (.c 1) v0) (.p v0)) (.f 11) QA
theorem SK:a+2 < 1000->a+1 < 1000:=go [a] [.t (.a v0 (.c 2)) (.c 1000)] (.t (.p v0) (.c 1000)) (.f 111) QA
theorem SJ:2+(0+1)+1<=4:=go [] [] (.l (.p (.a (.c 2) (.p (.c 0)))) (.c 4)) (.f 11) QA
theorem ad8:4+(6*(a+1)+1)<=6*(a+1+1):=go [a] [] (.l (.a (.c 4) (.p (.m 6 (.p v0)))) (.m 6 (.p (.p v0)))) (.f 11) QA
theorem ad7:0+1<=6*(a+1)+1:=go [a] [] (.l (.p (.c 0)) (.p (.m 6 (.p v0)))) (.f 11) QA
theorem ad6:a+2 < 1000->a < 1000:=go [a] [.t (.a v0 (.c 2)) (.c 1000)] (.t v0 (.c 1000)) (.f 111) QA
theorem SI:a+5 < 1000->a+1 < 1000:=go [a] [.t (.a v0 (.c 5)) (.c 1000)] (.t (.p v0) (.c 1000)) (.f 111) QA
theorem ad5:a+5 < 1000->a < 1000:=go [a] [.t (.a v0 (.c 5)) (.c 1000)] (.t v0 (.c 1000)) (.f 111) QA
theorem ad4:6*(a+1)+9+1+1<=6*(a+1)+12:=go [a] [] (.l (.p (.p (.a (.m 6 (.p v0)) (.c 9)))) (.a (.m 6 (.p v0)) (.c 12))) (.f 11) QA
theorem ad3:a<=b->¬b < a:=go [a,b] [.l v0 v1] (.w v1 v0) (.f 111) QA
theorem SH:5+1<=6*(a+1)+9:=go [a] [] (.l (.p (.c 5)) (.a (.m 6 (.p v0)) (.c 9))) (.f 11) QA
theorem ad1:a+5 < 1000->a+1+1 < 1000:=go [a] [.t (.a v0 (.c 5)) (.c 1000)] (.t (.p (.p v0)) (.c 1000)) (.f 111) QA
theorem ad0:¬a<=b->b+1<=a:=go [a,b] [.u v0 v1] (.l (.p v1) v0) (.f 111) QA
theorem adZ:a+5 < 1000->a+1+1+2 < 1000:=go [a] [.t (.a v0 (.c 5)) (.c 1000)] (.t (.a (.p (.p v0)) (.c 2)) (.c 1000)) (.f 111) QA
theorem adY:¬a<=b->c<=a - (b+1)->6*(c+1)+5+1+1<=6*(a+1)+9:=go [a,b,c] [.u v0 v1,.l v2 (.s v0 (.p v1))] (.l (.p (.p (.a (.m 6 (.p v2)) (.c 5)))) (.a (.m 6 (.p v0)) (.c 9))) (.s 0 (.f 1600601) (.f 10101)) QA
theorem adX:a+6 < 1000->a < 1000:=go [a] [.t (.a v0 (.c 6)) (.c 1000)] (.t v0 (.c 1000)) (.f 111) QA
theorem adW:a<=b->a - 1<=b:=go [a,b] [.l v0 v1] (.l (.s v0 (.c 1)) v1) (.s 0 (.f 110011) (.f 11001)) QA
theorem SG:a < 1000000->a < 4294967295:=go [a] [.t v0 (.c 1000000)] (.t v0 (.c 4294967295)) (.f 111) QA
theorem adV:a < 1000000->6*(a+1)+14<=6*1000000+14:=go [a] [.t v0 (.c 1000000)] (.l (.a (.m 6 (.p v0)) (.c 14)) (.a (.m 6 (.c 1000000)) (.c 14))) (.f 161) QA
theorem adU:a < 1000000->b<=a - 0->b+1<=1000000:=go [a,b] [.t v0 (.c 1000000),.l v1 (.s v0 (.c 0))] (.l (.p v1) (.c 1000000)) (.s 0 (.f 1100111) (.f 110101)) QA
theorem Mc:0 < a+1:=go [a] [] (.t (.c 0) (.p v0)) (.f 11) QA
theorem SF:a < b->a+1 < b+1:=go [a,b] [.t v0 v1] (.t (.p v0) (.p v1)) (.f 111) QA
theorem SE:a+1 < b+1->a < b:=go [a,b] [.t (.p v0) (.p v1)] (.t v0 v1) (.f 111) QA
theorem SD:a<=a+0:=go [a] [] (.l v0 (.a v0 (.c 0))) (.f 11) QA
theorem Ks:a<=a+(b+1):=go [a,b] [] (.l v0 (.a v0 (.p v1))) (.f 11) QA
theorem SC:a<=b - 1->a<=b:=go [a,b] [.l v0 (.s v1 (.c 1))] (.l v0 v1) (.s 0 (.f 110011) (.f 11011)) QA
theorem SA:a - 1<=b+c->a<=b+(c+1):=go [a,b,c] [.l (.s v0 (.c 1)) (.a v1 v2)] (.l v0 (.a v1 (.p v2))) (.s 0 (.f 101011) (.f 10101)) QA
theorem Mb:a=b->a<=b:=go [a,b] [.e v0 v1] (.l v0 v1) (.f 1011) QA
theorem adS:a+1=b->a<=b:=go [a,b] [.e (.p v0) v1] (.l v0 v1) (.f 1011) QA
theorem adR:a+1=b->a<=c->c < b->c=a:=go [a,b,c] [.e (.p v0) v1,.l v0 v2,.t v2 v1] (.e v2 v0) (.n 0 (.f 1101) (.f 11101)) QA
theorem Sz:a < b - (c+1)->c+1+a < b:=go [a,b,c] [.t v0 (.s v1 (.p v2))] (.t (.a (.p v2) v0) v1) (.s 0 (.f 110011) (.f 1101)) QA
theorem adP:a<=b+1+c->¬d < c->a<=b+1+d:=go [a,b,c,d] [.l v0 (.a (.p v1) v2),.w v3 v2] (.l v0 (.a (.p v1) v3)) (.f 1111) QA
theorem adO:a<=b->¬c < b->a<=c:=go [a,b,c] [.l v0 v1,.w v2 v1] (.l v0 v2) (.f 1111) QA
theorem adN:a < b->a < b+(c+1):=go [a,b,c] [.t v0 v1] (.t v0 (.a v1 (.p v2))) (.f 111) QA
theorem adM:a < b+(c+1) - (b+1)->a < c:=go [a,b,c] [.t v0 (.s (.a v1 (.p v2)) (.p v1))] (.t v0 v2) (.s 0 (.f 110011) (.f 101)) QA
theorem adL:a < b->c+1+a < c+(b+1):=go [a,b,c] [.t v0 v1] (.t (.a (.p v2) v0) (.a v2 (.p v1))) (.f 111) QA
theorem adK:a<=a+1+b:=go [a,b] [] (.l v0 (.a (.p v0) v1)) (.f 11) QA
theorem adJ:a+1+b - a=b+1:=go [a,b] [] (.e (.s (.a (.p v0) v1) v0) (.p v1)) (.n 0 (.s 0 (.f 10101) (.f 101)) (.s 0 (.f 11001) (.f 101))) QA
theorem adI:a+(b+1) - (a+1)=b:=go [a,b] [] (.e (.s (.a v0 (.p v1)) (.p v0)) v1) (.n 0 (.s 0 (.f 10101) (.f 101)) (.s 0 (.f 11001) (.f 101))) QA
theorem adH:a+1+b=a+b+1:=go [a,b] [] (.e (.a (.p v0) v1) (.p (.a v0 v1))) (.n 0 (.f 11) (.f 11)) QA
theorem adG:a<=4*(b+1)->4 < a->1<=b:=go [a,b] [.l v0 (.m 4 (.p v1)),.t (.c 4) v0] (.l (.c 1) v1) (.f 1114) QA
theorem adF:a<=4*(b+1)->4 < a->a - 4<=4*b:=go [a,b] [.l v0 (.m 4 (.p v1)),.t (.c 4) v0] (.l (.s v0 (.c 4)) (.m 4 v1)) (.s 0 (.f 1100011) (.f 1011)) QA
theorem adE:4 < a->4+(b+(a - 4))=b+a:=go [a,b] [.t (.c 4) v0] (.e (.a (.c 4) (.a v1 (.s v0 (.c 4)))) (.a v1 v0)) (.n 0 (.s 0 (.f 10101) (.f 1011)) (.s 0 (.f 11001) (.f 10101))) QA
theorem adD:a - b<=0->b<=a->b=a:=go [a,b] [.l (.s v0 v1) (.c 0),.l v1 v0] (.e v1 v0) (.n 0 (.s 0 (.f 1010101) (.f 1011)) (.f 111)) QA
theorem Sy:a < b->a<=b:=go [a,b] [.t v0 v1] (.l v0 v1) (.f 111) QA
theorem Sx:a<=b->b≠a->a < b:=go [a,b] [.l v0 v1,.n v1 v0] (.t v0 v1) (.n 0 (.f 111) (.f 1101)) QA
theorem adC:¬a < b->a < c->b<=c:=go [a,b,c] [.w v0 v1,.t v0 v2] (.l v1 v2) (.f 1111) QA
theorem Sw:a<=b->¬a < b->a=b:=go [a,b] [.l v0 v1,.w v0 v1] (.e v0 v1) (.n 0 (.f 111) (.f 1101)) QA
theorem Sv:a - 0<=a:=go [a] [] (.l (.s v0 (.c 0)) v0) (.s 0 (.f 11001) (.f 101)) QA
theorem adA:a<=b->b < a->c<=d:=go [a,b,c,d] [.l v0 v1,.t v1 v0] (.l v2 v3) (.f 111) QA
theorem adz:a+b < c->a < c:=go [a,b,c] [.t (.a v0 v1) v2] (.t v0 v2) (.f 111) QA
theorem ady:a≠0->b < b+a:=go [a,b] [.n v0 (.c 0)] (.t v1 (.a v1 v0)) (.n 0 (.f 11) (.f 111)) QA
theorem Ma:a=b+1->0 < a:=go [a,b] [.e v0 (.p v1)] (.t (.c 0) v0) (.f 1101) QA
theorem adx:a=b+1->a - 1=b:=go [a,b] [.e v0 (.p v1)] (.e (.s v0 (.c 1)) v1) (.n 0 (.s 0 (.f 101011) (.f 10111)) (.s 0 (.f 1100101) (.f 1101))) QA
theorem adw:a < 0->Yk:=go [a] [.t v0 (.c 0)] (.f) (.f 11) QA
theorem Kr:a+1<=b->a < b:=go [a,b] [.l (.p v0) v1] (.t v0 v1) (.f 111) QA
theorem adv:a+1<=b->b < a->Yk:=go [a,b] [.l (.p v0) v1,.t v1 v0] (.f) (.f 111) QA
theorem adu:a < b+1->b<=a->a=b:=go [a,b] [.t v0 (.p v1),.l v1 v0] (.e v0 v1) (.n 0 (.f 111) (.f 1101)) QA
theorem GO:a+1 < b->a < b:=go [a,b] [.t (.p v0) v1] (.t v0 v1) (.f 111) QA
theorem adt:a < b+1->b < a->Yk:=go [a,b] [.t v0 (.p v1),.t v1 v0] (.f) (.f 111) QA
theorem adr:a<=1->¬1 < a:=go [a] [.l v0 (.c 1)] (.w (.c 1) v0) (.f 111) QA
def adq:=go [a,b] [.l v0 (.p v1)] (.l (.s v0 (.c 1)) v1) (.s 0 (.f 110011) (.f 11001)) QA
theorem GN:a < b->c=b->a < c:=go [a,b,c] [.t v0 v1,.e v2 v1] (.t v0 v2) (.f 11011) QA
theorem CM:1<=a->a+(b+1)<=c->a - 1 < c:=go [a,b,c] [.l (.c 1) v0,.l (.a v0 (.p v1)) v2] (.t (.s v0 (.c 1)) v2) (.s 0 (.f 1100101) (.f 10101)) QA
theorem GM:1<=a->a≠a - 1:=go [a] [.l (.c 1) v0] (.n v0 (.s v0 (.c 1))) (.s 0 (.f 1100001) (.f 1011)) QA
theorem Su:1<=a+1:=go [a] [] (.l (.c 1) (.p v0)) (.f 11) QA
theorem Ss:a < b->a≠b - 1->a < b - 1:=go [a,b] [.t v0 v1,.n v0 (.s v1 (.c 1))] (.t v0 (.s v1 (.c 1))) (.n 0 (.f 1101) (.s 0 (.f 101011) (.f 10111))) QA
theorem Sr:1<=a->a - 1 < a:=go [a] [.l (.c 1) v0] (.t (.s v0 (.c 1)) v0) (.s 0 (.f 110001) (.f 1011)) QA
theorem GL:a+1<=b->a<=b:=go [a,b] [.l (.p v0) v1] (.l v0 v1) (.f 111) QA
theorem Sq:a<=b+1+c->a<=b+(c+1):=go [a,b,c] [.l v0 (.a (.p v1) v2)] (.l v0 (.a v1 (.p v2))) (.f 111) QA
theorem adp:a < b+(c+1)->a < b+1+c:=go [a,b,c] [.t v0 (.a v1 (.p v2))] (.t v0 (.a (.p v1) v2)) (.f 111) QA
theorem ado:1<=a->a - 1≠a:=go [a] [.l (.c 1) v0] (.n (.s v0 (.c 1)) v0) (.s 0 (.f 110001) (.f 1011)) QA
theorem adn:1<=a->1+(a - 1)<=a:=go [a] [.l (.c 1) v0] (.l (.a (.c 1) (.s v0 (.c 1))) v0) (.s 0 (.f 110001) (.f 1011)) QA
theorem adm:1<=a->b<=1+(a - 1)->b<=a:=go [a,b] [.l (.c 1) v0,.l v1 (.a (.c 1) (.s v0 (.c 1)))] (.l v1 v0) (.s 0 (.f 1100101) (.f 10101)) QA
theorem Sp:1<=a->0 < a:=go [a] [.l (.c 1) v0] (.t (.c 0) v0) (.f 111) QA
theorem So:1<=a->b<=1+(a - 1)->b≠a->1 < b->b - 1 < a:=go [a,b] [.l (.c 1) v0,.l v1 (.a (.c 1) (.s v0 (.c 1))),.n v1 v0,.t (.c 1) v1] (.t (.s v1 (.c 1)) v0) (.n 0 (.s 0 (.f 110010001) (.f 10101)) (.s 1 (.f 1100101) (.f 1010001))) QA
theorem adl:1 < a->0≠a - 1:=go [a] [.t (.c 1) v0] (.n (.c 0) (.s v0 (.c 1))) (.s 0 (.f 101011) (.f 1011)) QA
theorem adk:1 < a->0 < a - 1:=go [a] [.t (.c 1) v0] (.t (.c 0) (.s v0 (.c 1))) (.s 0 (.f 101011) (.f 1011)) QA
theorem adj:1 < a->a - 1 < a:=go [a] [.t (.c 1) v0] (.t (.s v0 (.c 1)) v0) (.s 0 (.f 110001) (.f 1011)) QA
theorem adi:1<=a->¬1 < a->a=1:=go [a] [.l (.c 1) v0,.w (.c 1) v0] (.e v0 (.c 1)) (.n 0 (.f 1101) (.f 111)) QA
theorem adh:1<=a->1≠a->1 < 1+(a - 1):=go [a] [.l (.c 1) v0,.n (.c 1) v0] (.t (.c 1) (.a (.c 1) (.s v0 (.c 1)))) (.n 0 (.s 0 (.f 1010101) (.f 1011)) (.f 111)) QA
theorem adg:1<=a->1≠a->1+1+(a - (1+1))<=a:=go [a] [.l (.c 1) v0,.n (.c 1) v0] (.l (.a (.p (.c 1)) (.s v0 (.p (.c 1)))) v0) (.n 0 (.s 0 (.f 1100001) (.f 1011)) (.f 111)) QA
theorem adf:a < b->b < 1+1->a=0:=go [a,b] [.t v0 v1,.t v1 (.p (.c 1))] (.e v0 (.c 0)) (.n 0 (.f 11) (.f 1111)) QA
theorem ade:a < b->b < 1+1->b=1:=go [a,b] [.t v0 v1,.t v1 (.p (.c 1))] (.e v1 (.c 1)) (.n 0 (.f 1101) (.f 111)) QA
theorem adc:1<=a->1≠a->b<=1+1+(a - (1+1))->c=a->b<=c:=go [a,b,c] [.l (.c 1) v0,.n (.c 1) v0,.l v1 (.a (.p (.c 1)) (.s v0 (.p (.c 1)))),.e v2 v0] (.l v1 v2) (.n 0 (.s 0 (.f 1100010101) (.f 1011)) (.f 110001)) QA
theorem adb:1+1<=a->1<=a:=go [a] [.l (.p (.c 1)) v0] (.l (.c 1) v0) (.f 111) QA
theorem ac9:a=b->c<=a->c+(b - c)<=b:=go [a,b,c] [.e v0 v1,.l v2 v0] (.l (.a v2 (.s v1 v2)) v1) (.s 0 (.f 11000001) (.f 101101)) QA
theorem Ds:a < b->b < c->a < c:=go [a,b,c] [.t v0 v1,.t v1 v2] (.t v0 v2) (.f 1111) QA
theorem ac8:1+1<=a->b < c->c < a->a - 1 - c < a - 1 - b:=go [a,b,c] [.l (.p (.c 1)) v0,.t v1 v2,.t v2 v0] (.t (.s (.s v0 (.c 1)) v2) (.s (.s v0 (.c 1)) v1)) (.s 3 (.s 1 (.f 10101000101) (.f 10110001)) (.s 0 (.f 1010011) (.f 10100001))) QA
theorem ac7:1+1<=a->a - 1 - b < a:=go [a,b] [.l (.p (.c 1)) v0] (.t (.s (.s v0 (.c 1)) v1) v0) (.s 0 (.s 1 (.f 110010001) (.f 11000011)) (.f 1011)) QA
theorem ac6:1+1<=a->a<=b->1<=b:=go [a,b] [.l (.p (.c 1)) v0,.l v0 v1] (.l (.c 1) v1) (.f 1111) QA
theorem ac5:a=b->c<=a->d<=c+(b - c)->d<=b:=go [a,b,c,d] [.e v0 v1,.l v2 v0,.l v3 (.a v2 (.s v1 v2))] (.l v3 v1) (.s 0 (.f 110010001) (.f 1010101)) QA
theorem L9:a<=b->b<=c->a<=c:=go [a,b,c] [.l v0 v1,.l v1 v2] (.l v0 v2) (.f 1111) QA
theorem ac4:a - b<=0->b<=c->a<=c:=go [a,b,c] [.l (.s v0 v1) (.c 0),.l v1 v2] (.l v0 v2) (.s 0 (.f 1010111) (.f 101101)) QA
theorem Sm:a+(b+1)=c->a < c:=go [a,b,c] [.e (.a v0 (.p v1)) v2] (.t v0 v2) (.f 1011) QA
theorem ac3:a<=b->b - (b - a)=a:=go [a,b] [.l v0 v1] (.e (.s v1 (.s v1 v0)) v0) (.n 0 (.s 0 (.s 1 (.f 10101001) (.f 1011001)) (.f 10101)) (.s 0 (.s 1 (.f 11000101) (.f 1011)) (.f 10101))) QA
theorem ac2:a < b->a=c->b≠c:=go [a,b,c] [.t v0 v1,.e v0 v2] (.n v1 v2) (.f 110101) QA
theorem ac1:a < b->a=c->c < b:=go [a,b,c] [.t v0 v1,.e v0 v2] (.t v2 v1) (.f 11011) QA
theorem Ic:a < b+1->a<=b:=go [a,b] [.t v0 (.p v1)] (.l v0 v1) (.f 111) QA
theorem ac0:a < b->a=c->c<=b - 1:=go [a,b,c] [.t v0 v1,.e v0 v2] (.l v2 (.s v1 (.c 1))) (.s 0 (.f 10101011) (.f 101001)) QA
theorem acZ:a < b->b < c+1->b - 1 < c:=go [a,b,c] [.t v0 v1,.t v1 (.p v2)] (.t (.s v1 (.c 1)) v2) (.s 0 (.f 1100101) (.f 10101)) QA
theorem acY:a < b->b=c->a < c:=go [a,b,c] [.t v0 v1,.e v1 v2] (.t v0 v2) (.f 10111) QA
theorem Kq:a < b->a < b:=go [a,b] [.t v0 v1] (.t v0 v1) (.f 111) QA
theorem acX:a < b->b < c+1->a<=c:=go [a,b,c] [.t v0 v1,.t v1 (.p v2)] (.l v0 v2) (.f 1111) QA
theorem Dr:a < b->c < a->c < b:=go [a,b,c] [.t v0 v1,.t v2 v0] (.t v2 v1) (.f 1111) QA
theorem acW:a < b->c < a->a - 1 < b - 1:=go [a,b,c] [.t v0 v1,.t v2 v0] (.t (.s v0 (.c 1)) (.s v1 (.c 1))) (.s 0 (.s 1 (.f 1100010011) (.f 1010001)) (.f 10111)) QA
theorem acU:a < b->b < c+1->d < a->b - 1 < c:=go [a,b,c,d] [.t v0 v1,.t v1 (.p v2),.t v3 v0] (.t (.s v1 (.c 1)) v2) (.s 0 (.f 11000101) (.f 101101)) QA
theorem acT:a≠b->¬b < a->b < c->a < c - 1:=go [a,b,c] [.n v0 v1,.w v1 v0,.t v1 v2] (.t v0 (.s v2 (.c 1))) (.n 0 (.s 0 (.f 10101101) (.f 10111)) (.f 1101)) QA
theorem acS:a < b+1->c < a->a - 1 < b:=go [a,b,c] [.t v0 (.p v1),.t v2 v0] (.t (.s v0 (.c 1)) v1) (.s 0 (.f 1100011) (.f 1011)) QA
theorem acR:a<=b->c≠a->¬a < c->c < b:=go [a,b,c] [.l v0 v1,.n v2 v0,.w v0 v2] (.t v2 v1) (.n 0 (.f 11011) (.f 111)) QA
theorem Sk:a+(b+1)=c->a+1+b=c:=go [a,b,c] [.e (.a v0 (.p v1)) v2] (.e (.a (.p v0) v1) v2) (.n 0 (.f 111) (.f 1101)) QA
theorem acQ:a < b->a+(b - a)=b:=go [a,b] [.t v0 v1] (.e (.a v0 (.s v1 v0)) v1) (.n 0 (.s 0 (.f 10101) (.f 1011)) (.s 0 (.f 11001) (.f 10101))) QA
theorem Sj:a < 2->a<=16777216:=go [a] [.t v0 (.c 2)] (.l v0 (.c 16777216)) (.f 111) QA
theorem acP:a < 2->a<=16777216+1:=go [a] [.t v0 (.c 2)] (.l v0 (.p (.c 16777216))) (.f 111) QA
theorem acO:¬a < 2->2<=a:=go [a] [.w v0 (.c 2)] (.l (.c 2) v0) (.f 111) QA
theorem acN:¬a < 2->1<=a:=go [a] [.w v0 (.c 2)] (.l (.c 1) v0) (.f 111) QA
theorem acM:a+200 < b->a+1 < b:=go [a,b] [.t (.a v0 (.c 200)) v1] (.t (.p v0) v1) (.f 111) QA
theorem acL:a=b->c < a->c < b:=go [a,b,c] [.e v0 v1,.t v2 v0] (.t v2 v1) (.f 11011) QA
def acK:=go [a,b] [.l (.p v0) v1] (.l (.p v0) (.p v1)) (.f 111) QA
def acJ:=go [a,b,c] [.e (.a (.p v0) v1) v2] (.t v1 v2) (.f 1011) QA
def Si:=go [a,b] [.e v0 (.p v1)] (.n v1 v0) (.f 1101) QA
def acI:=go [a,b,c] [.l v0 v1,.t v2 v0] (.l (.p v2) v1) (.f 1111) QA
def acH:=go [a,b,c] [.e (.a (.p v0) v1) v2] (.e (.a v0 (.p v1)) v2) (.n 0 (.f 111) (.f 1101)) QA
def acG:=go [a,b] [.e (.a (.c 0) v0) v1] (.e v0 v1) (.n 0 (.f 111) (.f 1101)) QA
def acF:=go [a,b] [.e v0 (.p v1)] (.n v0 v1) (.f 11001) QA
def acE:=go [a,b,c] [.t (.a (.a v0 (.c 200)) (.m 10 (.p v1))) v2] (.t (.a (.a (.p (.p (.p v0))) (.c 200)) (.m 10 v1)) v2) (.f 111) QA
def acD:=go [a] [] (.e (.a (.c 0) v0) v0) (.n 0 (.f 11) (.f 11)) QA
def acC:=go [a,b,c,d] [.l v0 v1,.t v2 v0,.e v3 v2] (.l (.p v3) v1) (.f 101111) QA
def acB:=go [a,b] [.t v0 v1,.l v1 v0] (.f) (.f 111) QA
def Kp:=go [a,b,c] [.t v0 (.p v1),.t v2 v0] (.t v2 v1) (.f 1111) QA
def acA:=go [a,b] [.t v0 (.c 1000),.t v1 v0] (.t v1 (.c 9223372036854775808)) (.f 1111) QA
def acz:=go [a,b] [.l (.a v0 v1) (.c 100)] (.l (.a v0 v1) (.c 16777216)) (.f 111) QA
def acy:=go [a,b,c] [.l (.a v0 (.p v1)) v2] (.l (.a v0 v1) v2) (.f 111) QA
theorem acx:a+(b+1)<=c->a+b < c:=go [a,b,c] [.l (.a v0 (.p v1)) v2] (.t (.a v0 v1) v2) (.f 111) QA
def acw:=go [a,b,c] [.l v0 v1,.l v1 v2] (.l (.a v0 (.s v1 v0)) v2) (.s 0 (.f 1100101) (.f 10101)) QA
def acu:=go [a,b] [.l v0 v1] (.l (.a (.c 0) (.s v0 (.c 0))) v1) (.s 0 (.f 110011) (.f 101)) QA
def act:=go [a,b] [.l v0 v1] (.l (.a v0 (.s v1 v0)) v1) (.s 0 (.f 110001) (.f 1011)) QA
def acs:=go [a,b] [.u v0 v1] (.l v1 v0) (.f 111) QA
def Ag:=go [a,b] [.t v0 v1] (.n v0 v1) (.f 111) QA
def acr:=go [a,b] [.t (.a (.c 0) v0) v1] (.t v0 v1) (.f 111) QA
def Sh:=go [a] [.t v0 (.c 1152921504606846976)] (.t v0 (.c 4611686018427387904)) (.f 111) QA
def Sg:=go [a,b] [.l v0 (.p v1)] (.l v0 (.p (.p v1))) (.f 111) QA
def acq:=go [a,b] [.l v0 (.p v1)] (.l (.a (.c 1) v0) (.p (.p v1))) (.f 111) QA
def acp:=go [a,b,c] [.l v0 (.s v1 (.c 0)),.l v2 (.p v0)] (.l (.p v2) (.a v1 (.c 2))) (.s 0 (.f 1100111) (.f 101)) QA
def Ko:=go [a,b] [.e v0 v1] (.l v1 v0) (.f 1101) QA
def acn:=go [a,b] [.l v0 (.c 4000),.l v1 (.a v0 (.c 2))] (.l v1 (.c 4002)) (.f 1111) QA
def acm:=go [a,b,c] [.e v0 v1,.t v1 v2,.l v2 (.c 4002)] (.l v0 (.c 16777216)) (.f 111011) QA
def Cj:=go [a,b] [.t v0 v1] (.n v1 v0) (.f 1101) QA
def acl:=go [a,b,c,d,e,f] [.e v0 v1,.l v0 v2,.l v2 v3,.t v3 v4,.t v4 v5] (.l v1 v5) (.f 11111101) QA
def ack:=go [a,b,c,d] [.e v0 v1,.l v0 v2,.t v3 v1] (.n v3 v2) (.f 111101) QA
def acj:=go [a,b,c,d,e,f] [.e v0 v1,.l v0 v2,.l v2 v3,.t v3 v4,.t v5 v1] (.t v5 v4) (.f 11111101) QA
def aci:=go [a,b,c,d] [.e v0 v1,.l v0 v2,.t v3 v1] (.t v3 v2) (.f 111101) QA
def ach:=go [a,b,c,d,e] [.e v0 v1,.l v0 v2,.l v2 v3,.t v3 v4] (.l v1 v4) (.f 1111101) QA
def acg:=go [a,b] [.e v0 (.a v1 (.c 3))] (.n (.p v1) v0) (.f 1101) QA
def Fe:=go [a,b] [.t v0 v1] (.n v0 (.p v1)) (.f 111) QA
def acf:=go [a,b,c] [.t v0 v1,.e v2 (.a v1 (.c 3))] (.n v0 v2) (.f 11011) QA
def ace:=go [a,b] [.e v0 (.a v1 (.c 3))] (.n v1 v0) (.f 1101) QA
def Ez:=go [a,b,c] [.t v0 v1,.e v2 (.a v1 (.c 3))] (.t v0 v2) (.f 11011) QA
def Sf:=go [a,b,c] [.e v0 (.a v1 (.c 3)),.t v2 v1] (.t v2 v0) (.f 11101) QA
def Se:=go [a,b] [.e v0 (.a v1 (.c 3))] (.t (.a v1 (.c 2)) v0) (.f 1101) QA
def acd:=go [a] [] (.n (.p v0) v0) (.f 101) QA
def Sd:=go [a,b] [.l v0 (.c 4000),.t v1 v0] (.t v1 (.c 9223372036854775808)) (.f 1111) QA
def Sc:=go [a,b,c] [.l v0 v1,.t v2 v0] (.t (.s v0 (.c 1)) v1) (.s 0 (.f 1100011) (.f 1011)) QA
def Sb:=go [a,b] [.l v0 (.c 4000),.t (.s v1 (.c 1)) v0] (.t (.s v1 (.c 1)) (.c 9223372036854775808)) (.f 1111) QA
def GK:=go [a] [.l v0 (.c 4000)] (.l v0 (.c 16777216)) (.f 111) QA
def acb:=go [a,b,c,d] [.l v0 v1,.t v2 v0,.t v3 (.s v0 v2)] (.t (.a v2 v3) v1) (.s 0 (.f 11001011) (.f 10101)) QA
def Sa:=go [a,b,c] [.e v0 (.a v1 (.c 3)),.l v0 v2] (.t (.a v1 (.c 2)) v2) (.f 11101) QA
def GJ:=go [a,b,c] [.e v0 (.a v1 (.c 3)),.l v0 v2] (.t v1 v2) (.f 11101) QA
def GI:=go [a,b,c] [.e v0 (.a v1 (.c 3)),.l v0 v2] (.t (.p v1) v2) (.f 11101) QA
def R9:=go [a,b,c,d] [.t v0 v1,.e v2 (.a v1 (.c 3)),.l v2 v3] (.t v0 v3) (.f 111011) QA
def aca:=go [a,b,c] [.t v0 v1,.t v2 (.s v1 v0)] (.t (.a v0 v2) v1) (.s 0 (.f 1100101) (.f 10101)) QA
def ab9:=go [a] [.t v0 (.c 3)] (.w (.c 2) v0) (.f 111) QA
def ab8:=go [a,b] [.t (.p v0) v1] (.n (.p v0) v1) (.f 111) QA
def R8:=go [a,b,c,d] [.e v0 (.a v1 (.c 3)),.l v0 v2,.t (.p v2) v3] (.n v1 v3) (.f 111101) QA
def ab7:=go [a,b,c,d] [.e v0 (.a v1 (.c 3)),.l v0 v2,.t (.p v2) v3] (.t (.p v1) v3) (.f 111101) QA
def ab6:=go [a,b,c,d] [.e v0 (.a v1 (.c 3)),.l v0 v2,.t (.p v2) v3] (.n (.p v1) v3) (.f 111101) QA
def ab5:=go [a,b,c,d] [.e v0 (.a v1 (.c 3)),.l v0 v2,.t (.p v2) v3] (.t v1 v3) (.f 111101) QA
def ab4:=go [a,b,c] [.e v0 (.a v1 (.c 3)),.l v0 v2] (.l v1 v2) (.f 11101) QA
def ab3:=go [] [] (.l (.c 1) (.c 1)) (.f 11) QA
def ab2:=go [a] [] (.l (.c 1) (.a (.c 1) v0)) (.f 11) QA
def R7:=go [a] [.l (.c 9) v0] (.t (.c 6) v0) (.f 111) QA
def ab1:=go [a] [.l (.c 9) v0] (.n (.c 6) v0) (.f 111) QA
def ab0:=go [a] [.t v0 (.c 4)] (.l v0 (.c 16777216)) (.f 111) QA
def Ib:=go [a] [.l (.c 9) v0] (.t (.c 4) v0) (.f 111) QA
def Kn:=go [a] [.l (.c 9) v0] (.n (.c 4) v0) (.f 111) QA
def abZ:=go [a,b] [.l (.c 9) v0,.t (.p (.p v0)) v1] (.n (.c 4) v1) (.f 1111) QA
def abY:=go [a,b] [.t (.p (.p v0)) v1] (.l v0 v1) (.f 111) QA
def abX:=go [a,b] [.l (.c 9) v0,.t (.p (.p v0)) v1] (.n v1 (.c 4)) (.f 11101) QA
def R6:=go [a] [.l (.c 9) v0] (.t (.c 5) v0) (.f 111) QA
def abW:=go [a,b] [.l (.c 9) v0,.l v0 v1] (.n v1 (.c 5)) (.f 11101) QA
def Km:=go [a] [.l v0 (.c 100)] (.l v0 (.c 16777216)) (.f 111) QA
def R4:=go [a] [.l v0 (.c 100)] (.t (.p v0) (.c 1152921504606846976)) (.f 111) QA
def Ia:=go [a] [.l (.c 9) v0] (.t (.c 8) v0) (.f 111) QA
def R0:=go [a] [.l (.c 9) v0] (.n (.c 8) v0) (.f 111) QA
def H9:=go [a,b] [.l (.c 9) v0,.t (.p v0) v1] (.t (.c 4) v1) (.f 1111) QA
def Fd:=go [a,b,c] [.t v0 v1,.t (.p v1) v2] (.t v0 v2) (.f 1111) QA
def H8:=go [a] [.t v0 (.c 7)] (.t v0 (.c 9223372036854775808)) (.f 111) QA
def RZ:=go [a,b] [.t v0 (.p v1)] (.e (.s v0 v1) (.c 0)) (.n 0 (.f 11) (.s 0 (.f 110011) (.f 1101))) QA
def RY:=go [a,b] [.l v0 (.c 100),.t v1 (.p v0)] (.l v1 (.c 16777216)) (.f 1111) QA
def RX:=go [a,b,c] [.t (.p v0) v1,.t (.p v1) v2] (.t (.p v0) v2) (.f 1111) QA
def RW:=go [a] [.l (.c 9) v0] (.t (.c 3) v0) (.f 111) QA
def abV:=go [a] [.l (.c 9) v0] (.n (.c 3) v0) (.f 111) QA
def abU:=go [a] [.l (.c 9) v0] (.n (.p v0) (.c 3)) (.f 1101) QA
def H7:=go [a] [.l (.c 9) v0] (.t (.c 7) v0) (.f 111) QA
def RV:=go [a] [.l (.c 9) v0] (.n (.c 7) v0) (.f 111) QA
def RU:=go [a] [.l (.c 9) v0] (.t (.c 2) v0) (.f 111) QA
def abT:=go [a] [.l (.c 9) v0] (.n (.c 2) v0) (.f 111) QA
def abS:=go [a] [.l (.c 9) v0] (.n (.p v0) (.c 2)) (.f 1101) QA
def RT:=go [a,b] [.l v0 v1] (.t v0 (.p v1)) (.f 111) QA
def RS:=go [a,b,c] [.l v0 (.c 1000),.l (.a v1 v2) v0] (.t v1 (.c 9223372036854775808)) (.f 1111) QA
def abR:=go [a,b] [.l v0 (.c 1000),.l v1 v0] (.t v1 (.c 9223372036854775808)) (.f 1111) QA
def abQ:=go [a,b,c] [.l v0 (.c 1000),.l (.a v1 v2) v0] (.t (.a v1 v2) (.c 9223372036854775808)) (.f 1111) QA
def abP:=go [a] [.l v0 (.c 5000)] (.l v0 (.c 16777216)) (.f 111) QA
def abO:=go [a] [.l (.c 9) v0] (.n (.c 5) v0) (.f 111) QA
def abM:=go [a,b,c] [.t (.p v0) v1,.t v2 v0] (.t v2 v1) (.f 1111) QA
def RQ:=go [a,b] [.l (.c 9) v0,.t (.p v0) v1] (.t (.c 5) v1) (.f 1111) QA
def abL:=go [a] [.l v0 (.c 3)] (.t v0 (.c 1152921504606846976)) (.f 111) QA
def abK:=go [a,b] [.t v0 v1] (.l (.p v0) v1) (.f 111) QA
def abJ:=go [a,b] [.e v0 v1,.t v1 (.c 2)] (.l v0 (.c 16777216)) (.f 11011) QA
def abI:=go [a,b,c] [.t (.p v0) v1,.t v1 v2] (.t (.p v0) v2) (.f 1111) QA
def RO:=go [a,b] [.t (.p v0) v1] (.n v1 (.p v0)) (.f 1101) QA
def abH:=go [a,b] [.n (.s v0 v1) (.c 0)] (.l (.c 1) (.s v0 v1)) (.n 0 (.f 11) (.f 111)) QA
def abG:=go [a,b,c] [.e v0 v1,.w v2 v0,.e (.s v2 v0) (.c 0)] (.e v2 v1) (.n 0 (.f 110011) (.s 0 (.f 1010101001) (.f 101100001))) QA
def RN:=go [a,b,c,d,e] [.l (.a v0 v1) v2,.e (.a v3 v4) v0] (.l (.a v3 (.a v4 v1)) v2) (.f 10111) QA
def RM:=go [a] [] (.l (.a (.c 0) (.c 0)) v0) (.f 11) QA
def RL:=go [a] [] (.l (.a v0 (.c 0)) v0) (.f 11) QA
def RK:=go [a,b] [.l v0 (.c 100),.l v1 (.m 3 v0)] (.l v1 (.c 4000)) (.f 1131) QA
def RJ:=go [a] [.l v0 (.c 5)] (.t v0 (.c 1000000)) (.f 111) QA
def Kl:=go [a] [.l v0 (.c 61)] (.l v0 (.c 4000)) (.f 111) QA
def abF:=go [a,b] [.l v0 (.c 61),.l v1 (.s v0 (.c 0))] (.t v1 (.c 64)) (.s 0 (.f 1100111) (.f 110101)) QA
def abE:=go [a] [.l (.c 9) v0] (.t (.c 1) (.p v0)) (.f 111) QA
def abD:=go [a] [.l (.c 9) v0] (.n (.c 1) v0) (.f 111) QA
def RI:=go [a,b,c,d] [.t v0 v1,.l (.p v1) v2,.t v2 v3] (.t v0 v3) (.f 11111) QA
def RH:=go [a,b] [.l (.p (.p v0)) v1] (.l v0 v1) (.f 111) QA
def abC:=go [a,b] [.t v0 v1] (.t v0 (.p (.p v1))) (.f 111) QA
def abB:=go [a] [.l (.c 9) v0] (.t (.c 1) (.p (.p v0))) (.f 111) QA
def abA:=go [a,b] [.l (.p (.p v0)) v1] (.t v0 v1) (.f 111) QA
def L7:=go [a] [.l (.c 9) v0] (.t (.c 1) v0) (.f 111) QA
def abz:=go [a,b] [.l v0 (.c 61),.l v1 (.a v0 (.c 2))] (.l v1 (.c 63)) (.f 1111) QA
def aby:=go [a,b] [.l (.c 9) v0,.l v0 v1] (.l (.c 9) v1) (.f 1111) QA
def RG:=go [a,b] [.l (.c 9) v0,.l v0 v1] (.t (.c 6) v1) (.f 1111) QA
def abx:=go [a,b] [.l (.c 9) v0,.l v0 v1] (.t (.c 4) v1) (.f 1111) QA
def abw:=go [a,b,c,d] [.l (.c 9) v0,.l v0 v1,.l v1 v2,.t v2 v3] (.l (.c 9) v3) (.f 111111) QA
def abv:=go [a,b,c,d,e,f,g] [.t v0 v1,.l v1 v2,.l v2 v3,.t v3 v4,.l v4 v5,.t v5 v6] (.t v0 v6) (.f 11111111) QA
def abu:=go [a,b,c] [.l (.c 9) v0,.l v0 v1,.l v1 v2] (.t (.c 3) v2) (.f 11111) QA
def abt:=go [a,b] [.l (.c 9) v0,.l v0 v1] (.t (.c 3) v1) (.f 1111) QA
def abr:=go [] [] (.n (.c 3) (.c 6)) (.f 11) QA
def abq:=go [a,b,c,d,e,f] [.l (.c 9) v0,.l v0 v1,.l v1 v2,.t v2 v3,.l v3 v4,.t v4 v5] (.l (.c 9) v5) (.f 11111111) QA
def GH:=go [a] [.l v0 (.c 61)] (.l v0 (.c 100)) (.f 111) QA
def abp:=go [a,b,c,d,e,f,g,h,i] [.t v0 v1,.l v1 v2,.l v2 v3,.t v3 v4,.l v4 v5,.t v5 v6,.l v6 v7,.t v7 v8] (.t v0 v8) (.f 1111111111) QA
def RF:=go [a,b,c,d] [.l (.c 9) v0,.l v0 v1,.l v1 v2,.l v2 v3] (.t (.c 4) v3) (.f 111111) QA
def RE:=go [a,b,c,d] [.l (.c 9) v0,.l v0 v1,.l v1 v2,.l v2 v3] (.n v3 (.c 3)) (.f 1111101) QA
def H6:=go [a,b,c,d] [.t v0 v1,.l v1 v2,.t v2 v3] (.t v0 v3) (.f 11111) QA
def abo:=go [a,b,c,d] [.l (.c 9) v0,.l v0 v1,.l v1 v2,.l v2 v3] (.t (.c 2) v3) (.f 111111) QA
def abn:=go [a,b,c] [.l (.c 9) v0,.l v0 v1,.l v1 v2] (.t (.c 2) v2) (.f 11111) QA
def abm:=go [a,b] [.l (.c 9) v0,.l v0 v1] (.t (.c 2) v1) (.f 1111) QA
def abl:=go [] [] (.n (.c 2) (.c 6)) (.f 11) QA
def abk:=go [a,b,c,d,e,f,g,h] [.l (.c 9) v0,.l v0 v1,.l v1 v2,.t v2 v3,.l v3 v4,.t v4 v5,.l v5 v6,.t v6 v7] (.l (.c 9) v7) (.f 1111111111) QA
def abj:=go [a,b,c,d,e] [.l (.c 9) v0,.l v0 v1,.l v1 v2,.l v2 v3,.l v3 v4] (.n v4 (.c 2)) (.f 11111101) QA
def abi:=go [a,b,c,d,e,f,g,h,i,j,k] [.t v0 v1,.l v1 v2,.l v2 v3,.t v3 v4,.l v4 v5,.t v5 v6,.l v6 v7,.t v7 v8,.l v8 v9,.t v9 v10] (.t v0 v10) (.f 111111111111) QA
def RD:=go [a,b,c,d,e] [.l (.c 9) v0,.l v0 v1,.l v1 v2,.l v2 v3,.l v3 v4] (.t (.c 3) v4) (.f 1111111) QA
def abh:=go [a,b,c,d,e,f,g,h,i,j] [.l (.c 9) v0,.l v0 v1,.l v1 v2,.t v2 v3,.l v3 v4,.t v4 v5,.l v5 v6,.t v6 v7,.l v7 v8,.t v8 v9] (.l (.c 9) v9) (.f 111111111111) QA
def abg:=go [a,b,c,d] [.l (.a v0 (.s (.a v1 v2) v1)) v3] (.l v0 v3) (.f 111) QA
def RC:=go [a] [.l v0 (.c 61)] (.l v0 (.c 1000)) (.f 111) QA
def abf:=go [a] [.l v0 (.c 63)] (.l v0 (.c 5000)) (.f 111) QA
def abe:=go [a,b,c,d,e,f,g,h,i,j] [.l (.c 9) v0,.l v0 v1,.l v1 v2,.t v2 v3,.l v3 v4,.t v4 v5,.l v5 v6,.t v6 v7,.l v7 v8,.t v8 v9] (.t (.c 5) v9) (.f 111111111111) QA
def abd:=go [a,b,c,d,e,f,g,h] [.l (.c 9) v0,.l v0 v1,.l v1 v2,.t v2 v3,.l v3 v4,.t v4 v5,.l v5 v6,.t v6 v7] (.t (.c 5) v7) (.f 1111111111) QA
def abc:=go [a,b,c,d,e,f] [.l (.c 9) v0,.l v0 v1,.l v1 v2,.t v2 v3,.l v3 v4,.t v4 v5] (.t (.c 5) v5) (.f 11111111) QA
def abb:=go [a,b,c] [.l (.c 9) v0,.l v0 v1,.l v1 v2] (.t (.c 5) v2) (.f 11111) QA
def aba:=go [a,b,c,d,e,f,g,h,i,j] [.l (.c 9) v0,.l v0 v1,.l v1 v2,.t v2 v3,.l v3 v4,.t v4 v5,.l v5 v6,.t v6 v7,.l v7 v8,.t v8 v9] (.t (.c 4) v9) (.f 111111111111) QA
def aa9:=go [a,b,c,d,e,f,g,h] [.l (.c 9) v0,.l v0 v1,.l v1 v2,.t v2 v3,.l v3 v4,.t v4 v5,.l v5 v6,.t v6 v7] (.t (.c 4) v7) (.f 1111111111) QA
def RB:=go [a,b,c,d,e,f,g,h] [.t v0 v1,.l v1 v2,.t v2 v3,.l v3 v4,.t v4 v5,.l v5 v6,.t v6 v7] (.t v0 v7) (.f 111111111) QA
def RA:=go [a,b,c,d,e,f] [.t v0 v1,.l v1 v2,.t v2 v3,.l v3 v4,.t v4 v5] (.t v0 v5) (.f 1111111) QA
def aa8:=go [a,b,c] [.l (.c 9) v0,.l v0 v1,.l v1 v2] (.n v2 (.c 2)) (.f 111101) QA
def aa7:=go [a,b,c] [.l (.c 9) v0,.l v0 v1,.l v1 v2] (.n v2 (.c 3)) (.f 111101) QA
def aa6:=go [a,b,c] [.l (.c 9) v0,.l v0 v1,.l v1 v2] (.n v2 (.c 4)) (.f 111101) QA
def aa5:=go [a,b,c,d] [.l (.c 9) v0,.l v0 v1,.l v1 v2,.l v2 v3] (.n v3 (.c 2)) (.f 1111101) QA
def Ry:=go [a,b,c,d,e,f,g,h,i,j,k,l,m] [.t v0 v1,.l v1 v2,.l v2 v3,.t v3 v4,.l v4 v5,.t v5 v6,.l v6 v7,.t v7 v8,.l v8 v9,.t v9 v10,.l v10 v11,.t v11 v12] (.t v0 v12) (.f 11111111111111) QA
def aa4:=go [a,b,c,d,e,f,g,h,i,j] [.t v0 v1,.l v1 v2,.t v2 v3,.l v3 v4,.t v4 v5,.l v5 v6,.t v6 v7,.l v7 v8,.t v8 v9] (.t v0 v9) (.f 11111111111) QA
def aa3:=go [a,b,c,d,e,f,g,h,i,j,k,l] [.l (.c 9) v0,.l v0 v1,.l v1 v2,.t v2 v3,.l v3 v4,.t v4 v5,.l v5 v6,.t v6 v7,.l v7 v8,.t v8 v9,.l v9 v10,.t v10 v11] (.l (.c 9) v11) (.f 11111111111111) QA
def aa2:=go [a,b,c] [.l v0 (.c 61),.l v1 v0,.e v2 v1] (.t v2 (.c 64)) (.f 101111) QA
def aa1:=go [a,b,c,d,e,f,g,h,i,j,k,l,m,n,o] [.l (.c 9) v0,.l v0 v1,.l v1 v2,.t v2 v3,.l v3 v4,.t v4 v5,.l v5 v6,.t v6 v7,.l v7 v8,.t v8 v9,.l v9 v10,.t v10 v11,.l v11 v12,.t v12 v13,.l v14 (.c 6)] (.t v14 v13) (.f 11111111111111111) QA
def aa0:=go [a,b,c,d,e,f,g,h,i,j,k,l,m] [.l (.c 9) v0,.l v0 v1,.l v1 v2,.t v2 v3,.l v3 v4,.t v4 v5,.l v5 v6,.t v6 v7,.l v7 v8,.t v8 v9,.l v9 v10,.t v10 v11,.l v12 (.c 6)] (.t v12 v11) (.f 111111111111111) QA
def aaZ:=go [a,b,c,d,e,f,g,h,i,j,k] [.l (.c 9) v0,.l v0 v1,.l v1 v2,.t v2 v3,.l v3 v4,.t v4 v5,.l v5 v6,.t v6 v7,.l v7 v8,.t v8 v9,.l v10 (.c 6)] (.t v10 v9) (.f 1111111111111) QA
def aaY:=go [] [] (.l (.c 2) (.c 6)) (.f 11) QA
def aaX:=go [] [] (.l (.c 3) (.c 6)) (.f 11) QA
def aaW:=go [a,b,c,d,e,f,g,h,i,j,k,l,m,n] [.l (.c 9) v0,.l v0 v1,.l v1 v2,.t v2 v3,.l v3 v4,.t v4 v5,.l v5 v6,.t v6 v7,.l v7 v8,.t v8 v9,.l v9 v10,.t v10 v11,.l v11 v12,.t v12 v13] (.t (.c 4) v13) (.f 1111111111111111) QA
def aaV:=go [a,b,c,d,e,f,g,h,i,j,k,l] [.l (.c 9) v0,.l v0 v1,.l v1 v2,.t v2 v3,.l v3 v4,.t v4 v5,.l v5 v6,.t v6 v7,.l v7 v8,.t v8 v9,.l v9 v10,.t v10 v11] (.t (.c 4) v11) (.f 11111111111111) QA
def aaU:=go [a,b,c,d,e,f,g,h,i,j,k,l,m,n] [.l (.c 9) v0,.l v0 v1,.l v1 v2,.t v2 v3,.l v3 v4,.t v4 v5,.l v5 v6,.t v6 v7,.l v7 v8,.t v8 v9,.l v9 v10,.t v10 v11,.l v11 v12,.t v12 v13] (.t (.c 5) v13) (.f 1111111111111111) QA
def aaT:=go [a,b,c,d,e,f,g,h,i,j,k,l] [.l (.c 9) v0,.l v0 v1,.l v1 v2,.t v2 v3,.l v3 v4,.t v4 v5,.l v5 v6,.t v6 v7,.l v7 v8,.t v8 v9,.l v9 v10,.t v10 v11] (.t (.c 5) v11) (.f 11111111111111) QA
def aaS:=go [] [] (.l (.c 6) (.c 6)) (.f 11) QA
def aaR:=go [a,b,c,d,e,f,g,h] [.l (.c 9) v0,.l v0 v1,.l v1 v2,.t v2 v3,.l v3 v4,.t v4 v5,.l v5 v6,.t v6 v7] (.t (.c 6) v7) (.f 1111111111) QA
def aaQ:=go [a,b,c,d,e,f] [.l (.c 9) v0,.l v0 v1,.l v1 v2,.t v2 v3,.l v3 v4,.t v4 v5] (.t (.c 6) v5) (.f 11111111) QA
def aaP:=go [a,b,c,d] [.l (.c 9) v0,.l v0 v1,.l v1 v2,.t v2 v3] (.t (.c 6) v3) (.f 111111) QA
def aaO:=go [a] [.l (.c 9) v0] (.n v0 (.c 0)) (.f 1101) QA
def aaN:=go [a] [.l (.c 9) v0] (.n v0 (.c 1)) (.f 1101) QA
def aaM:=go [a] [.l (.c 9) v0] (.n v0 (.c 2)) (.f 1101) QA
def aaL:=go [a] [.l (.c 9) v0] (.n v0 (.c 3)) (.f 1101) QA
def aaK:=go [a] [.l (.c 9) v0] (.n v0 (.c 4)) (.f 1101) QA
def aaI:=go [a] [.l (.c 9) v0] (.n v0 (.c 5)) (.f 1101) QA
def aaH:=go [a] [.l (.c 9) v0] (.n v0 (.c 6)) (.f 1101) QA
def aaG:=go [a,b] [.e v0 (.a v1 (.c 3))] (.t v1 v0) (.f 1101) QA
def aaF:=go [a,b] [.e v0 (.a v1 (.c 3))] (.t (.p v1) v0) (.f 1101) QA
def aaE:=go [a] [.l (.c 9) v0] (.l (.c 9) (.p v0)) (.f 111) QA
def aaD:=go [a,b,c] [.l (.c 9) v0,.e v1 (.a v0 (.c 3)),.l v1 v2] (.t (.c 1) v2) (.f 111011) QA
def Rx:=go [a,b,c,d] [.l v0 v1,.t v2 v0,.l v1 v3] (.t v2 v3) (.f 11111) QA
def aaB:=go [a,b,c,d] [.l (.c 9) v0,.e v1 (.a v0 (.c 3)),.l v1 v2,.l v2 v3] (.l (.c 9) v3) (.f 1111011) QA
def aaA:=go [a,b,c,d] [.l (.c 9) v0,.e v1 (.a v0 (.c 3)),.l v1 v2,.l v2 v3] (.t (.c 8) v3) (.f 1111011) QA
def aaz:=go [a,b,c,d] [.l (.c 9) v0,.e v1 (.a v0 (.c 3)),.l v1 v2,.l v2 v3] (.t (.c 7) v3) (.f 1111011) QA
def Rw:=go [a,b,c,d,e,f] [.l v0 v1,.t v2 v0,.l v1 v3,.l v3 v4,.t v4 v5] (.t v2 v5) (.f 1111111) QA
def aay:=go [a,b,c,d,e,f] [.l (.c 9) v0,.e v1 (.a v0 (.c 3)),.l v1 v2,.l v2 v3,.l v3 v4,.t v4 v5] (.l (.c 9) v5) (.f 111111011) QA
def aax:=go [a,b,c,d,e,f,g] [.l (.c 9) v0,.e v1 (.a v0 (.c 3)),.l v1 v2,.l v2 v3,.l v3 v4,.t v4 v5,.t v6 (.c 9)] (.t v6 v5) (.f 1111111011) QA
def aaw:=go [a,b,c,d,e] [.l (.c 9) v0,.e v1 (.a v0 (.c 3)),.l v1 v2,.l v2 v3,.t v4 (.c 9)] (.t v4 v3) (.f 11111011) QA
def aav:=go [a] [.n v0 (.c 1)] (.n v0 (.c 1)) (.n 0 (.f 111) (.f 1101)) QA
def aau:=go [a,b,c,d] [.l (.c 9) v0,.e v1 (.a v0 (.c 3)),.l v1 v2,.t v3 (.c 9)] (.t v3 v2) (.f 1111011) QA
def aas:=go [a] [.n v0 (.c 7)] (.n v0 (.c 7)) (.n 0 (.f 111) (.f 1101)) QA
def aar:=go [a] [.n v0 (.c 8)] (.n v0 (.c 8)) (.n 0 (.f 111) (.f 1101)) QA
def Rv:=go [a,b,c,d,e,f] [.l (.c 9) v0,.e v1 (.a v0 (.c 3)),.l v1 v2,.l v2 v3,.l v3 v4,.t v4 v5] (.t (.c 8) v5) (.f 111111011) QA
def Ru:=go [a,b,c,d,e,f] [.l (.c 9) v0,.e v1 (.a v0 (.c 3)),.l v1 v2,.l v2 v3,.l v3 v4,.t v4 v5] (.t (.c 7) v5) (.f 111111011) QA
def Rt:=go [a,b,c,d,e,f,g] [.l v0 v1,.t v2 v0,.l v1 v3,.l v3 v4,.t v4 v5,.l v5 v6] (.t v2 v6) (.f 11111111) QA
def aaq:=go [a,b,c,d,e,f,g] [.l (.c 9) v0,.e v1 (.a v0 (.c 3)),.l v1 v2,.l v2 v3,.l v3 v4,.t v4 v5,.l v5 v6] (.l (.c 9) v6) (.f 1111111011) QA
def aap:=go [a,b,c,d,e,f,g,h] [.t v0 v1,.e v2 (.a v1 (.c 3)),.l v2 v3,.l v3 v4,.l v4 v5,.t v5 v6,.l v6 v7] (.t v0 v7) (.f 1111111011) QA
def B8:=go [a,b,c] [.t v0 v1,.l v1 v2] (.t v0 v2) (.f 1111) QA
def aao:=go [a,b,c,d,e,f,g] [.l (.c 9) v0,.e v1 (.a v0 (.c 3)),.l v1 v2,.l v2 v3,.l v3 v4,.t v4 v5,.l v5 v6] (.t (.c 7) v6) (.f 1111111011) QA
def aan:=go [a,b,c,d,e,f,g] [.l (.c 9) v0,.e v1 (.a v0 (.c 3)),.l v1 v2,.l v2 v3,.l v3 v4,.t v4 v5,.l v5 v6] (.t (.c 8) v6) (.f 1111111011) QA
def aal:=go [a,b,c,d,e] [.l (.c 9) v0,.e v1 (.a v0 (.c 3)),.l v1 v2,.l v2 v3,.l v3 v4] (.t (.c 1) v4) (.f 11111011) QA
def aak:=go [a,b,c,d,e,f] [.l (.c 9) v0,.e v1 (.a v0 (.c 3)),.l v1 v2,.l v2 v3,.l v3 v4,.l v4 v5] (.t (.c 1) v5) (.f 111111011) QA
def Kk:=go [a] [.l v0 (.c 63)] (.l v0 (.c 16777216)) (.f 111) QA
def aaj:=go [a] [.l (.c 9) v0] (.n (.c 0) v0) (.f 111) QA
def aai:=go [a] [.e v0 (.c 13)] (.l v0 (.c 13)) (.f 1011) QA
def aah:=go [a,b] [.l v0 (.c 63),.l v1 (.c 13)] (.l (.a (.s v0 (.c 2)) v1) (.c 16777216)) (.s 0 (.f 1100111) (.f 110101)) QA
def aag:=go [a,b] [.t v0 (.c 9),.e v1 (.c 13)] (.l (.a (.s v0 (.c 2)) v1) (.c 61)) (.s 0 (.f 11000111) (.f 1100101)) QA
def Rs:=go [a,b,c] [.t v0 v1,.l v1 v2] (.l v0 v2) (.f 1111) QA
def aaf:=go [a,b,c,d] [.t v0 v1,.l v1 v2,.l v2 v3] (.l v0 v3) (.f 11111) QA
def aae:=go [a,b,c,d] [.t v0 v1,.l v1 v2,.t v3 v0] (.t v3 v2) (.f 11111) QA
def Rr:=go [a,b,c,d] [.t v0 v1,.l v1 v2,.l v2 v3] (.t v0 v3) (.f 11111) QA
def aad:=go [a] [.e v0 (.c 9)] (.l (.c 9) v0) (.f 1101) QA
def Rq:=go [a] [.e v0 (.c 9)] (.t (.c 0) v0) (.f 1101) QA
def aac:=go [a,b] [.e v0 (.c 9),.l v0 v1] (.l (.c 9) v1) (.f 11101) QA
def aab:=go [a,b,c] [.e v0 (.c 9),.l v0 v1,.l v1 v2] (.l (.c 9) v2) (.f 111101) QA
def aaa:=go [a,b,c,d] [.e v0 (.c 9),.l v0 v1,.l v1 v2,.l v2 v3] (.l (.c 9) v3) (.f 1111101) QA
def W9:=go [a,b] [.e v0 (.c 9),.t v1 (.c 9)] (.t v1 v0) (.f 11101) QA
def W8:=go [a,b,c,d,e] [.e v0 (.c 9),.l v0 v1,.l v1 v2,.l v2 v3,.l v3 v4] (.l (.c 9) v4) (.f 11111101) QA
def Rp:=go [a,b] [.l v0 (.c 61),.l v1 v0] (.l v1 (.c 61)) (.f 1111) QA
def Ro:=go [a] [.e v0 (.c 9)] (.t (.c 1) v0) (.f 1101) QA
def Rn:=go [a,b,c,d,e] [.t v0 v1,.l v1 v2,.l v2 v3,.l v3 v4] (.t v0 v4) (.f 111111) QA
def W7:=go [a,b,c,d,e,f] [.t v0 v1,.l v1 v2,.l v2 v3,.l v3 v4,.l v4 v5] (.t v0 v5) (.f 1111111) QA
def W6:=go [a,b,c,d,e,f] [.e v0 (.c 9),.l v0 v1,.l v1 v2,.l v2 v3,.l v3 v4,.l v4 v5] (.l (.c 9) v5) (.f 111111101) QA
def W5:=go [a,b,c,d,e,f] [.e v0 (.c 9),.l v0 v1,.l v1 v2,.l v2 v3,.l v3 v4,.l v4 v5] (.t (.c 0) v5) (.f 111111101) QA
def W4:=go [a,b,c,d,e] [.e v0 (.c 9),.l v0 v1,.l v1 v2,.l v2 v3,.l v3 v4] (.t (.c 0) v4) (.f 11111101) QA
def W3:=go [a,b,c,d,e,f] [.e v0 (.c 9),.l v0 v1,.l v1 v2,.l v2 v3,.l v3 v4,.l v4 v5] (.t (.c 1) v5) (.f 111111101) QA
def W2:=go [a,b] [.e v0 v1] (.l v1 (.p (.p v0))) (.f 1101) QA
def W1:=go [a,b,c] [.e v0 v1,.t v2 v1] (.n v2 (.p v0)) (.f 11101) QA
def WZ:=go [a,b,c] [.e v0 v1,.t v2 v1] (.n v2 v0) (.f 11101) QA
def WY:=go [a,b] [.e v0 v1] (.l v1 (.p v0)) (.f 1101) QA
def WX:=go [a] [] (.t (.p v0) (.p (.p v0))) (.f 11) QA
def WW:=go [a,b,c] [.l v0 (.c 4000),.l v1 v2,.t v2 v0] (.l v1 (.c 16777216)) (.f 11111) QA
def WV:=go [a,b,c] [.t v0 v1,.l (.p v1) v2] (.n v0 v2) (.f 1111) QA
def WU:=go [a,b,c,d] [.t v0 v1,.l (.p v1) v2,.t v2 v3] (.n v0 v3) (.f 11111) QA
def WT:=go [a,b] [.l (.p v0) v1] (.n v0 v1) (.f 111) QA
def DJ:=go [a,b,c] [.t v0 v1,.t v1 v2] (.n v0 v2) (.f 1111) QA
def WS:=go [a,b] [.t v0 v1] (.l (.p v0) (.p v1)) (.f 111) QA
def Rm:=go [a,b] [.l (.p v0) v1] (.n v1 v0) (.f 1101) QA
def WR:=go [a,b,c] [.t v0 v1,.t v2 v0] (.n v2 v1) (.f 1111) QA
def Rl:=go [a,b,c] [.t v0 v1,.t v1 v2] (.n v2 v0) (.f 11101) QA
def H5:=go [a,b,c,d] [.t v0 v1,.t v1 v2,.t v2 v3] (.t v0 v3) (.f 11111) QA
def Rk:=go [a,b] [.t v0 v1,.e v0 v1] (.f) (.f 1101) QA
def WQ:=go [a,b,c,d,e] [.l v0 (.c 4000),.l v1 v2,.t v2 v3,.l v3 v0,.e v4 (.c 4096)] (.t (.p v1) v4) (.f 11011111) QA
def WP:=go [a,b,c] [.l v0 (.c 4000),.l v1 v2,.l v2 v0] (.l v1 (.c 16777216)) (.f 11111) QA
def WO:=go [a,b,c] [.l v0 v1,.l v2 v0] (.l v2 v1) (.f 1111) QA
def WN:=go [a,b,c] [.t v0 v1,.t v1 v2] (.l v0 v2) (.f 1111) QA
def WM:=go [a,b,c] [.e v0 v1,.t v0 v2] (.l v1 v2) (.f 11101) QA
def WK:=go [a,b,c] [.e v0 v1,.l (.p v0) v2] (.l v1 v2) (.f 11101) QA
def WJ:=go [a,b,c] [.t v0 v1,.l (.p v1) v2] (.n v2 v0) (.f 11101) QA
def WH:=go [a,b,c] [.e v0 v1,.l v0 v2] (.l v1 v2) (.f 11101) QA
def WG:=go [a,b,c,d] [.l v0 v1,.l v1 v2,.t v2 v3] (.l v0 v3) (.f 11111) QA
def L5:=go [a,b,c,d] [.t v0 v1,.l v1 v2,.l v2 v3] (.n v3 v0) (.f 111101) QA
def Kj:=go [a,b,c,d,e] [.t v0 v1,.l v1 v2,.l v2 v3,.t v3 v4] (.t v0 v4) (.f 111111) QA
def WF:=go [a,b] [.e v0 (.a v1 (.c 2))] (.t (.p v1) v0) (.f 1101) QA
def WE:=go [a,b] [.e v0 (.a v1 (.c 2))] (.t v1 v0) (.f 1101) QA
def Rj:=go [a,b,c] [.t v0 v1,.e v2 (.a v1 (.c 2))] (.t v0 v2) (.f 11011) QA
def Ri:=go [a,b] [.e v0 (.a v1 (.c 2))] (.l v1 v0) (.f 1101) QA
def WD:=go [a] [.t v0 v0] (.f) (.f 11) QA
def WC:=go [a,b,c] [.e v0 (.a v1 (.c 2)),.t v2 v1] (.t v2 v0) (.f 11101) QA
def Rh:=go [] [.t (.c 0) (.c 0)] (.f) (.f 11) QA
def WB:=go [a,b] [.l v0 v1,.l v1 (.c 4000)] (.t v0 (.c 4611686018427387904)) (.f 1111) QA
def L4:=go [a,b,c] [.t v0 v1,.t (.a v1 (.c 4)) v2] (.t v0 v2) (.f 1111) QA
def WA:=go [a,b,c] [.l v0 v1,.l v1 (.c 4000),.t v2 v0] (.t v2 (.c 9223372036854775808)) (.f 11111) QA
def Wz:=go [a,b,c] [.t (.a v0 (.c 4)) v1,.t v2 v0] (.t v2 v1) (.f 1111) QA
def Wy:=go [a,b,c,d] [.t v0 v1,.l v1 v2,.e v2 v0] (.e v3 (.c 0)) (.f 10111) QA
def Wx:=go [a,b,c] [.l v0 v1,.t v2 v0,.l v1 v2] (.f) (.f 1111) QA
def Rg:=go [a,b,c,d] [.e (.a v0 v1) v2,.t v3 (.a v0 (.p v1)),.w v3 v2] (.e v3 v2) (.n 0 (.f 111) (.f 110101)) QA
def Ww:=go [a,b,c] [.e (.a v0 v1) v2] (.l v0 v2) (.f 1011) QA
def Wv:=go [a,b,c,d] [.l v0 (.c 4000),.l v1 v0,.l v2 v3,.t v3 v1] (.l v2 (.c 16777216)) (.f 111111) QA
def Wu:=go [a,b,c] [.l v0 v1,.e v2 v1] (.l v0 v2) (.f 11011) QA
def Wt:=go [a,b,c] [.t v0 v1,.e v2 v0] (.t v2 v1) (.f 10111) QA
def Rf:=go [a,b,c] [.l v0 v1,.l v2 (.p v0)] (.l v2 (.p v1)) (.f 1111) QA
def Rd:=go [a,b,c,d] [.e (.a v0 v1) v2,.t v3 v2] (.t v3 (.a v0 (.p v1))) (.f 11101) QA
def Rc:=go [a,b,c,d] [.e (.a v0 v1) v2,.e v3 v2] (.l v0 v3) (.f 110011) QA
def Rb:=go [a,b,c,d] [.e (.a v0 v1) v2,.e v3 v2] (.t v3 (.a v0 (.p v1))) (.f 101101) QA
def L3:=go [a,b] [.t (.a v0 (.c 4)) v1] (.t v0 v1) (.f 111) QA
def Ra:=go [a,b,c] [.e (.a v0 v1) v2] (.e (.s (.a v0 (.p v1)) (.c 1)) v2) (.n 0 (.s 0 (.f 101011) (.f 101)) (.s 0 (.f 1100101) (.f 101))) QA
def P9:=go [a,b,c] [.t (.a v0 (.c 4)) v1,.t (.p v1) v2] (.t (.a v0 (.c 4)) v2) (.f 1111) QA
def P8:=go [a,b] [.t (.a v0 (.c 4)) v1] (.l v0 (.p v1)) (.f 111) QA
def P7:=go [a,b,c,d,e] [.l v0 v1,.l (.a v2 v3) v0,.t v4 v2] (.t (.s v2 (.c 1)) v1) (.s 0 (.f 11000111) (.f 1011)) QA
def LZ:=go [a,b,c,d] [.l v0 v1,.l v1 (.c 4000),.l (.a v2 v3) v0] (.t (.s v2 (.c 1)) (.c 9223372036854775808)) (.s 0 (.f 11001111) (.f 1100001)) QA
def P6:=go [a,b,c,d] [.l v0 v1,.t (.a v2 v3) v0] (.t (.a v2 v3) v1) (.f 1111) QA
def LY:=go [a,b,c,d] [.l v0 v1,.l v1 (.c 4000),.t (.a v2 v3) v0] (.t (.a v2 v3) (.c 9223372036854775808)) (.f 11111) QA
def Wr:=go [a] [] (.e (.a v0 (.c 0)) v0) (.n 0 (.f 11) (.f 11)) QA
def P5:=go [a,b,c,d,e,f] [.l v0 v1,.l (.a v2 v3) v0,.t v4 (.s v2 v5)] (.t (.s (.s v2 v5) (.c 1)) v1) (.s 0 (.s 1 (.f 11001000111) (.f 1010001)) (.f 1101)) QA
def LX:=go [a,b,c,d,e,f] [.l v0 v1,.l v1 (.c 4000),.l (.a v2 v3) v0,.t v4 (.s v2 v5)] (.t (.s (.s v2 v5) (.c 1)) (.c 9223372036854775808)) (.s 0 (.s 1 (.f 110010001111) (.f 11000000001)) (.f 1101)) QA
def Wq:=go [a,b,c,d] [.e (.a v0 v1) v2,.t v3 (.s v2 v1)] (.t (.s v0 (.c 1)) v0) (.s 0 (.f 11000001) (.s 1 (.f 11000111) (.f 110001))) QA
def Wp:=go [a,b,c,d] [.e (.a v0 v1) v2,.t v3 (.s v2 v1)] (.e (.a (.s v0 (.c 1)) (.p v1)) v2) (.s 0 (.n 0 (.f 1101001) (.f 11100001)) (.s 1 (.f 11000111) (.f 110001))) QA
def Wo:=go [a,b,c] [.t v0 (.s v1 v2)] (.l (.p v2) v1) (.s 0 (.f 110011) (.f 1101)) QA
def P4:=go [a,b,c] [.t v0 (.s v1 v2)] (.l (.a v0 (.p v2)) v1) (.s 0 (.f 110011) (.f 1101)) QA
def Wn:=go [a,b] [] (.e (.s (.s v0 (.c 1)) v1) (.s (.s v0 v1) (.c 1))) (.n 0 (.s 0 (.s 1 (.s 2 (.s 3 (.f 11001000100101) (.f 1100000000001)) (.f 1011001)) (.s 2 (.s 3 (.f 1100100010101) (.f 110000000001)) (.s 3 (.f 110010000001) (.f 11000000001)))) (.s 2 (.s 3 (.f 1100100011) (.f 110000001)) (.s 3 (.f 110010001) (.f 11000001)))) (.s 0 (.s 1 (.s 2 (.s 3 (.f 10100101001001) (.f 1010101001001)) (.f 1011001001)) (.f 1100001)) (.s 1 (.f 1100101) (.f 110001)))) QA
def Ki:=go [a,b,c] [.l (.a v0 v1) v2] (.l v1 v2) (.f 111) QA
def Wm:=go [a,b,c] [.l (.a v0 v1) v2] (.e (.a (.s v2 (.a v0 v1)) (.a (.a v0 v1) (.c 0))) v2) (.n 0 (.s 0 (.f 10101) (.f 1011)) (.s 0 (.f 11001) (.f 10101))) QA
def P3:=go [a,b,c,d,e] [.l v0 v1,.t (.a (.a v2 v3) v4) v0] (.t (.a (.a v2 v3) v4) v1) (.f 1111) QA
def LW:=go [a,b,c,d,e] [.l v0 v1,.l v1 (.c 4000),.t (.a (.a v2 v3) v4) v0] (.t (.a (.a v2 v3) v4) (.c 9223372036854775808)) (.f 11111) QA
def Wl:=go [a,b,c,d,e] [.e (.a v0 (.a (.a v1 v2) v3)) v4,.t (.a (.a v1 v2) v3) v4] (.t (.s v0 (.c 1)) v0) (.s 0 (.f 11000001) (.f 10111)) QA
def Wk:=go [a,b,c,d,e] [.e (.a v0 (.a (.a v1 v2) v3)) v4,.t (.a (.a v1 v2) v3) v4] (.e (.a (.s v0 (.c 1)) (.a (.a v1 v2) (.p v3))) v4) (.n 0 (.s 0 (.f 1010101) (.f 101101)) (.s 0 (.f 11001001) (.f 11011))) QA
def Wj:=go [a,b,c,d] [.t (.a (.a v0 v1) v2) v3] (.l (.a (.a v0 v1) (.p v2)) v3) (.f 111) QA
def LV:=go [a,b,c,d] [.t (.a (.a v0 v1) v2) v3] (.l (.a (.a v0 v1) v2) v3) (.f 111) QA
def Wi:=go [a,b,c,d,e] [.e (.a v0 (.a (.a v1 v2) v3)) v4] (.l (.a (.a v1 v2) v3) v4) (.f 1011) QA
def Wh:=go [a,b,c,d,e] [.e v0 v1,.t v0 v2,.l v2 v3,.t v3 v4] (.l v1 v4) (.f 1111101) QA
def Wg:=go [a,b,c,d] [.e v0 v1,.t v0 v2,.t v3 v1] (.t v3 v2) (.f 111101) QA
def Wf:=go [a,b,c,d] [.e v0 v1,.t v0 v2,.l v2 v3] (.l v1 v3) (.f 111101) QA
def We:=go [a,b,c,d] [.l v0 v1] (.l (.p v0) (.a (.p (.m 2 (.s v2 v3))) v1)) (.f 111) QA
def Wd:=go [a,b,c,d] [.l v0 (.c 4000),.l (.a v1 v2) (.p (.m 2 v0)),.l v3 v2] (.l v3 (.c 16777216)) (.f 11121) QA
def Wc:=go [a,b,c,d] [.l v0 (.c 4000),.l (.a v1 v2) (.p (.m 2 v0)),.l (.p v3) v2] (.l (.a v3 (.p (.c 0))) (.c 16777216)) (.f 11121) QA
def H4:=go [a,b] [.t v0 v1] (.n v0 (.a v1 (.c 2))) (.f 111) QA
def Wb:=go [a,b] [.t (.a v0 (.c 3)) v1] (.t (.a v0 (.c 2)) v1) (.f 111) QA
def Wa:=go [a,b,c] [.t (.a v0 (.c 3)) v1,.l v1 v2] (.l v0 v2) (.f 1111) QA
def P2:=go [a,b,c] [.t (.a v0 (.c 3)) v1,.t v2 v0] (.t v2 v1) (.f 1111) QA
def V9:=go [a] [] (.n (.a v0 (.c 3)) (.a v0 (.c 2))) (.f 101) QA
def V8:=go [a] [.n v0 (.c 0)] (.t (.c 0) v0) (.n 0 (.f 11) (.f 111)) QA
def V7:=go [a,b,c] [.l v0 (.c 4000),.l (.a v1 v2) (.p (.m 2 v0))] (.l v1 (.c 16777216)) (.f 1121) QA
def GF:=go [a,b,c,d] [.t v0 v1,.l v2 v0,.t v3 v2] (.t v3 v1) (.f 11111) QA
def V6:=go [a,b,c] [.t (.a v0 (.c 3)) v1,.l v1 v2] (.n v2 (.a v0 (.c 2))) (.f 11101) QA
def V5:=go [a,b,c] [.t (.a v0 (.c 3)) v1,.l v1 v2] (.n v2 (.a v0 (.c 3))) (.f 11101) QA
def V4:=go [a,b,c,d] [.t (.a v0 (.c 3)) v1,.t v2 v3,.l v1 v2] (.t (.a v0 (.c 2)) v3) (.f 11111) QA
def V3:=go [a,b,c,d] [.l v0 (.c 4000),.l (.a v1 v2) (.p (.m 2 v0)),.l (.p v3) v2] (.l v3 (.c 16777216)) (.f 11121) QA
def Kh:=go [a,b,c,d] [.t (.a v0 (.c 3)) v1,.t v2 v3,.l v1 v2] (.t (.a v0 (.c 3)) v3) (.f 11111) QA
def V2:=go [a,b,c,d] [.t (.a v0 (.c 3)) v1,.t v2 v3,.l v1 v2] (.n v3 (.a v0 (.c 2))) (.f 111101) QA
def V0:=go [a,b] [.t (.a v0 (.c 3)) v1] (.n (.a v0 (.c 2)) v1) (.f 111) QA
def VZ:=go [a,b,c,d,e] [.l v0 (.c 4000),.l (.a v1 v2) (.p (.m 2 v0)),.l (.p v3) v2,.l v4 (.p v3)] (.l v4 (.c 16777216)) (.f 111121) QA
def P1:=go [a,b] [.t (.a v0 (.c 3)) v1] (.n (.a v0 (.c 3)) v1) (.f 111) QA
def VY:=go [a,b] [.t (.a v0 (.c 3)) v1] (.n v1 (.a v0 (.c 2))) (.f 1101) QA
def VX:=go [a,b,c,d,e,f] [.l (.a v0 v1) (.p (.m 2 v2)),.e v1 (.a v3 v4),.t v5 (.a v3 v4)] (.l (.a (.p v0) v5) (.p (.m 2 v2))) (.f 111011) QA
def VW:=go [a,b,c,d,e] [.l (.a v0 v1) (.p (.m 2 v2)),.e v1 (.a v3 v4)] (.l (.a v0 v4) (.p (.m 2 v2))) (.f 11011) QA
def VV:=go [a,b,c] [] (.t v0 (.a (.p (.m 2 (.s v1 v2))) v0)) (.f 11) QA
def VU:=go [a,b,c] [.t (.a v0 (.c 3)) v1,.l v1 v2] (.t (.a v0 (.c 3)) v2) (.f 1111) QA
def VT:=go [a,b,c] [.l (.a v0 v1) (.p (.m 2 v2))] (.l v0 (.p (.m 2 v2))) (.f 111) QA
def VQ:=go [a,b,c] [.l (.a v0 v1) v2,.t (.c 0) v1] (.t v0 v2) (.f 1111) QA
def VP:=go [a,b] [.e v0 v1,.t v1 (.c 64)] (.t v0 (.c 64)) (.f 11011) QA
def VO:=go [a,b,c] [.l v0 v1,.t v1 v2,.t v2 (.c 64)] (.l v0 (.c 16777216)) (.f 11111) QA
def P0:=go [a,b,c] [.t (.a v0 (.c 3)) v1,.t v1 v2] (.t (.a v0 (.c 3)) v2) (.f 1111) QA
def PZ:=go [a,b] [.l v0 v1] (.l (.a v0 (.p (.c 0))) (.p v1)) (.f 111) QA
def VN:=go [a,b] [.l v0 v1,.t v1 (.c 64)] (.l v0 (.c 16777216)) (.f 1111) QA
def VM:=go [a,b] [.t v0 (.c 64),.l v1 (.p v0)] (.l v1 (.c 16777216)) (.f 1111) QA
def VL:=go [a,b] [.t v0 (.c 64),.l v1 (.p v0)] (.l (.p v1) (.c 4000)) (.f 1111) QA
def VJ:=go [a,b] [.t v0 v1] (.t v0 (.p (.p (.p (.p (.p v1)))))) (.f 111) QA
def PY:=go [a,b,c,d] [.t v0 v1,.t (.a v1 (.c 3)) v2,.t v2 v3] (.t v0 v3) (.f 11111) QA
def PX:=go [a,b,c] [.t v0 v1,.t (.a v1 (.c 3)) v2] (.n v0 v2) (.f 1111) QA
def LU:=go [a,b] [.t v0 v1] (.n v0 (.a v1 (.c 3))) (.f 111) QA
def PW:=go [a,b,c,d,e] [.t v0 v1,.t (.a v1 (.c 3)) v2,.t v2 v3,.l (.a v3 (.c 5)) v4] (.n v0 v4) (.f 111111) QA
def PV:=go [a,b,c,d] [.t (.a v0 (.c 3)) v1,.t v1 v2,.l (.a v2 (.c 5)) v3] (.l v0 v3) (.f 11111) QA
def VI:=go [a,b,c,d] [.t (.a v0 (.c 3)) v1,.t v1 v2,.t v3 v0] (.t v3 v2) (.f 11111) QA
def VH:=go [a,b,c] [.t (.a v0 (.c 3)) v1,.t v2 v0] (.n v2 v1) (.f 1111) QA
def VG:=go [a,b,c,d,e] [.t (.a v0 (.c 3)) v1,.t v1 v2,.l (.a v2 (.c 5)) v3,.t v4 v0] (.n v4 v3) (.f 111111) QA
def VF:=go [a,b,c,d,e] [.t v0 v1,.t (.a v1 (.c 3)) v2,.t v2 v3,.l (.a v3 (.c 5)) v4] (.n v4 v0) (.f 1111101) QA
def VD:=go [a,b,c,d] [.l v0 v1,.t v2 v3,.l v1 v2] (.l v0 v3) (.f 11111) QA
def VC:=go [a,b,c,d,e,f,g,h,i,j] [.l (.a v0 v1) v2,.l (.a v3 v1) v4,.l (.a v5 (.s v2 (.s v2 v1))) v6,.t v7 (.s v6 v5),.t v8 v1,.l v9 (.a v5 (.s (.s (.s v6 v5) (.c 1)) v7))] (.l v9 (.s (.s v6 (.c 1)) v7)) (.s 2 (.s 3 (.s 0 (.s 4 (.s 1 (.s 6 (.s 7 (.f 11001000101000100000001000001) (.f 101010000000000000000001)) (.f 101000000000000000001)) (.f 101100010000000001)) (.f 110000000000001)) (.f 1010101000101)) (.f 1011)) (.f 101000001)) QA
def VB:=go [a,b,c,d,e,f,g,h,i,j] [.l (.a v0 v1) v2,.l (.a v3 v1) v4,.l (.a v5 (.s v2 (.s v2 v1))) v6,.t v7 (.s v6 v5),.t v8 v1,.t (.a v5 (.s (.s (.s v6 v5) (.c 1)) v7)) v9] (.t (.s (.s v6 (.c 1)) v7) v9) (.s 2 (.s 3 (.s 0 (.s 1 (.s 4 (.s 6 (.s 7 (.f 10100100101001000000001000001) (.f 1010100101001000000001000001)) (.f 101000000000000000001)) (.f 1011001000000001000001)) (.f 1100000000001000001)) (.f 1010101000101)) (.f 1011)) (.f 101000001)) QA
def VA:=go [a,b,c,d,e,f,g,h,i,j,k,l] [.l (.a v0 v1) v2,.l (.a v3 v1) v4,.e (.a v5 v6) (.a v7 v8),.l (.a v8 (.s v2 (.s v2 v1))) v5,.t v9 (.s v5 v8),.t v10 v1,.l v11 (.a v6 (.s (.s (.s v5 v8) (.c 1)) v9))] (.l v11 (.s (.s v7 (.c 1)) v9)) (.s 2 (.s 3 (.s 0 (.s 4 (.s 1 (.s 6 (.s 7 (.f 1100100010100010000000100001001) (.f 101010000000000000000001)) (.f 101000000000000000001)) (.f 101100010000000001001)) (.f 110000000000001)) (.f 101010100010101)) (.f 1011)) (.f 10100000001)) QA
def Vz:=go [a,b,c,d,e,f,g,h,i,j,k,l] [.l (.a v0 v1) v2,.l (.a v3 v1) v4,.e (.a v5 v6) (.a v7 v8),.l (.a v8 (.s v2 (.s v2 v1))) v5,.t v9 (.s v5 v8),.t v10 v1,.t (.a v6 (.s (.s (.s v5 v8) (.c 1)) v9)) v11] (.t (.s (.s v7 (.c 1)) v9) v11) (.s 2 (.s 3 (.s 0 (.s 1 (.s 4 (.s 6 (.s 7 (.f 1010010010100100000000100010001) (.f 101010000000000000000001)) (.f 101000000000000000001)) (.f 101100100000000100010001)) (.f 110000000000100000001)) (.f 101010100010101)) (.f 1011)) (.f 10100000001)) QA
def Vy:=go [a,b,c,d,e] [.l (.a v0 (.s v1 (.s v1 v2))) v3,.t v4 v0] (.l v4 (.s (.s v3 (.s v3 v0)) (.c 1))) (.s 0 (.s 1 (.s 2 (.f 1010010100101) (.f 101010100101)) (.f 1011)) (.f 10101)) QA
def Vx:=go [a,b,c,d,e,f,g,h] [.e (.a v0 v1) (.a v2 v3),.l (.a v3 (.s v4 (.s v4 v5))) v0,.t v6 (.s v2 (.s v0 v3)),.t v7 v1] (.l v7 (.s (.s v2 (.s v0 v3)) (.c 1))) (.s 0 (.s 1 (.s 2 (.f 1010010100100011) (.f 10100000001)) (.f 101100100011)) (.f 101001)) QA
def Vw:=go [a,b,c,d,e,f,g] [.e (.a (.s v0 v1) (.a (.a v2 v1) v3)) (.a (.a v0 v2) v3),.e (.a (.s v4 v1) (.a (.a v2 v1) v3)) (.a (.a v4 v2) v3),.l (.a v5 (.s v0 (.s v0 v1))) v6] (.e v5 (.s v6 (.s v6 v5))) (.s 0 (.s 1 (.s 2 (.s 3 (.s 5 (.n 0 (.f 1100000000010001) (.f 110000000000101)) (.f 1010001)) (.f 101000000000001)) (.f 10100000000001)) (.f 1011)) (.f 1011)) QA
def Vv:=go [a,b,c,d,e,f,g,h,i] [.e (.a v0 v1) (.a v2 v3),.e (.a (.s v4 v5) (.a (.a v6 v5) v7)) (.a (.a v4 v6) v7),.e (.a (.s v8 v5) (.a (.a v6 v5) v7)) (.a (.a v8 v6) v7),.l (.a v3 (.s v4 (.s v4 v5))) v0] (.e v1 (.s v2 (.s v0 v3))) (.s 0 (.s 1 (.s 2 (.s 3 (.s 5 (.n 0 (.f 11000000000100010000001) (.f 110000000000101000000001)) (.f 1010001)) (.f 101000000000001)) (.f 10100000000001)) (.f 1011000000001)) (.f 1011)) QA
def Vt:=go [a,b,c,d,e,f,g,h,i] [.e v0 (.a v1 v2),.e (.a (.s v3 v4) (.a (.a v2 v4) v5)) (.a (.a v3 v2) v5),.e (.a (.s v6 v4) (.a (.a v2 v4) v5)) (.a (.a v6 v2) v5),.l (.a v7 (.s v3 (.s v3 v4))) v1,.l (.a v0 (.s (.a (.a v3 v2) v5) (.a v3 v2))) v8] (.e (.s v8 v7) (.a (.a v2 (.s v1 v7)) (.s v8 v0))) (.s 0 (.s 1 (.s 2 (.s 3 (.s 4 (.s 6 (.s 7 (.n 0 (.f 110000000000001001000100000001) (.f 1100000000000001001010000000001)) (.f 101)) (.f 1010001)) (.f 1010000000000000001)) (.f 101000000000000001)) (.f 1010000001)) (.f 10100001)) (.f 1011100001)) QA
def Vs:=go [a,b,c,d,e,f] [.l (.a v0 (.s (.a v1 v2) v1)) v3,.e (.a v4 (.s v5 v4)) v5,.e v5 v0] (.e (.s v3 v4) (.a (.s v5 v4) (.s v3 v0))) (.s 0 (.s 1 (.s 2 (.s 3 (.n 0 (.f 1100010010001001) (.f 110000100101001)) (.f 101)) (.f 10100000000001)) (.f 1010000001)) (.f 10101011)) QA
theorem Kg:a+1=a+1:=go [a] [] (.e (.p v0) (.p v0)) (.n 0 (.f 11) (.f 11)) QA
theorem Vq:a<=20000000000000->a<=4*18446744073709551616:=go [a] [.l v0 (.c 20000000000000)] (.l v0 (.m 4 (.c 18446744073709551616))) (.f 111) QA
theorem Vp:a < 0->b < c:=go [a,b,c] [.t v0 (.c 0)] (.t v1 v2) (.f 11) QA
def CR:=go [a,b] [] (.e (.a v0 v1) (.a v0 v1)) (.n 0 (.f 11) (.f 11)) QA
def H3:=go [a,b] [.t v0 v1] (.e v1 (.p (.s v1 (.c 1)))) (.s 0 (.n 0 (.f 111) (.f 1101)) (.f 1011)) QA
def Vo:=go [a,b] [.l v0 v1] (.e v1 (.a (.s v1 v0) v0)) (.s 0 (.n 0 (.f 111) (.f 1101)) (.f 1011)) QA
def Vn:=go [] [] (.n (.c 4) (.c 6)) (.f 11) QA
def Vm:=go [] [] (.n (.c 7) (.c 8)) (.f 11) QA
def Vl:=go [] [] (.n (.c 8) (.c 7)) (.f 101) QA
def Vj:=go [a,b] [.e v0 (.p v1)] (.e (.p v1) v0) (.n 0 (.f 1101) (.f 111)) QA
def PU:=go [a,b,c] [.l (.a v0 v1) (.p v2)] (.e (.p v2) (.a (.s (.p v2) v0) v0)) (.s 0 (.n 0 (.f 111) (.f 1101)) (.f 1011)) QA
def LR:=go [a,b,c] [.t v0 (.s v1 v2)] (.e (.s v1 v2) (.p (.s (.s v1 v2) (.c 1)))) (.s 0 (.s 2 (.n 0 (.f 111) (.f 1101)) (.f 1010001)) (.f 1101)) QA
def PS:=go [a,b,c] [.t v0 (.s v1 v2)] (.e (.s v1 v2) (.p (.s v1 (.p v2)))) (.s 0 (.s 1 (.n 0 (.f 1110001) (.f 110101)) (.f 1011001)) (.f 1101)) QA
def Vi:=go [a,b] [] (.e (.p (.a v0 v1)) (.a v0 (.p v1))) (.n 0 (.f 11) (.f 11)) QA
def LQ:=go [a,b,c,d] [.l v0 v1] (.e (.a (.s v1 v0) (.a (.a v2 v0) v3)) (.a (.a v1 v2) v3)) (.s 0 (.n 0 (.f 1101) (.f 111)) (.f 1011)) QA
def Vh:=go [a,b,c] [] (.e (.p (.a (.a v0 v1) v2)) (.a (.a v0 v1) (.p v2))) (.n 0 (.f 11) (.f 11)) QA
def PR:=go [a,b,c] [.e (.a v0 v1) v2] (.e (.a v0 v1) v2) (.n 0 (.f 111) (.f 1101)) QA
theorem PQ:0 < a->a=0->b=c:=go [a,b,c] [.t (.c 0) v0,.e v0 (.c 0)] (.e v1 v2) (.f 1011) QA
theorem PP:0 < a->a=0->b=c+d:=go [a,b,c,d] [.t (.c 0) v0,.e v0 (.c 0)] (.e v1 (.a v2 v3)) (.f 1011) QA
theorem Vg:a<=b->a≠b->a < b:=go [a,b] [.l v0 v1,.n v0 v1] (.t v0 v1) (.n 0 (.f 1101) (.f 111)) QA
theorem Vf:a<=b->b < 9223372036854775808->a=c->c < 9223372036854775808:=go [a,b,c] [.l v0 v1,.t v1 (.c 9223372036854775808),.e v0 v2] (.t v2 (.c 9223372036854775808)) (.f 110111) QA
theorem Ve:a < 9223372036854775808->b<=a->b=c->c < 9223372036854775808:=go [a,b,c] [.t v0 (.c 9223372036854775808),.l v1 v0,.e v1 v2] (.t v2 (.c 9223372036854775808)) (.f 110111) QA
theorem Vd:0+1<=2:=go [] [] (.l (.p (.c 0)) (.c 2)) (.f 11) QA
theorem Vc:4+1<=6*(0+1):=go [] [] (.l (.p (.c 4)) (.m 6 (.p (.c 0)))) (.f 11) QA
theorem Vb:0+1+1<=3:=go [] [] (.l (.p (.p (.c 0))) (.c 3)) (.f 11) QA
theorem Va:2+2+1<=5:=go [] [] (.l (.p (.a (.c 2) (.c 2))) (.c 5)) (.f 11) QA
theorem U9:3<=5:=go [] [] (.l (.c 3) (.c 5)) (.f 11) QA
theorem U8:1<=18446744073709551616:=go [] [] (.l (.c 1) (.c 18446744073709551616)) (.f 11) QA
theorem U7:1<=1+1:=go [] [] (.l (.c 1) (.p (.c 1))) (.f 11) QA
theorem LP:0<=a:=go [a] [] (.l (.c 0) v0) (.f 11) QA
theorem PO:0<=a - 0:=go [a] [] (.l (.c 0) (.s v0 (.c 0))) (.f 11) QA
theorem U6:1<=3:=go [] [] (.l (.c 1) (.c 3)) (.f 11) QA
theorem U5:5≠6:=go [] [] (.n (.c 5) (.c 6)) (.f 11) QA
theorem U4:9<=a->a≠1:=go [a] [.l (.c 9) v0] (.n v0 (.c 1)) (.f 1101) QA
theorem U3:9<=a->a≠2:=go [a] [.l (.c 9) v0] (.n v0 (.c 2)) (.f 1101) QA
theorem U2:9<=a->a≠3:=go [a] [.l (.c 9) v0] (.n v0 (.c 3)) (.f 1101) QA
theorem U1:9<=a->a≠4:=go [a] [.l (.c 9) v0] (.n v0 (.c 4)) (.f 1101) QA
theorem U0:9<=a->a≠5:=go [a] [.l (.c 9) v0] (.n v0 (.c 5)) (.f 1101) QA
theorem UZ:9<=a->a≠6:=go [a] [.l (.c 9) v0] (.n v0 (.c 6)) (.f 1101) QA
theorem UY:9<=a->a≠7:=go [a] [.l (.c 9) v0] (.n v0 (.c 7)) (.f 1101) QA
theorem UX:9<=a->a≠8:=go [a] [.l (.c 9) v0] (.n v0 (.c 8)) (.f 1101) QA
theorem UW:7 < 1152921504606846976:=go [] [] (.t (.c 7) (.c 1152921504606846976)) (.f 11) QA
theorem UV:a=b->b=a:=go [a,b] [.e v0 v1] (.e v1 v0) (.n 0 (.f 1101) (.f 111)) QA
theorem UT:0<=a - b:=go [a,b] [] (.l (.c 0) (.s v0 v1)) (.f 11) QA
theorem PN:¬a < b - c->a < b - c->Yk:=go [a,b,c] [.w v0 (.s v1 v2),.t v0 (.s v1 v2)] (.f) (.f 111) QA
theorem PM:a - b+(c+b+d) < e->a+c+d < e:=go [a,b,c,d,e] [.t (.a (.s v0 v1) (.a (.a v2 v1) v3)) v4] (.t (.a (.a v0 v2) v3) v4) (.s 0 (.f 101011) (.f 10111)) QA
theorem PL:a+b<=c->¬c - b+(d+b+e) < f->c+d+e < f->Yk:=go [a,b,c,d,e,f] [.l (.a v0 v1) v2,.w (.a (.s v2 v1) (.a (.a v3 v1) v4)) v5,.t (.a (.a v2 v3) v4) v5] (.f) (.s 0 (.f 110011) (.f 101001)) QA
theorem US:a < b->a=b->Yk:=go [a,b] [.t v0 v1,.e v0 v1] (.f) (.f 1101) QA
end
end Mini
end
section
namespace Mini
mutual
theorem an2 {a0 a1 G:Prop} (h:a0/\a1) (k:a0->a1->G):G:=k h.1 h.2
theorem an3 {a0 a1 a2 G:Prop} (h:a0/\a1/\a2) (k:a0->a1->a2->G):G:=an2 h.2 (k h.1)
theorem an4 {a0 a1 a2 a3 G:Prop} (h:a0/\a1/\a2/\a3) (k:a0->a1->a2->a3->G):G:=an3 h.2 (k h.1)
theorem an5 {a0 a1 a2 a3 a4 G:Prop} (h:a0/\a1/\a2/\a3/\a4) (k:a0->a1->a2->a3->a4->G):G:=an4 h.2 (k h.1)
theorem an6 {a0 a1 a2 a3 a4 a5 G:Prop} (h:a0/\a1/\a2/\a3/\a4/\a5) (k:a0->a1->a2->a3->a4->a5->G):G:=an5 h.2 (k h.1)
theorem an7 {a0 a1 a2 a3 a4 a5 a6 G:Prop} (h:a0/\a1/\a2/\a3/\a4/\a5/\a6) (k:a0->a1->a2->a3->a4->a5->a6->G):G:=an6 h.2 (k h.1)
theorem an8 {a0 a1 a2 a3 a4 a5 a6 a7 G:Prop} (h:a0/\a1/\a2/\a3/\a4/\a5/\a6/\a7) (k:a0->a1->a2->a3->a4->a5->a6->a7->G):G:=an7 h.2 (k h.1)
theorem an9 {a0 a1 a2 a3 a4 a5 a6 a7 a8 G:Prop} (h:a0/\a1/\a2/\a3/\a4/\a5/\a6/\a7/\a8) (k:a0->a1->a2->a3->a4->a5->a6->a7->a8->G):G:=an8 h.2 (k h.1)
theorem ew1 {α0:Sort _} {p:α0->Prop} {G:Prop} (h:∃x0,p x0) (k:∀x0,p x0->G):G:=Qy k
theorem ew2 {α0:Sort _} {α1:Sort _} {p:α0->α1->Prop} {G:Prop} (h:∃x0 x1,p x0 x1) (k:∀x0 x1,p x0 x1->G):G:=Qy fun x h=>ew1 h (k x)
theorem ew3 {α0:Sort _} {α1:Sort _} {α2:Sort _} {p:α0->α1->α2->Prop} {G:Prop} (h:∃x0 x1 x2,p x0 x1 x2) (k:∀x0 x1 x2,p x0 x1 x2->G):G:=Qy fun x h=>ew2 h (k x)
theorem ew4 {α0:Sort _} {α1:Sort _} {α2:Sort _} {α3:Sort _} {p:α0->α1->α2->α3->Prop} {G:Prop} (h:∃x0 x1 x2 x3,p x0 x1 x2 x3) (k:∀x0 x1 x2 x3,p x0 x1 x2 x3->G):G:=Qy fun x h=>ew3 h (k x)
theorem ew5 {α0:Sort _} {α1:Sort _} {α2:Sort _} {α3:Sort _} {α4:Sort _} {p:α0->α1->α2->α3->α4->Prop} {G:Prop} (h:∃x0 x1 x2 x3 x4,p x0 x1 x2 x3 x4) (k:∀x0 x1 x2 x3 x4,p x0 x1 x2 x3 x4->G):G:=Qy fun x h=>ew4 h (k x)
theorem ls1 {α:Type} {l:QC α} {n:QH} (h:ZF=n+1):∃a r,l=a::r/\Q7b=n:=by
 cases l with
 | Zl=>cases h
 | Xu a r=>exact ⟨a,r,QA,QEA h⟩
theorem ls3 {α:Type} {l:QC α} (h:ZF=3):∃x y z,l=[x,y,z]:=by
 exact (ls1 h).Q32 fun x h=>Qy fun r h=>(ls1 h.2).Q32 fun y k=>k.elim fun t k=>(ls1 k.2).Q32 fun z m=>m.elim fun u m=>⟨x,y,z,h.1.QR (Z4 _ (k.1.QR (Z4 _ (m.1.QR (Z4 _ (Zu m.2))))))⟩
end
end Mini
end
section
open PySem PySem.W PySem.Calls PyProof.Rows
namespace Mini
mutual
theorem lt2 {l:QH} (h:l < 2):l=0\/l=1:=by
 cases l with
 | Q2Q=>exact .inl QA
 | Q2R l=>exact .inr (Z4 Q5A (Nat.lt_one_iff.mp (Zt h)))
theorem lt3 {l:QH} (h:l < 3):l=0\/l=1\/l=2:=by
 cases l with
 | Q2Q=>exact .inl QA
 | Q2R l=>exact .inr ((lt2 (Zt h)).imp (Z4 Q5A) (Z4 Q5A))
theorem lt4 {l:QH} (h:l < 4):l=0\/l=1\/l=2\/l=3:=by
 cases l with
 | Q2Q=>exact .inl QA
 | Q2R l=>exact .inr ((lt3 (Zt h)).imp (Z4 Q5A) (Or.imp (Z4 Q5A) (Z4 Q5A)))
theorem afI {l h:QH} (q:l<=h):l<=(l+h) / 2:=(Nat.le_div_iff_mul_le (by decide)).mpr (by rw [QFH];exact Q8X q l)
theorem afH {l h:QH} (q:l < h):(l+h) / 2 < h:=(Nat.div_lt_iff_lt_mul (by decide)).mpr (by rw [QFH];exact Nat.add_lt_add_right q h)
theorem ine {a b:X3} (h:¬a < b) (n:a≠b):b < a:=Int.lt_iff_le_and_ne.mpr ⟨Q8p h,n.symm⟩
theorem Da (n a:QH):QAP n (a:X3)=min a n:=by
 unfold QAP
 rw [QN (Q7c (Q0B a))]
 rcases Nat.le_total a n with h | h
 ·rw [Int.min_eq_left (Yh h),QAQ (Q0B a),Ye h];rfl
 ·rw [Int.min_eq_right (Yh h),QAQ (Q0B n),Q45 h];rfl
theorem MD {a b:QH} (h:b<=a):¬(0:X3) > (a:X3) - b:=Q7c (Int.sub_nonneg_of_le (Yh h))
theorem KP {a b c:QH} (h:a<=c):min c ((a:X3) - b).Q1X=a - b:=by rw [Int.toNat_sub];exact Q45 (Y1 (Nat.sub_le ..) h)
theorem He {n m:QH} (h:n<=Xa) (e:n=m):((m:QH):X3) < 2 ^ 63:=e▸Int.lt_of_le_of_lt (Yh h) (by decide)
theorem FW {z:X3} {b:QH} (h:0<=z/\z < b):z=(z.toNat:QH)/\z.toNat < b:=⟨(Q2v h.1).Q3w,(QEB h.1).mpr h.2⟩
theorem aiH {i:X3} (h:0<=i):i=(QGn:QH):=(Q2v h).Q3w
theorem afU {a b:QH} (h:¬a=b):(a:X3)≠b:=fun e=>h (Q0p e)
theorem KQ {a b:QH} (h:b<=16777216):min a b<=16777216:=Y1 (Q46 ..) h
theorem KW {c:QH} (h:c∈[2,3,4,5,6,7,8]):2<=c/\c < 9:=(by decide:∀c∈[2,3,4,5,6,7,8],2<=c/\c < 9) c h
theorem aiJ {c:QH} (h:c∈[7,8]):c∈[2,3,4,5,6,7,8]:=(by decide:∀c∈[7,8],c∈[2,3,4,5,6,7,8]) c h
theorem afV {c:QH} (h:c∈[2,3,4,5,6]):c∈[2,3,4,5,6,7,8]/\c≠1/\c≠7/\c≠8/\c < 9:=(by decide:∀c∈[2,3,4,5,6],c∈[2,3,4,5,6,7,8]/\c≠1/\c≠7/\c≠8/\c < 9) c h
theorem T8 {c:QH} (h:2<=c) (k:c<=6):c∈[2,3,4,5,6]:=(by decide:∀c,c < 7->2<=c->c∈[2,3,4,5,6]) c (Q9c k) h
theorem aiI {c:QH} (h:6 < c) (k:c < 9):c=7\/c=8:=(by decide:∀c,c < 9->6 < c->c=7\/c=8) c k h
theorem afW {i:X3} (h:-2 ^ 63<=i/\i < 2 ^ 63):(XV (i < -(2 ^ 63:X3)) || XV (i >= 2 ^ 63))=QJ:=by
 rw [Yf (Q7c h.1),Yf (Q7d h.2)];rfl
end
end Mini
end
section
open PySem PySem.W PySem.Calls PyProof.Rows
set_option genInjectivity false
set_option genSizeOf false
namespace Mini
mutual
def Ey (xs:XM QH):Prop:=xs.toList.Pairwise (· < ·)
theorem Ey.lt {xs:XM QH} (h:Ey xs) {i k a b:QH} (ha:xs[i]?=QB a) (hb:xs[k]?=QB b) (hik:i < k):a < b:=by
 obtain (⟨hi,QA⟩):=Q1t ha
 obtain (⟨hk,QA⟩):=Q1t hb
 have:=Q26 h i k (by simpa using hi) (by simpa using hk) hik
 simpa using this
theorem Pz (xs:XM QH) (j Q7L lo hi:QH):Q1E xs j (Q7L+1) lo hi=if lo < hi then (if QGo ((lo+hi) / 2) j < j then Q1E xs j Q7L ((lo+hi) / 2+1) hi else Q1E xs j Q7L lo ((lo+hi) / 2)) else lo:=QA
theorem Oc (xs:XM QH) (j:QH) (hs:Ey xs):∀Q7L lo hi,hi - lo<=Q7L->lo<=hi->hi<=Q5f->(∀i x,xs[i]?=QB x->i < lo->x < j)->(∀i x,xs[i]?=QB x->hi<=i->j<=x) ->
  Q1E xs j Q7L lo hi<=Q5f/\(∀i x,xs[i]?=QB x->i < Q1E xs j Q7L lo hi->x < j)/\(∀i x,xs[i]?=QB x->Q1E xs j Q7L lo hi<=i->j<=x):=by
 intro Q7L
 induction Q7L with
 | Q2Q =>
  intro lo hi h1 h2 h3 h4 h5
  have:lo=hi:=by exact adD h1 h2
  subst this
  exact ⟨h3,h4,h5⟩
 | Q2R Q7L ih =>
  intro lo hi h1 h2 h3 h4 h5
  rw [Pz]
  by_cases hl:lo < hi
  ·rw [QY hl]
   have m0:=afI h2
   have m1:=afH hl
   have hm:(lo+hi) / 2 < Q5f:=QQ m1 h3
   have hx:xs[(lo+hi) / 2]?=QB (QGo ((lo+hi) / 2) j):=by simp [X9,hm]
   by_cases hc:QGo ((lo+hi) / 2) j < j
   ·rw [QY hc]
    refine ih _ hi (Y1 (Q8Y (Q6J m0) hi) (QAR h1)) m1 h3 (fun i x hi' hlt=>?_) h5
    by_cases q:i=(lo+hi) / 2
    ·subst q;rw [hx]at hi';cases hi';exact hc
    ·exact Q1F (hs.lt hi' hx (by exact Bl hlt q)) hc
   ·rw [QN hc]
    refine ih lo _ (Q2L (QQ (Q7e m0 m1) h1)) m0 (by exact Sy hm) h4 (fun i x hi' hge=>?_)
    by_cases q:i=(lo+hi) / 2
    ·subst q;rw [hx]at hi';cases hi';exact L6 hc
    ·have:=hs.lt hx hi' (by exact Sx hge q);exact adC hc this
  ·rw [QN hl]
   have:lo=hi:=by exact Sw h2 hl
   subst this
   exact ⟨h3,h4,h5⟩
theorem Jj (xs:XM QH) (j:QH) (hs:Ey xs):Xd xs j<=Q5f/\(∀i x,xs[i]?=QB x->i < Xd xs j->x < j)/\(∀i x,xs[i]?=QB x->Xd xs j<=i->j<=x) :=
 Oc xs j hs _ 0 Q5f (by exact Sv) (by exact zq8) (by exact SP) (fun i x _ h=>by exact Vp h) (fun i x h k=>by have:=(Q1t h).1;exact adA k this)
theorem Ey.insert {xs:XM QH} {j:QH} (hs:Ey xs) (hj:xs[Xd xs j]?≠QB j):Ey (SetTable.insertAt xs (Xd xs j) j):=by
 refine an3 (Jj xs j hs) fun h1 h2 h3=>?_
 unfold Ey
 rw [SetTable.toList_insertAt,List.pairwise_append,Q96]
 have hd:∀b∈xs.toList.drop (Xd xs j),j < b:=by
  intro b hb
  obtain (⟨k,hk,QA⟩):=Zd hb
  rw [Q5g]
  have hlt:Xd xs j+k < Q5f:=by rw [Q1g]at hk;simp at hk;exact UQ hk
  have hg:xs[Xd xs j+k]?=QB (QDQ[Xd xs j+k]'(by simpa using hlt)):=by simp [hlt]
  have:=h3 _ _ hg (Q6K _ _)
  refine Nat.lt_of_le_of_ne this fun q=>?_
  by_cases k0:k=0
  ·subst k0;exact hj (Eq.trans hg (Z4 QB q.symm))
  ·have hp:Xd xs j < Q5f:=by exact adz hlt
   have hg0:xs[Xd xs j]?=QB xs[Xd xs j]:=by simp [hp]
   have a:=h3 _ _ hg0 (Qh _)
   have b:=hs.lt hg0 hg (by exact ady k0)
   omega
 have ht:∀a∈xs.toList.take (Xd xs j),a < j:=by
  intro a ha
  obtain (⟨k,hk,QA⟩):=Zd ha
  rw [Q5h]
  rw [Xn]at hk
  have hlt:k < Q5f:=QQ hk (Q46 ..)
  exact h2 k _ (by simp [hlt]) (QQ hk (Q7B ..))
 refine ⟨hs.sublist (List.take_sublist _ _),⟨hd,hs.sublist (List.drop_sublist _ _)⟩,fun a ha b hb=>?_⟩
 rcases XP hb with QA | hb
 ·exact ht a ha
 ·exact Q1F (ht a ha) (hd b hb)
def Aq (w:Q6I):Qu:=w.params.followText "set-order"
structure Q2s (bt:Qu) (t:Y0):Prop where
 led:t.led=!bt
 dm:t.dummies=#[]
 rise:Ey ZR
theorem GoodT.noPlain {bt:Qu} {t:Y0} (h:Q2s bt t):Q2s bt {t with Q4U:=QJ}:=⟨h.led,h.dm,h.rise⟩
theorem Jz (n:QH):Ey (Array.range n):=by
 unfold Ey;simp [Q3d]
theorem GoodT.standIn {bt:Qu} {t:Y0} (h:Q2s bt t) (n:QH):Q2s bt (t.standIn n):=⟨h.led,QA,Jz n⟩
theorem GoodT.orStandIn {bt:Qu} {t:Y0} (h:Q2s bt t) (n:QH):Q2s bt (t.orStandIn n):=by
 unfold SetTable.orStandIn
 split
 ·exact h
 ·exact QAS n
theorem KX (j:QH):QEC #[] j=QJ:=by unfold QEC;simp
theorem GoodT.slot_empty {bt:Qu} {t:Y0} (h:Q2s bt t) {j:QH}:(t.slot j=.QGp/\ZR[Xd ZR j]?≠QB j)\/∃i,t.slot j=.live i:=by
 unfold SetTable.slot
 dsimp only
 rw [h.dm,KX]
 by_cases hq:(ZR[Xd ZR j]? == QB j)=QM
 ·rw [QY hq];exact .inr ⟨_,QA⟩
 ·rw [QN hq];exact .inl ⟨QA,fun e=>hq (by rw [e];simp)⟩
theorem GoodT.probe_go {bt:Qu} {t:Y0} (h:Q2s bt t) (f:QH->X3) (x:X3):∀Q7L (p:SetTable.Probe),p.dummy=QG->∀j d,Q5i t f x Q7L p=QB (.QGp j d)->d=QG/\ZR[Xd ZR j]?≠QB j:=by
 intro Q7L
 induction Q7L with
 | Q2Q=>exact fun p hp j d e=>nomatch e
 | Q2R Q7L ih =>
  intro p hp j d e
  have e:(match t.slot p.j with | .QGp=>QB (.QGp p.j p.dummy) | .dummy=>Q5i t f x Q7L (QDR {p with dummy:=QB p.j}) | .live i=>if f i == x then QB (.candidate p.j i (QDR p)) else Q5i t f x Q7L (QDR p))=QB (.QGp j d):=e
  rcases h.slot_empty (j:=p.j) with ⟨e1,e2⟩ | ⟨i,e1⟩
  ·rw [e1]at e
   dsimp only at e
   cases e
   exact ⟨hp,e2⟩
  ·rw [e1]at e
   dsimp only at e
   split at e
   ·cases e
   ·refine ih _ ?_ j d e
    unfold SetTable.advance
    split
    ·exact hp
    ·exact hp
theorem GoodT.freeSlot {bt:Qu} {t:Y0} (h:Q2s bt t) {x:X3} {j:QH} {d:Qu} (e:t.freeSlot x=QB (j,d)):d=QJ/\ZR[Xd ZR j]?≠QB j:=by
 injections bt t _ x j d _
 unfold SetTable.freeSlot at e
 split at e
 ·rename_i j' d' e1
  obtain ⟨QA,h2⟩:=h.probe_go _ _ _ _ QA _ _ e1
  cases e
  exact ⟨QA,h2⟩
 ·cases e
theorem GoodT.put {bt:Qu} {t:Y0} (h:Q2s bt t) {j:QH} (hj:ZR[Xd ZR j]?≠QB j):Q2s bt (t.put j).1:=by
 unfold SetTable.put
 refine ⟨h.led,?_,h.rise.insert hj⟩
 dsimp only
 rw [h.dm,KX];rfl
theorem GoodT.layNew {bt:Qu} {t:Y0} (h:Q2s bt t) (es:XM (X3×QI)) (x:X3) (v:QI):Q2s bt (QBy t es x v).2.1:=by
 injections bt t _ es x v
 unfold PySem.layNew
 split
 ·rename_i slot wd e
  obtain ⟨_,h2⟩:=h.freeSlot e
  exact (h.put h2).orStandIn _
 ·exact QAS _
theorem GoodT.laid {bt:Qu} {mask finger moves:QH} {Q4U:Qu} {hs:XM X3} {t:Y0} {o:XM QH} (e:QCx mask finger moves (!bt) Q4U hs=QB (t,o)):Q2s bt t:=by
 injections bt mask finger moves Q4U hs t o _
 unfold QCx at e
 obtain ⟨Q7f,_,e⟩:=(Option.bind_eq_some_iff.mp e)
 cases e
 refine ⟨QA,QA,?_⟩
 rw [List.map_filterMap]
 rw [show (fun j=>Q97 (fun x=>x.1) (Q97 (fun x=>(j,x)) (QBz j QG)))=fun j=>if (QBz j QG).QAT then QB j else QG by
  funext j;cases QBz j QG <;> rfl]
 refine List.Pairwise.filterMap _ (R:=fun a b=>a < b) ?_ Q3d;intros a a' hlt b hb b' hb'
 split at hb <;> split at hb' <;> simp at hb hb'
 subst hb hb';exact hlt
theorem GoodT.relayAll {bt:Qu} {t:Y0} (h:Q2s bt t) (es:XM (X3×QI)) (n:QH):Q2s bt (Q9g t es n).2.1:=by
 injections bt t _ es n
 unfold PySem.relayAll
 split
 ·rename_i t' order e
  dsimp only
  split
  ·unfold SetTable.relaid at e
   rw [h.led]at e
   exact GoodT.laid e
  ·exact QAS _
 ·exact QAS _
end
end Mini
end
section
open PySem PySem.W PySem.Calls PyProof.Rows
set_option genInjectivity false
set_option genSizeOf false
namespace Mini
section
variable (prog:Program) (w:World)
mutual
def ERs (w:Q6I) (Λ:Lab):QC (X6×QU)->QC ZS->Prop
 | [],[]=>Q3x
 | (x,v)::r,e::es=>(∃t,e.key=.Xs x t)/\e.hash=QL Q0K x/\VR Λ v e.val/\ERs w Λ r es
 | _,_=>Yk
def OR (Λ:Lab):Ob->ZC->Prop
 | .any,_=>Q3x
 | .Qs xs,o=>∃vs n,o=Q4X Xt n/\VRs Λ xs vs
 | .YJ xs,o=>∃vs n,o={cls:=.Qk "tuple",YA:=.seq Xt n}/\VRs Λ xs vs
 | .Q01 Y4,o=>∃cvs,QED (knd XC w) o cvs/\Q5j (·.1)=Q2i (·.1)/\VRs Λ (Q2i (·.2)) (Q5j (·.2))
 | .set xs,o=>Q9h/\∃es ep t,Q6d/\Q1v=.set es ep t/\QEE (knd XC w) Q6L/\(∀k,k∈xs↔∃e∈Q6L,EM k e.2=QM)/\Z6 < Q47/\t.fits Z6=QM/\Z6=Qn/\Q2s (Aq w) t
 | .Q5C c d,o=>d < Xh/\o=instObj c (Xr d)
 | .Q1V Y4,o=>∃es,o=dictOf es Yo/\ERs w Λ Y4 es
 | .sub c xs,o=>∃vs n d,o={cls:=.QP c,Q01:=d,YA:=.seq Xt n}/\VRs Λ xs vs
 | .YQ v,o=>∃cv,Q1v=.YQ cv/\(match v,cv with | QG,QG=>Q3x | QB v,QB c=>VR Λ v c | _,_=>Yk)
 | .bm id v,o=>∃c,(o={cls:=.Qk "builtin_function_or_method",YA:=.Xo #[.Qd id,c]}\/o={cls:=.Qk "method-wrapper",YA:=.Xo #[.Qd id,c]})/\VR Λ v c
 | .raw o,o'=>o'=o
 | .Q7A a b k,o=>∃t u v,o={cls:=.Qk "range",YA:=.Xo #[.Qm a t,.Qm b u,.Qm k v]}
 | .QBv d,o=>d < Xh/\o={cls:=.Qk "dict_keys",YA:=.Xo #[.QP (Xr d)]}
 | .lam mk lc,o=>lc < Xh/\o=mk (Xr lc)
 | .QE2 fv tl,o=>tl < Xh/\∃fc,o={cls:=.Qk "map",YA:=.Xo #[.QP (Xr tl),fc]}/\VR Λ fv fc
 | .Q8m l i,o=>l < Xh/\Q4o=.Qk "list_iterator"/\Q1v=.Xo #[.QP (Xr l),.Qm i 0]
 | .Q9d f C,o=>o=methodObj (.QP f) (.QP C)
 | .Q4m ps n,o=>o=Q4X (Q13 fun p=>Q54 p.1 p.2).Xe n
 | .tab es,o=>(∀e∈es,e.2.2 < Xh)/\o=QC0 (Q98 fun e=>[Zm e.1,Zm e.2.1,.QP (Xr e.2.2)]).Xe
theorem B4 {α β:Type} {f g:α->QC β}:∀ {l:QC α},(∀x∈l,f x=g x)->l.flatMap f=l.flatMap g
 | [],_=>QA
 | x::r,h=>by rw [Q0R,Q0R,h x (.Zc _),B4 fun y hy=>h y (.Q31 _ hy)]
theorem ERs.ext {w:Q6I} {Λ Za:Lab} (e:Q0A Za):∀ {Y4:QC (X6×QU)} {es:QC ZS},ERs w Λ Y4 es->ERs w Za Y4 es
 | [],[],_=>ZN
 | _::_,_::_,h=>⟨h.1,h.2.1,h.2.2.1.ext e,ERs.ext e h.2.2.2⟩
 | [],_::_,h=>h
 | _::_,[],h=>h
end
variable {prog w}
theorem OR.ext {Λ Λ':Lab} (e:Λ.Ext Λ') {o:Ob} {c:Obj} (h:OR prog w Λ o c):OR prog w Λ' o c:=by
 injections prog w Λ Λ' _ o c _
 cases o
 case any=>trivial
 case list=>obtain ⟨vs,n,h,k⟩:=h;exact ⟨vs,n,h,k.ext e⟩
 case tuple=>obtain ⟨vs,n,h,k⟩:=h;exact ⟨vs,n,h,k.ext e⟩
 case dict=>obtain ⟨cvs,h,k,r⟩:=h;exact ⟨cvs,h,k,r.ext e⟩
 case inst c d=>exact ⟨Nat.lt_of_lt_of_le h.1 e.1,by rw [e.2 d h.1];exact h.2⟩
 case idict=>obtain ⟨es,h,k⟩:=h;exact ⟨es,h,k.ext e⟩
 case sub=>obtain ⟨vs,n,d,h,k⟩:=h;exact ⟨vs,n,d,h,k.ext e⟩
 case cell v=>obtain ⟨cv,h,k⟩:=h;exact ⟨cv,h,by cases v <;> cases cv <;> first | exact k | exact VR.ext e k⟩
 case bm=>obtain ⟨c,h,k⟩:=h;exact ⟨c,h,k.ext e⟩
 case keysv d=>exact ⟨Nat.lt_of_lt_of_le h.1 e.1,by rw [e.2 d h.1];exact h.2⟩
 case lam _ d=>exact ⟨Nat.lt_of_lt_of_le h.1 e.1,by rw [e.2 d h.1];exact h.2⟩
 case mapo _ d=>obtain ⟨h,fc,k,r⟩:=h;exact ⟨Nat.lt_of_lt_of_le h e.1,fc,by rw [e.2 d h];exact k,r.ext e⟩
 case liter d _=>obtain ⟨h,k,r⟩:=h;exact ⟨Nat.lt_of_lt_of_le h e.1,k,by rw [e.2 d h];exact r⟩
 case tab es=>exact ⟨fun x hx=>Nat.lt_of_lt_of_le (h.1 x hx) e.1,by rw [h.2];congr 2;exact B4 fun x hx=>by rw [e.2 _ (h.1 x hx)]⟩
 all_goals exact h
end
mutual
def OV (Λ:Lab):QW QU->QW QI->Prop
 | QB v,QB c=>VR Λ v c
 | QG,QG=>Q3x
 | _,_=>Yk
theorem OV.ext {Λ Za:Lab} (e:Q0A Za):∀ {v:QW QU} {c:QW QI},OV Λ v c->OV Za v c
 | QB _,QB _,h=>VR.ext e h
 | QG,QG,_=>ZN
 | QB _,QG,h=>h
 | QG,QB _,h=>h
structure Cx where
 XC:Q3F
 w:Q6I
 K:Q1A
 g:ZP
 p:Q3F
 QBt:QC X6
 mg:X6->QW QI
 mb:X6->QW QI
 O:OsState
structure Cx.Ok (c:Cx):Prop where
 inK:c.K.In c.g
 top:TopRead c.p c.loose c.mg c.mb c.g
 bmain:∃bm ob,c.mg "__builtins__"=QB (.QP bm)/\bm≠Q6e/\Q33 bm=QB ob/\ob.cls=.Qk "module"/\ob.dict=QB Q6e/\QGq=.Q4U
structure Fm where
 sc:Q0J
 cl:QC (X6×QH)
 cd:QI
 tb:QW (Qq×QH)
instance:Q25 Cx:=let ⟨w⟩:=(inferInstance:Q25 Q6I);⟨⟨Zs,w,Zs,Zs,Zs,[],fun _=>QG,fun _=>QG,{}⟩⟩
instance:Q25 Fm:=⟨⟨Zs,[],Zs,QG⟩⟩
structure Rel (c:Cx) (fz:Qq->QW ZC) (L:Qq) (Λ:Lab) (σ:St) (s:QZ):Prop where
 nn:Xh=QO
 ns:∃m,QAU L m/\∀x,OV Λ (Xv x) (m x)
 Q4V:∀b o,fz b=QB o->Qc b=QB o
 Q8Z:∀b o,Q33 b=QB o->fz b=QB o
 fzL:fz L=QG
 ob:∀l,l < Xh->∃o,Qc (Xr l)=QB o/\OR XI c.w Λ (QS l) o
 fzl:∀l,l < Xh->fz (Xr l)=QG
 lne:∀l,l < Xh->Xr l≠L
 inj:∀l l',l < Xh->l' < Xh->Xr l=Xr l'->l=l'
 Q4p:c.g.objs.size<=L
 low:Q3L < L
 nsm:∀l,l < Xh->(Xr l == Q3L)=QJ
 os:s.os=c.O
 Q0L:s.gens=#[]
def St.alloc (σ:St) (o:Ob):St:={σ with hp:=fun l=>if l=QO then o else QS l,nx:=QO+1}
def St.upd (σ:St) (l:QH) (o:Ob):St:={σ with hp:=fun k=>if k=l then o else QS k}
def St.set (σ:St) (x:X6) (v:QU):St:={σ with loc:=fun y=>if y=x then QB v else Xv y}
end
section
variable {c:Cx} {fz:Addr->Option Obj} {L:Addr} {Λ:Lab} {σ:St} {s:Shared}
mutual
theorem Rel.gkeep (R:Rel c fz L Λ σ s):∀b o,Q33 b=QB o->Qc b=QB o:=fun b o e=>Q48 b o (Q5D b o e)
theorem Rel.grow (R:Rel c fz L Λ σ s) {h':ZP} {tk:QH} {dr:Drawn} (hk:∀b o,Qc b=QB o->Z7 b=QB o):Rel c fz L Λ σ {s with YL:=h',Q0P:=tk,Q34:=dr} where
 nn:=Q3y
 ns:=let ⟨m,h,k⟩:=QC1;⟨m,h.keeps hk,k⟩
 Q4V:=fun b o e=>hk b o (Q48 b o e)
 Q8Z:=Q5D
 fzL:=Q6M
 ob:=fun l hl=>let ⟨o,h,k⟩:=Q63 l hl;⟨o,hk _ _ h,k⟩
 fzl:=Q5k
 lne:=Q5E
 inj:=Q7C
 Q4p:=Q3e
 low:=Q6N
 nsm:=Q8q
 os:=QCy
 Q0L:=Q64
theorem Rel.toks (R:Rel c fz L Λ σ s) {tk:QH}:Rel c fz L Λ σ {s with Q0P:=tk}:=R.grow (h':=QV) (tk:=tk) (dr:=Q1G) fun _ _ e=>e
theorem Rel.Llt (R:Rel c fz L Λ σ s):L < QD:=let ⟨_,h,_⟩:=QC1;h.lt
theorem Rel.push (R:Rel c fz L Λ σ s) {o:Ob} {co:ZC} {tk:QH} (ho:OR XI c.w (Z5 QD) o co) (hf:QC2=QJ) :
  Rel c fz L (Z5 QD) (Qw o) {s with YL:=XK co,Q0P:=tk}:=by
 injections c fz L Λ σ s _ o co tk _ _
 have hx:=XL Λ QD
 have fs:(Z5 QD).f Xh=QD:=QY QA
 have lt:∀l,l < Xh->Xr l < QD:=fun l hl=>let ⟨o,h,_⟩:=Q63 l hl;Qz h
 refine {nn:=by show Xh+1=QO+1;rw [Q3y],ns:=?_,Q4V:=fun b o e=>Qa _ (Q48 b o e),Q8Z:=Q5D,fzL:=Q6M,ob:=fun l hl=>?_,fzl:=fun l hl=>?_,lne:=fun l hl=>?_,inj:=fun l l' hl hl' e=>?_,Q4p:=Q3e,low:=Q6N,nsm:=fun l hl=>?_,os:=QCy,Q0L:=Q64}
 ·obtain ⟨m,h,k⟩:=QC1
  exact ⟨m,h.keeps fun b o e=>Qa _ e,fun x=>(k x).ext hx⟩
 ·by_cases h:l=Xh
  ·subst h
   refine ⟨co,by rw [fs];exact X2 _ hf,?_⟩
   have:(Qw o).hp Xh=o:=QY Q3y
   rw [this];exact ho
  ·have hl':l < Xh:=by have:l < Xh+1:=hl;exact BH h this
   obtain ⟨o',h1,h2⟩:=(Q63 l hl')
   refine ⟨o',by rw [hx.2 l hl'];exact Qa _ h1,?_⟩
   have:(Qw o).hp l=QS l:=QN (by rw [<- Q3y];exact h)
   rw [this];exact QEF hx
 ·by_cases h:l=Xh
  ·subst h
   rw [fs]
   cases q:fz QD with
   | QG=>rfl
   | QB o=>exact Xc (Qz (Q48 _ _ q)) (XY _)
  ·have hl':l < Xh:=by have:l < Xh+1:=hl;exact BH h this
   rw [hx.2 l hl'];exact Q5k l hl'
 ·by_cases h:l=Xh
  ·subst h;rw [fs];exact Yp R.Llt
  ·have hl':l < Xh:=by have:l < Xh+1:=hl;exact BH h this
   rw [hx.2 l hl'];exact Q5E l hl'
 ·have a1:l < Xh+1:=hl
  have a2:l' < Xh+1:=hl'
  by_cases h:l=Xh <;> by_cases h':l'=Xh
  ·rw [h,h']
  ·subst h
   have q:l' < Xh:=by exact Bl a2 h'
   rw [fs,hx.2 l' q]at e
   exact Xc (lt l' q) (by rw [<- e];exact XY _)
  ·subst h'
   have q:l < Xh:=by exact Bl a1 h
   rw [fs,hx.2 l q]at e
   exact Xc (lt l q) (by rw [e];exact XY _)
  ·have q:l < Xh:=by exact Bl a1 h
   have q':l' < Xh:=by exact Bl a2 h'
   rw [hx.2 l q,hx.2 l' q']at e
   exact Q7C l l' q q' e
 ·by_cases h:l=Xh
  ·subst h;rw [fs];exact Yi (Yp (Q1F Q6N R.Llt))
  ·have hl':l < Xh:=by have:l < Xh+1:=hl;exact BH h this
   rw [hx.2 l hl'];exact Q8q l hl'
theorem Rel.upd (R:Rel c fz L Λ σ s) {l:QH} {o:Ob} {co:ZC} {h':ZP} {tk:QH} (hl:l < QO) (hs:∀b o,b≠Xr l->Qc b=QB o->Z7 b=QB o) (hc:Z7 (Xr l)=QB co) (ho:OR XI c.w Λ o co) :
  Rel c fz L Λ (Yt l o) {s with YL:=h',Q0P:=tk}:=by
 have hl':l < Xh:=by rw [Q3y];exact hl
 refine {nn:=Q3y,ns:=?_,Q4V:=fun b o' e=>hs b o' (fun q=>?_) (Q48 b o' e),Q8Z:=Q5D,fzL:=Q6M,ob:=fun k hk=>?_,fzl:=Q5k,lne:=Q5E,inj:=Q7C,Q4p:=Q3e,low:=Q6N,nsm:=Q8q,os:=QCy,Q0L:=Q64}
 ·refine ew1 QC1 fun m yq2U=>?_;refine an2 yq2U fun h k=>?_;clear yq2U
  exact ⟨m,h.at' fun o e=>hs _ o (fun q=>Q5E l hl' q.symm) e,k⟩
 ·rw [q,Q5k l hl']at e;cases e
 ·by_cases h:k=l
  ·subst h
   refine ⟨co,hc,?_⟩
   have:(Yt k o).hp k=o:=QY QA
   rw [this];exact ho
  ·refine ew1 (Q63 k hk) fun o' yq2V=>?_;refine an2 yq2V fun h1 h2=>?_;clear yq2V
   refine ⟨o',hs _ _ (fun q=>h (Q7C k l hk hl' q)) h1,?_⟩
   have:(Yt l o).hp k=QS k:=QN h
   rw [this];exact h2
theorem Rel.set (R:Rel c fz L Λ σ s) {x:X6} {v:QU} {cv:QI} {h':ZP} {m:X6->QW QI} {tk:QH} (hm:QAU L m) (hv:VR Λ v cv) (hn:h'.Ns L (fun y=>if y=x then QB cv else m y)) (hs:Z8 L QV h') :
  Rel c fz L Λ (Q5F x v) {s with YL:=h',Q0P:=tk}:=by
 injections c fz L Λ σ s _ x v cv h' m tk _ _ _ _
 refine {nn:=Q3y,ns:=⟨_,hn,fun y=>?_⟩,Q4V:=fun b o e=>(hs.2 b fun q=>?_).QR (Q48 b o e),Q8Z:=Q5D,fzL:=Q6M,ob:=fun l hl=>?_,fzl:=Q5k,lne:=Q5E,inj:=Q7C,Q4p:=Q3e,low:=Q6N,nsm:=Q8q,os:=QCy,Q0L:=Q64}
 ·obtain ⟨m',h,k⟩:=QC1
  have e:m'=m:=by
   obtain ⟨o1,es1,ep1,a1,a2,_,a3⟩:=h
   obtain ⟨o2,es2,ep2,b1,b2,_,b3⟩:=hm
   funext y
   rw [a1]at b1;cases b1;rw [a2]at b2;cases b2
   rw [<- a3,<- b3]
  subst e
  show OV Λ (if y=x then QB v else Xv y) (if y=x then QB cv else m' y)
  split
  ·exact hv
  ·exact k y
 ·rw [q,Q6M]at e;cases e
 ·obtain ⟨o,h1,h2⟩:=(Q63 l hl)
  exact ⟨o,(hs.2 _ (Q5E l hl)).QR h1,h2⟩
end
end
end Mini
end
section
open PySem PySem.W PySem.Calls PyProof.Rows
set_option genInjectivity false
set_option genSizeOf false
namespace Mini
mutual
abbrev PT (β:Type):=St->(β->St->Prop)->Prop
structure Q4q (X0:Env) (fm:Fm) (Λ:Lab):Prop where
 sc:env.scope=Zo
 gl:Q7g=Q3W
 bl:env.builtins=Q6e
 kd:fm.sc.kind=.Q35
 cells:∀x l,Q1w x=QB l->l < Xh/\QAV x=QB (Xr l)
 cd:env.code=Q2M
 tb:∀P l,Q2N=QB (P,l)->l < Xh/\Xr l=P
theorem EnvOk.ext {X0:Env} {fm:Fm} {Λ Za:Lab} (h:Q4q X0 fm Λ) (e:Q0A Za):Q4q X0 fm Za :=
 ⟨h.sc,h.gl,h.bl,h.kd,fun x l hl=>let ⟨a,b⟩:=h.cells x l hl;⟨QQ a e.1,by rw [e.2 l a];exact b⟩,h.cd,fun P l hl=>let ⟨a,b⟩:=h.tb P l hl;⟨QQ a e.1,by rw [e.2 l a];exact b⟩⟩
def Zq {α β:Type} (c:Cx) (A:Q2t) (X0:Env) (fm:Fm) (Λ:Lab) (t:Sem α) (R:Lab->β->α->Prop) (σ:St) (P:β->St->Prop):Prop :=
 ∀fz s (Q:α->QZ->Prop) (E:QI->QZ->Prop),Q4q X0 fm Λ->Rel c fz Qo Λ σ s ->
  (∀Za s' b a XF,Q0A Za->P b XF->R Za b a->Rel c fz Qo Za XF s'->Q a s')->Qp (Qi XI c.w) A t Q E s
def UR:Lab->YV->YV->Prop:=fun _ _ _=>Q3x
def ER {α:Type}:Lab->α->α->Prop:=fun _ a b=>a=b
end
section
variable {α β γ δ:Type} {c:Cx} {A:Around} {env:Env} {fm:Fm} {Λ:Lab} {σ:St}
mutual
theorem Ze {a:α} {b:β} {R:Lab->β->α->Prop} {P:β->St->Prop} (hP:P b σ) (hR:R Λ b a):Zq c A X0 fm Λ (Pure.pure a) R σ P :=
 fun fz s Q E _ r k=>QF (k Λ s b a σ (.Q1H _) hP hR r)
theorem YK {t:Sem α} {f:α->Sem γ} {R:Lab->β->α->Prop} {R':Lab->δ->γ->Prop} {P:β->St->Prop} {P':δ->St->Prop} (h:Zq c A X0 fm Λ t R σ P)
  (k:∀Za b a XF,Q0A Za->P b XF->R Za b a->Zq c A X0 fm Za (f a) R' XF P'):Zq c A X0 fm Λ (t >>= f) R' σ P' :=
 fun fz s Q E ok r q=>Q9 (h fz s _ E ok r fun Za s' b a XF e hp hr r'=>k Za b a XF e hp hr fz s' Q E (Yl e) r' fun QFI s'' b' a' Q5Y e' hp' hr' r''=>q QFI s'' b' a' Q5Y (QBe e') hp' hr' r'')
theorem Sim.mono {t:Sem α} {R:Lab->β->α->Prop} {P P':β->St->Prop} (h:Zq c A X0 fm Λ t R σ P) (hP:∀b XF,P b XF->P' b XF):Zq c A X0 fm Λ t R σ P' :=
 fun fz s Q E ok r q=>h fz s Q E ok r fun Za s' b a XF e hp hr r'=>q Za s' b a XF e (hP _ _ hp) hr r'
theorem ZG {t:Sem α} {vs:QC QI} {R:Lab->β->α->Prop} {P:β->St->Prop} (h:Zq c A X0 fm Λ t R σ P):Zq c A X0 fm Λ (PySem.holding vs t) R σ P :=
 fun fz s Q E ok r q=>XX (h fz s Q E ok r q)
theorem QBE {t:Sem QI} {vs:QC QI} {R:Lab->β->QI->Prop} {P:β->St->Prop} (h:Zq c A X0 fm Λ t R σ P):Zq c A X0 fm Λ (Q8r vs t) R σ P :=
 fun fz s Q E ok r q=>wpAny_operating (h fz s Q E ok r q)
theorem Q0C {t:YV->Sem α} {XH:Pos} {R:Lab->β->α->Prop} {P:β->St->Prop} (h:Zq c A X0 fm Λ (t ()) R σ P):Zq c A X0 fm Λ (QGr XH >>= t) R σ P :=
 fun fz s Q E ok r q=>Q9 (Q0j (h fz s Q E ok r q))
theorem Sim.skip {t:YV->Sem α} {m:Sem YV} {R:Lab->β->α->Prop} {P:β->St->Prop} (hm:∀ {A:Q2t} {s:QZ} {Q:YV->QZ->Prop} {E:QI->QZ->Prop},Q () s->Qp (Qi XI c.w) A m Q E s) (h:Zq c A X0 fm Λ (t ()) R σ P):Zq c A X0 fm Λ (m >>= t) R σ P :=
 fun fz s Q E ok r q=>Q9 (hm (h fz s Q E ok r q))
theorem Xj {t:Sem α} {b:β} {R:Lab->β->α->Prop} {P:β->St->Prop} (hP:P b σ)
  (h:∀fz s (Q:α->QZ->Prop) (E:QI->QZ->Prop),Rel c fz Qo Λ σ s->(∀a tk,R Λ b a->Q a {s with Q0P:=tk})->Qp (Qi XI c.w) A t Q E s):Zq c A X0 fm Λ t R σ P :=
 fun fz s Q E ok r q=>h fz s Q E r fun a tk hR=>q Λ _ b a σ (.Q1H _) hP hR Q99
theorem Zn {t:Sem α} {R:Lab->β->α->Prop} {P:β->St->Prop} (h:∀fz s,Q4q X0 fm Λ->Rel c fz Qo Λ σ s->∀(Q:α->QZ->Prop) (E:QI->QZ->Prop),(∀Za s' b a XF,Q0A Za->P b XF->R Za b a->Rel c fz Qo Za XF s'->Q a s')->Qp (Qi XI c.w) A t Q E s):Zq c A X0 fm Λ t R σ P :=
 fun fz s Q E ok r q=>h fz s ok r Q E q
theorem Q9A {T:XA} {YA:Data} {o:Ob} {P:QU->St->Prop} (hz:sizeOk YA) (ho:∀Za,Q0A Za->OR XI c.w Za o {cls:=.Qk T,YA:=YA}) (hf:({cls:=.Qk T,YA:=YA}:ZC).isFreed=QJ) (hP:P (.QP QO) (Qw o)) :
  Zq c A X0 fm Λ (PySem.newObj (.Qk T) YA) VR σ P:=fun fz s Q E ok r q=>by
 refine Xk ?_ hz
 refine q (Z5 QD) _ (.QP QO) _ (Qw o) (XL _ _) hP ⟨?_,?_⟩ (Q9B (tk:=Y6) (ho _ (XL _ _)) hf)
 ·show QO < Xh+1;rw [Q3a];exact Xx _
 ·show _=Q1h (if QO=Xh then _ else _);rw [QY r.nn.symm]
end
end
noncomputable def BI (gl:Str->Option Value) (fm:Fm) (x:Str):PT Val:=fun σ P=>match fm.sc.names.lookup x with
 | some .local=>Ad (σ.loc x) fun v=>P v σ
 | some .cell=>Ad (fm.cl.lookup x) fun l=>BD (σ.hp l) fun u=>Ad u fun v=>P v σ
 | some .free=>Ad (fm.cl.lookup x) fun l=>BD (σ.hp l) fun u=>Ad u fun v=>P v σ
 | some .globalImplicit=>Ad (gl x) fun v=>P (.imm v) σ
 | _=>False
noncomputable def Br (fm:Fm) (x:Str) (v:Val):PT Unit:=fun σ P=>match fm.sc.names.lookup x with
 | some .local=>P () (σ.set x v)
 | some .cell=>Ad (fm.cl.lookup x) fun l=>BD (σ.hp l) fun _=>P () (σ.upd l (.cell (some v)))
 | _=>False
structure GlOk (c:Cx) (gl:Str->Option Value):Prop where
 is:∀x v,gl x=some v->(nsIn c.K mainGlobals x=some (some v))\/(nsIn c.K mainGlobals x=some none/\bootBuiltins x=some v/\x≠"__name__")
section
variable {c:Cx} {A:Around} {env:Env} {fm:Fm} {Λ:Lab} {σ:St} {gl:Str->Option Value}
mutual
theorem Gm {M:Model} {x:X6} {s:QZ} {Q:QI->QZ->Prop} {E:QI->QZ->Prop} (hk:Q7h=.Q35) (hx:Q6f x=QB .globalImplicit)
  (h:Qp M A (loadGlobal X0 x) Q E s):Qp M A (QFJ X0 x) Q E s:=by
 unfold QFJ
 simp only [QCz,hk,hx,ScopeKind.isAnnotationScope,Q7i,XQ,Zf]
 exact h
theorem Fv {x:X6} {P:QU->St->Prop} (hc:Q3M) (hg:GlOk c gl) (hx:(x == ("__classdict__":X6))=QJ) (h:BI gl fm x σ P):Zq c A X0 fm Λ (QFJ X0 x) VR σ P:=fun fz s Q E ok r q=>by
 have hk:Q7h=.Q35:=by rw [QC3];exact ok.kd
 have hko:Q6f x=ZH x:=by unfold Q9C;rw [QC3]
 have YQ:(Ad (Q1w x) fun l=>BD (QS l) fun u=>Ad u fun v=>P v σ)->∃l v cv,QAV x=QB (Xr l)/\QD0 (Xr l) (QB cv)/\VR Λ v cv/\P v σ:=by
  intro h
  refine Q2r h fun l hl h=>BD.el h fun u hu h=>Q2r h fun v hv h=>?_
  subst hv
  obtain (⟨h1,h2⟩):=QC4 x l hl
  refine ew1 (Q36 l h1) fun o yq3h=>?_;refine an2 yq3h fun ho hor=>?_;clear yq3h
  rw [hu]at hor
  obtain (⟨cv,a,b⟩):=hor
  cases cv with
  | QG=>exact b.elim
  | QB cv=>exact ⟨l,v,cv,h2,⟨o,ho,a⟩,b,h⟩
 unfold BI at h
 generalize e:ZH x=k at h
 rcases k with _ | k
 ·exact Qy
 cases k
 ·refine Q2r h fun v hv h=>?_
  refine ew1 r.ns fun m yq3i=>?_;refine an2 yq3i fun hm k=>?_;clear yq3i
  have kx:=k x
  rw [hv]at kx
  cases hmx:m x with
  | QG=>rw [hmx]at kx;exact kx.elim
  | QB cv =>
   rw [hmx]at kx
   exact wpAny_loadName_local hk (Q6O e) hm hmx (q Λ s v cv σ (.Q1H _) h kx r)
 ·refine ew3 (YQ h) fun l v cv yq3j=>?_;refine an4 yq3j fun a b d p=>?_;clear yq3j
  exact wpAny_loadName_cell hk (Q6O e) a b (q Λ s v cv σ (.Q1H _) p d r)
 ·refine ew3 (YQ h) fun l v cv yq3k=>?_;refine an4 yq3k fun a b d p=>?_;clear yq3k
  exact wpAny_loadName_free hk (Q6O e) a b (q Λ s v cv σ (.Q1H _) p d r) hx
 ·exact Qy
 ·refine Q2r h fun v hv h=>?_
  have fin:=q Λ s (.imm v) v σ (.Q1H _) h QA r
  have hT:=hc.top
  refine Gm hk (Q6O e) ?_
  rcases hg.is x v hv with a | ⟨a,b,d⟩
  ·exact loadGlobal_global (X0:=X0) (by rw [QGs];exact hT.g.keeps Q0H) (mg_of QEG hT.g a) fin
  ·exact loadGlobal_builtin (X0:=X0) (by rw [QGs];exact hT.g.keeps Q0H) (mg_none_of QEG hT.g a) (by rw [ok.bl];exact hT.b.keeps Q0H) ((hT.builtins x d).QR b) fin
theorem Ef {x:X6} {v:QU} {cv:QI} {P:YV->St->Prop} (hv:VR Λ v cv) (h:Br fm x v σ P):Zq c A X0 fm Λ (bindName X0 x cv) UR σ P:=fun fz s Q E ok r q=>by
 have hk:Q7h=.Q35:=by rw [QC3];exact ok.kd
 have hko:Q6f x=ZH x:=by unfold Q9C;rw [QC3]
 refine wpAny_bindName ?_
 unfold Br at h
 generalize e:ZH x=k at h
 rcases k with _ | k
 ·exact Qy
 cases k
 ·refine ew1 r.ns fun m yq3l=>?_;refine an2 yq3l fun hm k=>?_;clear yq3l
  refine wpAny_storeName_local (Q6O e) hm (fun h' hn hs=>q Λ _ () () _ (.Q1H _) h ZN (r.set hm hv hn hs)) (by rw [hk];rfl)
 ·refine Q2r h fun l hl h=>BD.el h fun u hu h=>?_
  obtain (⟨h1,h2⟩):=QC4 x l hl
  refine ew1 (Q36 l h1) fun o yq3m=>?_;refine an2 yq3m fun ho hor=>?_;clear yq3m
  rw [hu]at hor
  obtain (⟨cv',a,_⟩):=hor
  refine wpAny_storeName_cell hk (Q6O e) h2 ⟨o,ho,a⟩ fun h' hi hs=>?_
  obtain (⟨o',ho',hd'⟩):=hi
  exact q Λ _ () () _ (.Q1H _) h ZN (QDS (tk:=Y6) (by rw [<- Q3a];exact h1) (fun b o hb e=>(hs.2 b hb).QR e) ho' ⟨_,hd',hv⟩)
 ·exact Qy
 ·exact Qy
 ·exact Qy
end
end
end Mini
end
section
open PySem PySem.W PySem.Calls PyProof.Rows
namespace Mini
theorem Ns.uniq {h:Heap} {L:Addr} {m m':Str->Option Value} (a:h.Ns L m) (b:h.Ns L m'):m=m':=by
 injections h L m m' _ _
 obtain ⟨o1,es1,ep1,a1,a2,_,a3⟩:=a
 obtain ⟨o2,es2,ep2,b1,b2,_,b3⟩:=b
 funext y
 rw [a1]at b1;cases b1;rw [a2]at b2;cases b2
 rw [<- a3,<- b3]
section
variable {c:Cx} {fz:Addr->Option Obj} {L:Addr} {Λ:Lab} {σ:St} {s:Shared}
mutual
theorem Rel.growL (R:Rel c fz L Λ σ s) {h':ZP} {tk:QH} {m:X6->QW QI} (hm:QAU L m) (hm':h'.Ns L m) (hk:∀b o,b≠L->Qc b=QB o->Z7 b=QB o):Rel c fz L Λ σ {s with YL:=h',Q0P:=tk} where
 nn:=Q3y
 ns:=let ⟨m1,h,k⟩:=QC1;⟨m,hm',fun x=>by rw [Ns.uniq hm h];exact k x⟩
 Q4V:=fun b o e=>hk b o (fun q=>by rw [q,Q6M]at e;cases e) (Q48 b o e)
 Q8Z:=Q5D
 fzL:=Q6M
 ob:=fun l hl=>let ⟨o,h,k⟩:=Q63 l hl;⟨o,hk _ _ (Q5E l hl) h,k⟩
 fzl:=Q5k
 lne:=Q5E
 inj:=Q7C
 Q4p:=Q3e
 low:=Q6N
 nsm:=Q8q
 os:=QCy
 Q0L:=Q64
def AL (g:ZP) (L:Qq) (h:ZP):QC (Qq×ZC):=(X5 QFK).QDT fun b=>if b=L\/(QC5 b).QAT=QM then QG else (Q03 b).map (b,·)
theorem BS {g:ZP} {L:Qq} {h:ZP} {b:Qq} {o:ZC}:(b,o)∈AL g L h↔b≠L/\QC5 b=QG/\Q03 b=QB o:=by
 injections g L h b o
 unfold AL
 rw [List.mem_filterMap]
 constructor
 ·intros Q2T
  obtain ⟨a,ha,e⟩:=Q2T
  split at e
  ·cases e
  ·rename_i hn
   cases hq:Q03 a with
   | QG=>rw [hq]at e;cases e
   | QB o' =>
    injections o' zI
    rw [hq]at e
    simp only [Option.map_some,Option.some.injEq,Prod.mk.injEq]at e
    obtain ⟨QA,QA⟩:=e
    refine ⟨fun q=>hn (.inl q),?_,hq⟩
    cases hg:QC5 a with
    | QG=>rfl
    | QB _=>exact Xc (.inr (by rw [hg];rfl)) hn
 ·intros Q6g
  obtain ⟨h1,h2,h3⟩:=Q6g
  refine ⟨b,List.mem_range.mpr (Qz h3),?_⟩
  rw [QN (by rw [h2];simp [h1]),h3];rfl
theorem BZ {g:ZP} {L:Qq} {h:ZP}:News g L h (AL g L h):=fun p hp=>let ⟨a,b,d⟩:=BS.mp hp;⟨d,a,b⟩
theorem Rel.fr (R:Rel c fz L Λ σ s):∃m,Fr c.g L QV m/\∀x,OV Λ (Xv x) (m x):=let ⟨m,h,k⟩:=QC1;⟨m,⟨h,R.gkeep,Q3e⟩,k⟩
theorem Gr {g:ZP} {L:Qq} {h h':ZP} {m:X6->QW QI} {X:QC (Qq×ZC)} (F:Fr g L h m) (F':Fr g L h' m) (N:News g L h' (X++AL g L h)):∀b o,b≠L->Q03 b=QB o->Z7 b=QB o:=fun b o hb e=>by
 cases hg:QC5 b with
 | QB o' =>
  have:=F.keep b o' hg
  rw [e]at this
  cases this
  exact F'.keep b o hg
 | QG=>exact (N (b,o) (Q7M _ (BS.mpr ⟨hb,hg,e⟩))).1
theorem Rel.lists (R:Rel c fz L Λ σ s) {l:QH} {xs:QC QU} (hl:l < QO) (h:QS l=.Qs xs):∃vs n,Qc (Xr l)=QB (Q4X Xt n)/\VRs Λ xs vs:=by
 refine ew1 (Q63 l (by rw [Q3y];exact hl)) fun o yq3U=>?_;refine an2 yq3U fun ho hor=>?_;clear yq3U
 rw [h]at hor
 obtain (⟨vs,n,QA,k⟩):=hor
 exact ⟨vs,n,ho,k⟩
theorem Rel.listsV (R:Rel c fz L Λ σ s) {l:QH} {xs:QC QU} {a:QI} (hv:VR Λ (.QP l) a) (h:QS l=.Qs xs):a=.QP (Xr l)/\l < QO/\∃vs n,Qc (Xr l)=QB (Q4X Xt n)/\VRs Λ xs vs :=
 ⟨hv.2,by rw [<- Q3y];exact hv.1,R.lists (by rw [<- Q3y];exact hv.1) h⟩
theorem Al {h:ZP} {a:Qq} {vs:QC QI} {n:QH} (e:Q03 a=QB (Q4X Xt n)):h.IsList a Xt:=⟨_,e,QA,n,QA⟩
theorem Rel.made (R:Rel c fz L Λ σ s) {h':ZP} {tk:QH} {m:X6->QW QI} {a:Qq} {o:Ob} {co:ZC} (F:Fr c.g L QV m) (F':Fr c.g L h' m) (N:News c.g L h' ((a,co)::AL c.g L QV)) (ha:QD<=a) (ho:OR XI c.w (Z5 a) o co) :
  Rel c fz L (Z5 a) (Qw o) {s with YL:=h',Q0P:=tk}:=by
 injections c fz L Λ σ s _ h' tk m a o co _ _ _ _ _
 have hk:=Gr (X:=[(a,co)]) F F' N
 have hx:=XL Λ a
 have fs:(Z5 a).f Xh=a:=QY QA
 have new:Z7 a=QB co:=(N (a,co) (.Zc _)).1
 have lt:∀l,l < Xh->Xr l < QD:=fun l hl=>let ⟨o,h,_⟩:=Q63 l hl;Qz h
 have R1:Rel c fz L Λ σ {s with YL:=h',Q0P:=tk}:=R.growL F.ns F'.ns hk
 refine {nn:=by show Xh+1=QO+1;rw [Q3y],ns:=?_,Q4V:=R1.keep,Q8Z:=Q5D,fzL:=Q6M,ob:=fun l hl=>?_,fzl:=fun l hl=>?_,lne:=fun l hl=>?_,inj:=fun l l' hl hl' e=>?_,Q4p:=Q3e,low:=Q6N,nsm:=fun l hl=>?_,os:=QCy,Q0L:=Q64}
 ·obtain ⟨m,h,k⟩:=R1.ns
  exact ⟨m,h,fun x=>(k x).ext hx⟩
 ·by_cases h:l=Xh
  ·subst h
   refine ⟨co,by rw [fs];exact new,?_⟩
   have:(Qw o).hp Xh=o:=QY Q3y
   rw [this];exact ho
  ·have hl':l < Xh:=by have:l < Xh+1:=hl;exact BH h this
   obtain ⟨o',h1,h2⟩:=(R1.ob l hl')
   refine ⟨o',by rw [hx.2 l hl'];exact h1,?_⟩
   have:(Qw o).hp l=QS l:=QN (by rw [<- Q3y];exact h)
   rw [this];exact QEF hx
 ·by_cases h:l=Xh
  ·subst h
   rw [fs]
   cases q:fz a with
   | QG=>rfl
   | QB o=>exact Xc (Qz (Q48 _ _ q)) (ZI ha)
  ·have hl':l < Xh:=by have:l < Xh+1:=hl;exact BH h this
   rw [hx.2 l hl'];exact Q5k l hl'
 ·by_cases h:l=Xh
  ·subst h;rw [fs];exact (N (a,co) (.Zc _)).2.1
  ·have hl':l < Xh:=by have:l < Xh+1:=hl;exact BH h this
   rw [hx.2 l hl'];exact Q5E l hl'
 ·have a1:l < Xh+1:=hl
  have a2:l' < Xh+1:=hl'
  by_cases h:l=Xh <;> by_cases h':l'=Xh
  ·rw [h,h']
  ·subst h
   have q:l' < Xh:=by exact Bl a2 h'
   rw [fs,hx.2 l' q]at e
   exact Xc (e▸lt l' q) (ZI ha)
  ·subst h'
   have q:l < Xh:=by exact Bl a1 h
   rw [fs,hx.2 l q]at e
   exact Xc (e▸lt l q) (ZI ha)
  ·have q:l < Xh:=by exact Bl a1 h
   have q':l' < Xh:=by exact Bl a2 h'
   rw [hx.2 l q,hx.2 l' q']at e
   exact Q7C l l' q q' e
 ·by_cases h:l=Xh
  ·subst h;rw [fs];exact Yi (Yp (QQ (Q1F Q6N R.Llt) ha))
  ·have hl':l < Xh:=by have:l < Xh+1:=hl;exact BH h this
   rw [hx.2 l hl'];exact Q8q l hl'
theorem Q1i {Λ:Lab} {σ:St} (a:Qq) (h:Xh=QO):VR (Z5 a) (.QP QO) (.QP a):=⟨by show QO < Xh+1;rw [h];exact Xx _,by show _=Q1h (if QO=Xh then _ else _);rw [QY QGO]⟩
end
end
noncomputable def M9 (a b:Ob):PT Val:=fun σ P=>match a with
 | .list xs=>(match b with
  | .list ys=>xs.length+ys.length<=sizeLine/\P (.ref σ.nx) (σ.alloc (.list (xs++ys)))
  | _=>False)
 | _=>False
noncomputable def M8 (a b:Val) (f:Int->Int->Prop):Prop:=match a with
 | .int x=>(match b with
  | .int y=>f x y
  | _=>False)
 | _=>False
noncomputable def aeY (a b:Val):PT Val:=fun σ P=>match a with
 | .int x=>(match b with
  | .int y=>P (.int (x+y)) σ
  | _=>False)
 | .str x=>(match b with
  | .str y=>x.length+y.length<=sizeLine/\P (.str (x++y)) σ
  | _=>False)
 | .ref l=>(match b with
  | .ref k=>M9 (σ.hp l) (σ.hp k) σ P
  | _=>False)
 | _=>False
noncomputable def aeX (a b:Val):PT Val:=fun σ P=>match a with
 | .int x=>(match b with
  | .int y=>(Builtin.Int.intBits x<=64\/Builtin.Int.intBits y<=64)/\P (.int (x*y)) σ
  | _=>False)
 | .str x=>(match b with
  | .int y=>MulOk x y/\P (.str (Txt.mul x y)) σ
  | _=>False)
 | _=>False
noncomputable def CP (op:Operator) (a b:Val):PT Val:=fun σ P=>match op with
 | .Add=>aeY a b σ P
 | .Sub=>M8 a b fun x y=>P (.int (x - y)) σ
 | .Mult=>aeX a b σ P
 | .FloorDiv=>M8 a b fun x y=>y≠0/\Builtin.divisionGoesByPylong x y=false/\P (.int (x.fdiv y)) σ
 | .Mod=>M8 a b fun x y=>y≠0/\P (.int (x.fmod y)) σ
 | .Pow=>M8 a b fun x y=>0<=y/\(Builtin.Int.intBits x:Int)*y<=2 ^ 27/\P (.int (x ^ y.toNat)) σ
 | _=>False
section
variable {c:Cx} {A:Around} {env:Env} {fm:Fm} {Λ:Lab} {σ:St}
mutual
theorem E7 {op:Q6P} {a b:QU} {x y:QI} {P:QU->St->Prop} {f:X3->X3->Prop} (ha:VR Λ a x) (hb:VR Λ b y) (h:M8 a b f) (k:∀i j t u,f i j->Zq c A X0 fm Λ (QFL op (.Qm i t) (.Qm j u)) VR σ P):Zq c A X0 fm Λ (QFL op x y) VR σ P:=by
 cases a
 case Qm i =>
  cases b
  case Qm j =>
   obtain (⟨t,QA⟩):=ha
   obtain (⟨u,QA⟩):=hb
   exact k i j t u h
  all_goals exact Qy
 all_goals exact Qy
theorem OQ {op:Q6P} {a b:QU} {x y:QI} {P:QU->St->Prop} (ha:VR Λ a x) (hb:VR Λ b y) (h:CP op a b σ P):Zq c A X0 fm Λ (QFL op x y) VR σ P:=by
 cases op
 case Sub=>exact E7 ha hb h fun i j t u h=>Xj h fun fz s Q E r q=>sub_int (q _ _ ⟨_,QA⟩)
 case FloorDiv=>exact E7 ha hb h fun i j t u h=>Xj h.2.2 fun fz s Q E r q=>floordiv_int h.1 (q _ _ ⟨_,QA⟩) (.inl h.2.1)
 case Mod=>exact E7 ha hb h fun i j t u h=>Xj h.2 fun fz s Q E r q=>mod_int' h.1 (q _ _ ⟨_,QA⟩)
 case Pow=>exact E7 ha hb h fun i j t u h=>Xj h.2.2 fun fz s Q E r q=>pow_int h.1 h.2.1 (q _ _ ⟨_,QA⟩)
 case Mult =>
  cases a
  case Qm i =>
   cases b
   case Qm j =>
    obtain (⟨t,QA⟩):=ha;obtain (⟨u,QA⟩):=hb
    exact Xj (QDU h) fun fz s Q E r q=>mul_int (q _ _ ⟨_,QA⟩) (Q6h (QFM h) IntMulOk.of_left IntMulOk.of_right)
   all_goals exact Q1P h
  case Xs i =>
   cases b
   case Qm j =>
    obtain (⟨t,QA⟩):=ha;obtain (⟨u,QA⟩):=hb
    exact Xj (QDU h) fun fz s Q E r q=>SB.mul (QFM h) (fun t' tk=>q _ _ ⟨_,QA⟩)
   all_goals exact Q1P h
  all_goals exact Q1P h
 case Add =>
  cases a
  case Qm i =>
   cases b
   case Qm j =>
    obtain (⟨t,QA⟩):=ha;obtain (⟨u,QA⟩):=hb
    exact Xj h fun fz s Q E r q=>add_int (q _ _ ⟨_,QA⟩)
   all_goals exact Q1P h
  case Xs i =>
   cases b
   case Xs j =>
    obtain (⟨t,QA⟩):=ha;obtain (⟨u,QA⟩):=hb
    exact Xj (QDU h) fun fz s Q E r q=>add_str (fun t' tk=>q _ _ ⟨_,QA⟩) (QFM h)
   all_goals exact Q1P h
  case QP l =>
   cases b
   case QP k =>
    have h':M9 (QS l) (QS k) σ P:=h
    clear h
    cases e1:QS l <;> rw [e1]at h'
    case Qs xs =>
     cases e2:QS k <;> rw [e2]at h'
     case Qs ys =>
      refine Zn fun fz s ok r Q E q=>?_
      refine an3 (Q0t ha e1) fun yq3X _ yq3Y=>?_;obtain QA:=yq3X;refine ew2 yq3Y fun vs n yq3Z=>?_;refine an2 yq3Z fun h1 h2=>?_;clear yq3Y yq3Z
      refine an3 (Q0t hb e2) fun yq40 _ yq41=>?_;obtain QA:=yq40;refine ew2 yq41 fun ws n' yq42=>?_;refine an2 yq42 fun h3 h4=>?_;clear yq41 yq42
      refine ew1 r.fr fun m yq43=>?_;refine an2 yq43 fun F _=>?_;clear yq43
      refine add_arrays F BZ (Al h1) (Al h3) (fun h'' F' N'=>?_) (by simp [<- h2.length,<- h4.length];exact h'.1)
      have:=r.made (tk:=Y6) (o:=.Qs (xs++ys)) F F' N' (Qh _) ⟨vs++ws,0,by simp,(h2.append h4).ext (XL _ _)⟩
      exact q _ _ _ _ _ (XL _ _) h'.2 (Q1i _ Q3a) this
     all_goals exact h'.elim
    all_goals exact h'.elim
   all_goals exact Q1P h
  all_goals exact Q1P h
 all_goals exact Q1P h
end
end
end Mini
end
section
open PySem PySem.W PySem.Calls PyProof.Rows
set_option genInjectivity false
set_option genSizeOf false
namespace Mini
structure AOk (A:Around):Prop where
 handled:A.handled=none
 units:A.units+200 < cLine
 depth:A.depth+10 < recursionLimit
mutual
inductive DV (hp:Nat->Ob):Val->Dat->Prop
 | none:DV hp .none .none
 | int (i:Int):DV hp (.int i) (.int i)
 | str (x:Str):DV hp (.str x) (.str x)
 | tuple {l:Nat} {xs:List Val} {ds:List Dat}:hp l=.tuple xs->DVs hp xs ds->DV hp (.ref l) (.tuple ds)
 | list {l:Nat} {xs:List Val} {ds:List Dat}:hp l=.list xs->DVs hp xs ds->DV hp (.ref l) (.list ds)
inductive DVs (hp:Nat->Ob):List Val->List Dat->Prop
 | nil:DVs hp [] []
 | cons {v:Val} {vs:List Val} {d:Dat} {ds:List Dat}:DV hp v d->DVs hp vs ds->DVs hp (v::vs) (d::ds)
end
section
variable {c:Cx} {fz:Addr->Option Obj} {L:Addr} {Λ:Lab} {σ:St} {s:Shared}
mutual
theorem Rel.mem (R:Rel c fz L Λ σ s) {l:QH} (hl:l < Xh) {o:ZC} (h:Qc (Xr l)=QB o):(Xr l,o)∈AL c.g L QV:=by
 refine BS.mpr ⟨Q5E l hl,?_,h⟩
 cases q:Q33 (Xr l) with
 | QG=>rfl
 | QB o'=>have:=Q5D _ _ q;rw [Q5k l hl]at this;cases this
theorem Rel.datR (R:Rel c fz L Λ σ s):(∀ {v:QU} {d:Dat},DV QS v d->∀a:QI,VR Λ v a->Q9i (AL c.g L QV) a d)/\(∀ {vs:QC QU} {ds:QC Dat},DVs QS vs ds->∀as:QC QI,VRs Λ vs as->Q7j (AL c.g L QV) as ds):=by
 injections c fz L Λ σ s _
 have h1:∀a,VR Λ .QG a->Q9i (AL c.g L QV) a .QG:=fun a h=>by cases h;exact .QG
 have h2:∀i a,VR Λ (.Qm i) a->Q9i (AL c.g L QV) a (.Qm i):=fun i a h=>by obtain (⟨t,QA⟩):=h;exact .Qm _ _
 have h3:∀i a,VR Λ (.Xs i) a->Q9i (AL c.g L QV) a (.Xs i):=fun i a h=>by obtain (⟨t,QA⟩):=h;exact .Xs _ _
 have h4:∀ {l:QH} {xs:QC QU} {ds:QC Dat},QS l=.YJ xs->DVs QS xs ds->(∀as,VRs Λ xs as->Q7j (AL c.g L QV) as ds)->∀a,VR Λ (.QP l) a->Q9i (AL c.g L QV) a (.YJ ds):=fun {l xs ds} e _ ih a h=>by
  refine ew1 (Q63 l h.1) fun o yq44=>?_;refine an2 yq44 fun ho hor=>?_;clear yq44
  rw [e]at hor
  obtain (⟨vs,n,QA,hv⟩):=hor
  rw [h.2]
  exact .YJ (R.mem h.1 ho) (ih _ hv)
 have h5:∀ {l:QH} {xs:QC QU} {ds:QC Dat},QS l=.Qs xs->DVs QS xs ds->(∀as,VRs Λ xs as->Q7j (AL c.g L QV) as ds)->∀a,VR Λ (.QP l) a->Q9i (AL c.g L QV) a (.Qs ds):=fun {l xs ds} e _ ih a h=>by
  refine ew1 (Q63 l h.1) fun o yq45=>?_;refine an2 yq45 fun ho hor=>?_;clear yq45
  rw [e]at hor
  obtain (⟨vs,n,QA,hv⟩):=hor
  rw [h.2]
  exact .Qs (R.mem h.1 ho) (ih _ hv)
 have h6:∀as,VRs Λ [] as->Q7j (AL c.g L QV) as []:=fun as h=>by cases h;exact .Zl
 have h7:∀ {v:QU} {vs:QC QU} {d:Dat} {ds:QC Dat},DV QS v d->DVs QS vs ds->(∀a,VR Λ v a->Q9i (AL c.g L QV) a d)->(∀as,VRs Λ vs as->Q7j (AL c.g L QV) as ds)->∀as,VRs Λ (v::vs) as->Q7j (AL c.g L QV) as (d::ds):=fun _ _ i1 i2 as h=>by
  cases h with | Xu h hs=>exact .Xu (i1 _ h) (i2 _ hs)
 exact ⟨fun k=>DV.rec (Q4Y:=fun v d _=>∀a,VR Λ v a->Q9i (AL c.g L QV) a d) (motive_2:=fun vs ds _=>∀as,VRs Λ vs as->Q7j (AL c.g L QV) as ds) h1 h2 h3 h4 h5 h6 h7 k,fun k=>DVs.rec (Q4Y:=fun v d _=>∀a,VR Λ v a->Q9i (AL c.g L QV) a d) (motive_2:=fun vs ds _=>∀as,VRs Λ vs as->Q7j (AL c.g L QV) as ds) h1 h2 h3 h4 h5 h6 h7 k⟩
theorem Rel.dat (R:Rel c fz L Λ σ s) {v:QU} {d:Dat} {a:QI} (k:DV QS v d) (h:VR Λ v a):Q9i (AL c.g L QV) a d:=R.datR.1 k a h
theorem Rel.dats (R:Rel c fz L Λ σ s) {vs:QC QU} {ds:QC Dat} {as:QC QI} (k:DVs QS vs ds) (h:VRs Λ vs as):Q7j (AL c.g L QV) as ds:=R.datR.2 k as h
end
end
noncomputable def Ob.own:Ob->Bool
 | .list _ | .dict _ | .set _ | .inst _ _ | .idict _ | .sub _ _=>true
 | _=>false
noncomputable def EF (f:Int->Int->Bool) (a b:Val):PT Val:=fun σ P=>match a with
 | .int x=>(match b with
  | .int y=>P (.bool (f x y)) σ
  | _=>False)
 | _=>False
open Classical in
noncomputable def aeW (a b:Val):PT Val:=fun σ P=>match a with
 | .int x=>(match b with
  | .int y=>P (.bool (x == y)) σ
  | _=>False)
 | .str x=>(match b with
  | .str y=>P (.bool (x == y)) σ
  | _=>False)
 | .ref l=>(match b with
  | .ref k=>Af (σ.hp l) fun xs=>Af (σ.hp k) fun ys=>∃ds es,DVs σ.hp xs ds/\DVs σ.hp ys es/\(∀d∈ds,kqdOk 8 d=true)/\(∀d∈es,kqdOk 8 d=true)/\P (.bool (decide (ds=es))) σ
  | _=>False)
 | _=>False
open Classical in
noncomputable def aeT (a b:Val):PT Val:=fun σ P=>match a with
 | .int x=>(match b with
  | .int y=>P (.bool (x != y)) σ
  | _=>False)
 | .str x=>(match b with
  | .str y=>P (.bool (x != y)) σ
  | _=>False)
 | .ref l=>(match b with
  | .ref k=>Af (σ.hp l) fun xs=>Af (σ.hp k) fun ys=>∃ds es,DVs σ.hp xs ds/\DVs σ.hp ys es/\(∀d∈ds,kqdOk 8 d=true)/\(∀d∈es,kqdOk 8 d=true)/\P (.bool (!decide (ds=es))) σ
  | _=>False)
 | _=>False
noncomputable def isNone:Val->Bool
 | .none=>true
 | .imm v=>v == .none
 | _=>false
noncomputable def aeU (a b:Val):PT Val:=fun σ P=>match b with
 | .none=>P (.bool (isNone a)) σ
 | .bool y=>(match a with
  | .bool x=>P (.bool (x == y)) σ
  | _=>False)
 | .ref k=>(match a with
  | .ref l=>(σ.hp l).own=true/\P (.bool (decide (l=k))) σ
  | _=>False)
 | _=>False
noncomputable def KD (a b:Val):PT Val:=fun σ P=>match b with
 | .none=>P (.bool (!isNone a)) σ
 | .bool y=>(match a with
  | .bool x=>P (.bool (!(x == y))) σ
  | _=>False)
 | .ref k=>(match a with
  | .ref l=>(σ.hp l).own=true/\P (.bool (!decide (l=k))) σ
  | _=>False)
 | _=>False
open Classical in
noncomputable def aeV (v b:Val):PT Val:=fun σ P=>Ai b fun k=>Af (σ.hp k) fun ys=>∃d es,DV σ.hp v d/\DVs σ.hp ys es/\kqdOk 8 d=true/\(∀d∈es,kqdOk 8 d=true)/\P (.bool (decide (d∈es))) σ
open Classical in
noncomputable def KC (v b:Val):PT Val:=fun σ P=>Ai b fun k=>Af (σ.hp k) fun ys=>∃d es,DV σ.hp v d/\DVs σ.hp ys es/\kqdOk 8 d=true/\(∀d∈es,kqdOk 8 d=true)/\P (.bool (!decide (d∈es))) σ
noncomputable def BK (op:CmpOp) (a b:Val):PT Val:=match op with
 | .Eq=>aeW a b
 | .NotEq=>aeT a b
 | .Lt=>EF (fun x y=>decide (x < y)) a b
 | .LtE=>EF (fun x y=>decide (x<=y)) a b
 | .Gt=>EF (fun x y=>decide (y < x)) a b
 | .GtE=>EF (fun x y=>decide (y<=x)) a b
 | .Is=>aeU a b
 | .IsNot=>KD a b
 | .In=>aeV a b
 | .NotIn=>KC a b
section
variable {c:Cx} {A:Around} {env:Env} {fm:Fm} {Λ:Lab} {σ:St}
mutual
theorem Ji (x y:Qu):(Value.bool x == Value.bool y)=(x == y):=by cases x <;> cases y <;> rfl
theorem KI {o:Ob} {co:ZC} (h:o.own=QM) (k:OR XI c.w Λ o co):co.cls≠.Qk "tuple":=by
 injections c Λ o co _ _
 cases o <;> first | exact Xc h Qj | skip
 ·obtain ⟨vs,n,QA,_⟩:=k;simp
 ·obtain ⟨cvs,⟨es,ep,he,_⟩,_⟩:=k;rw [he.1];simp
 ·obtain ⟨_,es,ep,t,he,_⟩:=k;rw [he.1];simp
 ·rw [k.2];simp
 ·obtain ⟨es,QA,_⟩:=k;simp
 ·obtain ⟨vs,n,d,QA,_⟩:=k;simp
theorem TB {l k:QH} {x y:QI} {Q:QI->QZ->Prop} {E:QI->QZ->Prop} {fz:Qq->QW ZC} {s:QZ} (r:Rel c fz Qo Λ σ s) (ha:VR Λ (.QP l) x) (hb:VR Λ (.QP k) y) (ho:(QS l).own=QM) (h:Q (.Yn (XV (l=k))) s) :
  Qp (Qi XI c.w) A (Q0q .Is x y) Q E s:=by
 obtain (⟨h1,QA⟩):=ha
 obtain (⟨h2,QA⟩):=hb
 by_cases e:l=k
 ·subst e;rw [Yu QA]at h;exact wpAny_is_ref_self h
 ·rw [Yf e]at h
  refine ew1 (Q36 l h1) fun o1 yq46=>?_;refine an2 yq46 fun a1 b1=>?_;clear yq46
  refine ew1 (Q36 k h2) fun o2 yq47=>?_;refine an2 yq47 fun a2 b2=>?_;clear yq47
  exact wpAny_is_ref_other (fun q=>e (r.inj l k h1 h2 q)) a1 a2 (KI ho b1) h
theorem Ln {l k:QH} {x y:QI} {Q:QI->QZ->Prop} {E:QI->QZ->Prop} {fz:Qq->QW ZC} {s:QZ} (r:Rel c fz Qo Λ σ s) (ha:VR Λ (.QP l) x) (hb:VR Λ (.QP k) y) (ho:(QS l).own=QM) (h:Q (.Yn (!XV (l=k))) s) :
  Qp (Qi XI c.w) A (Q0q .QFN x y) Q E s:=by
 obtain (⟨h1,QA⟩):=ha
 obtain (⟨h2,QA⟩):=hb
 by_cases e:l=k
 ·subst e;rw [Yu QA]at h;exact wpAny_isNot_ref_self h
 ·rw [Yf e]at h
  refine ew1 (Q36 l h1) fun o1 yq48=>?_;refine an2 yq48 fun a1 b1=>?_;clear yq48
  refine ew1 (Q36 k h2) fun o2 yq49=>?_;refine an2 yq49 fun a2 b2=>?_;clear yq49
  exact wpAny_isNot_ref_other (fun q=>e (r.inj l k h1 h2 q)) a1 a2 (KI ho b1) h
theorem Tz {a b:QU} {x y:QI} {P:QU->St->Prop} (ha:VR Λ a x) (hb:VR Λ b y) (h:EF (fun x y=>XV (x < y)) a b σ P):Zq c A X0 fm Λ (Q0q .Lt x y) VR σ P:=by
 cases a <;> try exact Qy
 cases b <;> try exact Qy
 obtain (⟨t,QA⟩):=ha;obtain (⟨u,QA⟩):=hb
 exact Xj h fun fz s Q E r q=>lt_int (q _ _ QA)
theorem TA {a b:QU} {x y:QI} {P:QU->St->Prop} (ha:VR Λ a x) (hb:VR Λ b y) (h:EF (fun x y=>XV (x<=y)) a b σ P):Zq c A X0 fm Λ (Q0q .LtE x y) VR σ P:=by
 cases a <;> try exact Qy
 cases b <;> try exact Qy
 obtain (⟨t,QA⟩):=ha;obtain (⟨u,QA⟩):=hb
 exact Xj h fun fz s Q E r q=>le_int (q _ _ QA)
theorem TD {a b:QU} {x y:QI} {P:QU->St->Prop} (ha:VR Λ a x) (hb:VR Λ b y) (h:EF (fun x y=>XV (y < x)) a b σ P):Zq c A X0 fm Λ (Q0q .Gt x y) VR σ P:=by
 cases a <;> try exact Qy
 cases b <;> try exact Qy
 obtain (⟨t,QA⟩):=ha;obtain (⟨u,QA⟩):=hb
 exact Xj h fun fz s Q E r q=>gt_int (q _ _ QA)
theorem TE {a b:QU} {x y:QI} {P:QU->St->Prop} (ha:VR Λ a x) (hb:VR Λ b y) (h:EF (fun x y=>XV (y<=x)) a b σ P):Zq c A X0 fm Λ (Q0q .GtE x y) VR σ P:=by
 cases a <;> try exact Qy
 cases b <;> try exact Qy
 obtain (⟨t,QA⟩):=ha;obtain (⟨u,QA⟩):=hb
 exact Xj h fun fz s Q E r q=>ge_int (q _ _ QA)
theorem TF {a b:QU} {x y:QI} {P:QU->St->Prop} (hA:AOk A) (ha:VR Λ a x) (hb:VR Λ b y) (h:aeW a b σ P):Zq c A X0 fm Λ (Q0q .Eq x y) VR σ P:=by
 have hu:Q8M+64 < QDV:=by have:=Q7k;exact Kt this
 cases a <;> try exact Qy
 ·cases b <;> try exact Qy
  obtain (⟨t,QA⟩):=ha;obtain (⟨u,QA⟩):=hb
  exact Xj h fun fz s Q E r q=>eq_int (q _ _ QA)
 ·cases b <;> try exact Qy
  obtain (⟨t,QA⟩):=ha;obtain (⟨u,QA⟩):=hb
  exact Xj h fun fz s Q E r q=>eq_str (q _ _ QA)
 ·cases b <;> try exact Qy
  refine Q4n h fun xs e1 h=>Q4n h fun ys e2 h=>?_
  ·skip
   refine ew2 h fun ds es yq4a=>?_;refine an5 yq4a fun d1 d2 k1 k2 p=>?_;clear yq4a
   refine Xj p fun fz s Q E r q=>?_
   refine an3 (Q0t ha e1) fun yq4b g1 yq4c=>?_;obtain QA:=yq4b;refine ew2 yq4c fun vs n yq4d=>?_;refine an2 yq4d fun a1 a2=>?_;clear yq4c yq4d
   refine an3 (Q0t hb e2) fun yq4e g2 yq4f=>?_;obtain QA:=yq4e;refine ew2 yq4f fun ws n' yq4g=>?_;refine an2 yq4g fun b1 b2=>?_;clear yq4f yq4g
   exact kqd_eq BZ (QFO (by rw [Q3a];exact g1) a1) QA QA (QC6 d1 a2) (fun _ h=>h) (QFO (by rw [Q3a];exact g2) b1) QA QA (QC6 d2 b2) (fun _ h=>h) k1 k2 hu (q _ _ QA)
theorem Tx {a b:QU} {x y:QI} {P:QU->St->Prop} (hA:AOk A) (ha:VR Λ a x) (hb:VR Λ b y) (h:aeT a b σ P):Zq c A X0 fm Λ (Q0q .QGt x y) VR σ P:=by
 have hu:Q8M+64 < QDV:=by have:=Q7k;exact Kt this
 cases a <;> try exact Qy
 ·cases b <;> try exact Qy
  obtain (⟨t,QA⟩):=ha;obtain (⟨u,QA⟩):=hb
  exact Xj h fun fz s Q E r q=>ne_int (q _ _ QA)
 ·cases b <;> try exact Qy
  obtain (⟨t,QA⟩):=ha;obtain (⟨u,QA⟩):=hb
  exact Xj h fun fz s Q E r q=>ne_str (q _ _ QA)
 ·cases b <;> try exact Qy
  refine Q4n h fun xs e1 h=>Q4n h fun ys e2 h=>?_
  ·skip
   refine ew2 h fun ds es yq4h=>?_;refine an5 yq4h fun d1 d2 k1 k2 p=>?_;clear yq4h
   refine Xj p fun fz s Q E r q=>?_
   refine an3 (Q0t ha e1) fun yq4i g1 yq4j=>?_;obtain QA:=yq4i;refine ew2 yq4j fun vs n yq4k=>?_;refine an2 yq4k fun a1 a2=>?_;clear yq4j yq4k
   refine an3 (Q0t hb e2) fun yq4l g2 yq4m=>?_;obtain QA:=yq4l;refine ew2 yq4m fun ws n' yq4n=>?_;refine an2 yq4n fun b1 b2=>?_;clear yq4m yq4n
   exact kqd_ne BZ (QFO (by rw [Q3a];exact g1) a1) QA QA (QC6 d1 a2) (fun _ h=>h) (QFO (by rw [Q3a];exact g2) b1) QA QA (QC6 d2 b2) (fun _ h=>h) k1 k2 hu (q _ _ QA)
theorem ON {a b:QU} {x y:QI} {P:QU->St->Prop} (ha:VR Λ a x) (hb:VR Λ b y) (h:aeU a b σ P):Zq c A X0 fm Λ (Q0q .Is x y) VR σ P:=by
 injections c A X0 fm Λ σ a b x y P _ _ _
 cases b <;> try exact Qy
 ·cases hb
  have e:(x == Zv)=QC7 a:=by
   cases a
   ·cases ha;rfl
   ·cases ha;rfl
   ·obtain ⟨t,QA⟩:=ha;rfl
   ·obtain ⟨t,QA⟩:=ha;rfl
   ·obtain ⟨t,QA⟩:=ha;rfl
   ·cases ha;rfl
  have h':P (.Yn (QC7 a)) σ:=h
  rw [<- e]at h'
  exact Xj h' fun fz s Q E r q=>is_none_gen (q _ _ QA)
 ·cases a <;> try exact Qy
  cases ha;cases hb
  exact Xj h fun fz s Q E r q=>wpAny_is_plain QA (q _ _ (by simp [VR];exact Ji _ _))
 ·cases a <;> try exact Qy
  exact Xj h.2 fun fz s Q E r q=>TB r ha hb h.1 (q _ _ QA)
theorem Jw {a b:QU} {x y:QI} {P:QU->St->Prop} (ha:VR Λ a x) (hb:VR Λ b y) (h:KD a b σ P):Zq c A X0 fm Λ (Q0q .QFN x y) VR σ P:=by
 cases b <;> try exact Qy
 ·cases hb
  have e:(x == Zv)=QC7 a:=by
   cases a
   ·cases ha;rfl
   ·cases ha;rfl
   ·obtain (⟨t,QA⟩):=ha;rfl
   ·obtain (⟨t,QA⟩):=ha;rfl
   ·obtain (⟨t,QA⟩):=ha;rfl
   ·cases ha;rfl
  have h':P (.Yn (!QC7 a)) σ:=h
  rw [<- e]at h'
  exact Xj h' fun fz s Q E r q=>isnot_none_gen (q _ _ QA)
 ·cases a <;> try exact Qy
  cases ha;cases hb
  exact Xj h fun fz s Q E r q=>wpAny_isNot_plain QA (q _ _ (by simp [VR];exact Ji _ _))
 ·cases a <;> try exact Qy
  exact Xj h.2 fun fz s Q E r q=>Ln r ha hb h.1 (q _ _ QA)
theorem TC {a b:QU} {x y:QI} {P:QU->St->Prop} (hA:AOk A) (ha:VR Λ a x) (hb:VR Λ b y) (h:aeV a b σ P):Zq c A X0 fm Λ (Q0q .In x y) VR σ P:=by
 have hu:Q8M+64 < QDV:=by have:=Q7k;exact Kt this
 refine Q1W h fun k eb h=>?_;subst eb
 ·refine Q4n h fun ys e2 h=>?_
  refine ew2 h fun d es yq4o=>?_;refine an5 yq4o fun d1 d2 k1 k2 p=>?_;clear yq4o
  refine Xj p fun fz s Q E r q=>?_
  refine an3 (Q0t hb e2) fun yq4p g2 yq4q=>?_;obtain QA:=yq4p;refine ew2 yq4q fun ws n' yq4r=>?_;refine an2 yq4r fun b1 b2=>?_;clear yq4q yq4r
  exact kqd_isIn BZ (QFO (by rw [Q3a];exact g2) b1) QA QA (QC6 d2 b2) (fun _ h=>h) (r.dat d1 ha) (fun _ h=>h) k2 k1 hu (q _ _ QA)
theorem Lm {a b:QU} {x y:QI} {P:QU->St->Prop} (hA:AOk A) (ha:VR Λ a x) (hb:VR Λ b y) (h:KC a b σ P):Zq c A X0 fm Λ (Q0q .NotIn x y) VR σ P:=by
 have hu:Q8M+64 < QDV:=by have:=Q7k;exact Kt this
 refine Q1W h fun k eb h=>?_;subst eb
 ·refine Q4n h fun ys e2 h=>?_
  refine ew2 h fun d es yq4s=>?_;refine an5 yq4s fun d1 d2 k1 k2 p=>?_;clear yq4s
  refine Xj p fun fz s Q E r q=>?_
  refine an3 (Q0t hb e2) fun yq4t g2 yq4u=>?_;obtain QA:=yq4t;refine ew2 yq4u fun ws n' yq4v=>?_;refine an2 yq4v fun b1 b2=>?_;clear yq4u yq4v
  exact kqd_notIn BZ (QFO (by rw [Q3a];exact g2) b1) QA QA (QC6 d2 b2) (fun _ h=>h) (r.dat d1 ha) (fun _ h=>h) k2 k1 hu (q _ _ QA)
theorem KB {op:QGu} {a b:QU} {x y:QI} {P:QU->St->Prop} (hA:AOk A) (ha:VR Λ a x) (hb:VR Λ b y) (h:BK op a b σ P):Zq c A X0 fm Λ (Q0q op x y) VR σ P:=by
 cases op with
 | Eq=>exact TF hA ha hb h
 | QGt=>exact Tx hA ha hb h
 | Lt=>exact Tz ha hb h
 | LtE=>exact TA ha hb h
 | Gt=>exact TD ha hb h
 | GtE=>exact TE ha hb h
 | Is=>exact ON ha hb h
 | QFN=>exact Jw ha hb h
 | In=>exact TC hA ha hb h
 | NotIn=>exact Lm hA ha hb h
end
end
end Mini
end
section
open PySem PySem.W PySem.Calls PyProof.Rows
namespace Mini
mutual
def Db (g:ZP) (L:Qq) (h:ZP) (d:Qq):QC (Qq×ZC):=(AL g L h).Q9D fun p=>p.1 != d
theorem CF {g:ZP} {L:Qq} {h:ZP} {d b:Qq} {o:ZC}:(b,o)∈Db g L h d↔b≠d/\b≠L/\QC5 b=QG/\Q03 b=QB o:=by
 unfold Db
 rw [QBO,BS]
 simp only [bne_iff_ne,ne_eq]
 exact ⟨fun ⟨a,b⟩=>⟨b,a⟩,fun ⟨a,b⟩=>⟨b,a⟩⟩
theorem Dp {g:ZP} {L:Qq} {h:ZP} {d:Qq}:∀p∈Db g L h d,p.1≠d:=fun p hp=>(CF.mp (show (p.1,p.2)∈_ from hp)).1
end
section
variable {c:Cx} {fz:Addr->Option Obj} {L:Addr} {Λ:Lab} {σ:St} {s:Shared}
mutual
theorem Rel.ledAt (R:Rel c fz L Λ σ s) {l:QH} (hl:l < QO) {co:ZC} (ho:Qc (Xr l)=QB co):News c.g L QV ((Xr l,co)::Db c.g L QV (Xr l)):=by
 have hl':l < Xh:=by rw [Q3y];exact hl
 intro p hp
 rcases XP hp with QA | hp
 ·have:=BS.mp (R.mem hl' ho)
  exact ⟨this.2.2,this.1,this.2.1⟩
 ·have:=CF.mp (show (p.1,p.2)∈_ from hp)
  exact ⟨this.2.2.2,this.2.1,this.2.2.1⟩
theorem Eo {g:ZP} {L d:Qq} {h h':ZP} {m:X6->QW QI} {X:QC (Qq×ZC)} (F:Fr g L h m) (F':Fr g L h' m) (N:News g L h' (X++Db g L h d)):∀b o,b≠L->b≠d->Q03 b=QB o->Z7 b=QB o:=fun b o hb hd e=>by
 cases hg:QC5 b with
 | QB o' =>
  have:=F.keep b o' hg
  rw [e]at this
  cases this
  exact F'.keep b o hg
 | QG=>exact (N (b,o) (Q7M _ (CF.mpr ⟨hd,hb,hg,e⟩))).1
theorem Rel.turned (R:Rel c fz L Λ σ s) {l:QH} (hl:l < QO) {h':ZP} {tk:QH} {m:X6->QW QI} {o:Ob} {co':ZC} (F:Fr c.g L QV m) (F':Fr c.g L h' m) (N:News c.g L h' ((Xr l,co')::Db c.g L QV (Xr l))) (ho:OR XI c.w Λ o co') :
  Rel c fz L Λ (Yt l o) {s with YL:=h',Q0P:=tk}:=by
 have hl':l < Xh:=by rw [Q3y];exact hl
 have hk:=Eo (X:=[(Xr l,co')]) F F' N
 have new:Z7 (Xr l)=QB co':=(N _ (.Zc _)).1
 refine {nn:=Q3y,ns:=?_,Q4V:=fun b o' e=>hk b o' (fun q=>?_) (fun q=>?_) (Q48 b o' e),Q8Z:=Q5D,fzL:=Q6M,ob:=fun k hk'=>?_,fzl:=Q5k,lne:=Q5E,inj:=Q7C,Q4p:=Q3e,low:=Q6N,nsm:=Q8q,os:=QCy,Q0L:=Q64}
 ·refine ew1 QC1 fun m1 yq4w=>?_;refine an2 yq4w fun h k=>?_;clear yq4w
  exact ⟨m,F'.ns,fun x=>by rw [Ns.uniq F.ns h];exact k x⟩
 ·rw [q,Q6M]at e;cases e
 ·rw [q,Q5k l hl']at e;cases e
 ·by_cases h:k=l
  ·subst h
   refine ⟨co',new,?_⟩
   have:(Yt k o).hp k=o:=QY QA
   rw [this];exact ho
  ·refine ew1 (Q63 k hk') fun o' yq4x=>?_;refine an2 yq4x fun h1 h2=>?_;clear yq4x
   refine ⟨o',hk _ _ (Q5E k hk') (fun q=>h (Q7C k l hk' hl' q)) h1,?_⟩
   have:(Yt l o).hp k=QS k:=QN h
   rw [this];exact h2
theorem Rel.tuplesV (R:Rel c fz L Λ σ s) {l:QH} {xs:QC QU} {a:QI} (hv:VR Λ (.QP l) a) (h:QS l=.YJ xs):a=.QP (Xr l)/\l < QO/\∃vs n,Qc (Xr l)=QB {cls:=.Qk "tuple",YA:=.seq Xt n}/\VRs Λ xs vs:=by
 refine ew1 (Q63 l hv.1) fun o yq4y=>?_;refine an2 yq4y fun ho hor=>?_;clear yq4y
 rw [h]at hor
 obtain (⟨vs,n,QA,k⟩):=hor
 exact ⟨hv.2,by rw [<- Q3y];exact hv.1,vs,n,ho,k⟩
theorem B1 {h:ZP} {a:Qq} {vs:QC QI} {n:QH} (e:Q03 a=QB {cls:=.Qk "tuple",YA:=.seq Xt n}):IsTup h a Xt:=⟨_,e,QA,n,QA⟩
end
end
mutual
def Nc (v:QU):PT Qu:=fun σ P=>match v with
 | .QG=>P QJ σ
 | .Yn b=>P b σ
 | .Qm i=>P (i != 0) σ
 | .Xs x=>Q9j<=Xa/\P ((Q9j:X3) != 0) σ
 | .QP l=>(Af (QS l) fun xs=>Qn<=Xa/\P (!xs.isEmpty) σ)\/(AJ (QS l) fun ps _=>Zg<=Xa/\P (!QC8) σ)
 | .imm _=>Yk
def TR (v:QU):PT QU:=fun σ P=>(EI v fun x=>Q9j<=Xa/\P (.Qm Q9j) σ)\/(Ai v fun l=>(Af (QS l) fun xs=>Qn<=Xa/\P (.Qm Qn) σ) \/
 (AJ (QS l) fun xs _=>Qn<=Xa/\P (.Qm Qn) σ)\/(Cp (QS l) fun xs=>Qn<=Xa/\P (.Qm Qn) σ))
def FF (v i:QU):PT QU:=fun σ P=>(Ai v fun l=>Bi i fun k=>(-2 ^ 63<=k/\k < 2 ^ 63)/\((Af (QS l) fun xs=>∃j x,Q49 k Qn=QB j/\xs[j]?=QB x/\P x σ) \/
  (AJ (QS l) fun xs _=>∃j x,Q49 k Qn=QB j/\xs[j]?=QB x/\P (.Qm x.1) σ)\/(Cp (QS l) fun xs=>∃j x,Q49 k Qn=QB j/\xs[j]?=QB x/\P x σ))) \/
 (EI v fun x=>Bi i fun k=>(-2 ^ 63<=k/\k < 2 ^ 63)/\∃j ch,Q49 k Q9j=QB j/\Q8s[j]?=QB ch/\P (.Xs ⟨#[ch]⟩) σ)
theorem I8:∀(ps:QC (X3×Tok)) (vs:QC QI),Zg=Q0Q->(!QC8)=!vs.toArray.isEmpty:=by
 intro ps vs h;cases ps <;> cases vs <;> first | rfl | (simp at h)
theorem Rel.flistsV {c:Cx} {fz:Qq->QW ZC} {L:Qq} {Λ:Lab} {σ:St} {s:QZ} (R:Rel c fz L Λ σ s) {l:QH} {ps:QC (X3×Tok)} {n:QH} {a:QI} (hv:VR Λ (.QP l) a) (h:QS l=.Q4m ps n):a=.QP (Xr l)/\l < QO/\∃vs n,Qc (Xr l)=QB (Q4X Xt n)/\∀Za,VRs Za (Q13 fun p=>.Qm p.1) vs:=by
 refine ew1 (Q63 l hv.1) fun o yq4z=>?_;refine an2 yq4z fun ho hor=>?_;clear yq4z
 rw [h]at hor
 refine ⟨hv.2,by rw [<- Q3y];exact hv.1,_,n,hor▸ho,fun Za=>?_⟩
 clear hor ho h
 induction ps with
 | Zl=>exact .Zl
 | Xu p r ih=>exact .Xu ⟨p.2,QA⟩ ih
end
section
variable {c:Cx} {A:Around} {env:Env} {fm:Fm} {Λ:Lab} {σ:St}
mutual
theorem CU:(Xa:X3) < 2 ^ 63:=by decide
theorem Ll {v:QU} {x:QI} {P:Qu->St->Prop} (hv:VR Λ v x) (h:Nc v σ P):Zq c A X0 fm Λ (QEH x) ER σ P:=by
 cases v
 ·cases hv;exact Xj h fun fz s Q E r q=>truthy_none (q _ _ QA)
 ·cases hv;exact Xj h fun fz s Q E r q=>Q3c (q _ _ QA)
 ·obtain (⟨t,QA⟩):=hv;exact Xj h fun fz s Q E r q=>truthy_int (q _ _ QA)
 ·obtain (⟨t,QA⟩):=hv
  exact Xj h.2 fun fz s Q E r q=>PySem.P.truthy_str (Q7d (He h.1 QA)) (q _ _ QA)
 ·refine Qy (fun h=>Q4n h fun xs e h=>?_) fun h=>QGl h fun xs m e h=>?_
  ·skip
   refine Xj h.2 fun fz s Q E r q=>?_
   refine an3 (Q0t hv e) fun yq4A g1 yq4B=>?_;obtain QA:=yq4A;refine ew2 yq4B fun vs n yq4C=>?_;refine an2 yq4C fun a1 a2=>?_;clear yq4B yq4C
   refine Q9k (Al a1) (He h.1 (Q7D Q1x)) (q _ _ ?_)
   show _=_
   cases a2 <;> rfl
  ·skip
   refine Xj h.2 fun fz s Q E r q=>?_
   refine an3 (QAW hv e) fun yq4D g1 yq4E=>?_;obtain QA:=yq4D;refine ew2 yq4E fun vs n yq4F=>?_;refine an2 yq4F fun a1 a2'=>?_;clear yq4E yq4F
   have a2:=a2' Λ
   refine Q9k (Al a1) (by have:=CU;have:=h.1;have:=Zh;simp at *;exact Yz (Vf h.1 (Yg (by assumption)) this)) (q _ _ ?_)
   show _=_
   exact I8 _ _ (by simpa using Zh)
 ·exact Qy
theorem Kz {v:QU} {x:QI} {P:QU->St->Prop} (hv:VR Λ v x) (h:TR v σ P):Zq c A X0 fm Λ (Q0M (.Qd "len") [x]) VR σ P:=by
 have sz:=CU
 refine Qy (fun h=>EI.el h fun x ev h=>?_) fun h=>Q1W h fun l ev h=>?_ <;> subst ev
 ·obtain (⟨t,QA⟩):=hv
  exact Xj h.2 fun fz s Q E r q=>len_str (Q7d (He h.1 QA)) (q _ _ ⟨_,QA⟩)
 ·refine Qy (fun h=>Q4n h fun xs e h=>?_) fun h=>Qy (fun h=>QGl h fun xs m e h=>?_) fun h=>QGj h fun xs e h=>?_
  ·skip
   refine Xj h.2 fun fz s Q E r q=>?_
   refine an3 (Q0t hv e) fun yq4G g1 yq4H=>?_;obtain QA:=yq4G;refine ew2 yq4H fun vs n yq4I=>?_;refine an2 yq4I fun a1 a2=>?_;clear yq4H yq4I
   refine len_list (Al a1) (He h.1 (Q7D Q1x)) (q _ _ (by rw [XS,<- Zh];exact ⟨_,QA⟩))
  ·skip
   refine Xj h.2 fun fz s Q E r q=>?_
   refine an3 (QAW hv e) fun yq4J g1 yq4K=>?_;obtain QA:=yq4J;refine ew2 yq4K fun vs n yq4L=>?_;refine an2 yq4L fun a1 a2'=>?_;clear yq4K yq4L
   have a2:=a2' Λ
   refine len_list (Al a1) (by have:=h.1;have:=Zh;simp at *;exact Yz (Ve (Yg sz) h.1 this)) (q _ _ (by rw [XS,<- Zh,QK];exact ⟨_,QA⟩))
  ·skip
   refine Xj h.2 fun fz s Q E r q=>?_
   refine an3 (QAX hv e) fun yq4M g1 yq4N=>?_;obtain QA:=yq4M;refine ew2 yq4N fun vs n yq4O=>?_;refine an2 yq4O fun a1 a2=>?_;clear yq4N yq4O
   refine len_tuple (B1 a1) (He h.1 (Q7D Q1x)) (q _ _ (by rw [XS,<- Zh];exact ⟨_,QA⟩))
end
end
end Mini
end
section
open PySem
namespace Mini
noncomputable def B9 {α:Type} (e:Expr) (f:Str->Pos->α) (d:α):α:=by apply @Expr.casesOn (fun _=>α) e;(case Name=>exact f);all_goals ((repeat intro a);exact d)
noncomputable def To {α:Type} (e:Expr) (f:List Expr->α) (d:α):α:=by apply @Expr.casesOn (fun _=>α) e;(case Tuple=>exact fun ts _ _=>f ts);all_goals ((repeat intro a);exact d)
noncomputable def Ed {α:Type} (e:Expr) (f:Option Expr->Option Expr->Option Expr->α) (d:α):α:=by apply @Expr.casesOn (fun _=>α) e;(case Slice=>exact fun a b c _=>f a b c);all_goals ((repeat intro a);exact d)
noncomputable def Fg {α:Type} (e:Expr) (f:Expr->Str->Pos->α) (d:α):α:=by apply @Expr.casesOn (fun _=>α) e;(case Attribute=>exact f);all_goals ((repeat intro a);exact d)
noncomputable def Mi {α:Type} (e:Expr) (f:Expr->Expr->α) (d:α):α:=by apply @Expr.casesOn (fun _=>α) e;(case Subscript=>exact fun a b _=>f a b);all_goals ((repeat intro a);exact d)
noncomputable def xCall {α:Type} (e:Expr) (f:Expr->List Expr->List Keyword->Pos->α) (d:α):α:=by apply @Expr.casesOn (fun _=>α) e;(case Call=>exact f);all_goals ((repeat intro a);exact d)
noncomputable def B2 (e:Expr):Bool:=by apply @Expr.casesOn (fun _=>Bool) e;(case Starred=>exact fun _ _=>true);all_goals ((repeat intro a);exact false)
noncomputable def Bv (e:Expr):Bool:=by apply @Expr.casesOn (fun _=>Bool) e;(case Set=>exact fun _ _ _=>true);all_goals ((repeat intro a);exact false)
noncomputable def A3 (e:Expr):Bool:=by apply @Expr.casesOn (fun _=>Bool) e;(case ListComp=>exact fun _ _ _ _=>true);(case SetComp=>exact fun _ _ _ _=>true);(case DictComp=>exact fun _ _ _ _ _=>true);all_goals ((repeat intro a);exact false)
noncomputable def Cf (e:Expr):Bool:=Ed e (fun _ _ _=>true) false
noncomputable def Td (e:Expr):Bool:=To e (fun _=>true) false
noncomputable def T7 (e:Expr):Bool:=Fg e (fun _ _ _=>true) false
end Mini
end
section
open PySem PySem.W PySem.Calls PyProof.Rows
namespace Mini
theorem AP {i:Expr} (h:Cf i=false) (o v:Value):subscripted i false o v=PySem.operate [o,v] (getItem o v):=by
 cases i <;> first | rfl | exact absurd h.symm Bool.false_ne_true
section
variable {prog:Program} {w:World} {A:Around} {E:Value->Shared->Prop} {s:Shared}
theorem Dd {value slice:Expr} {o i:Value} {T id:String} {ops:List Value} {Q:Value->Shared->Prop} (hT:s.TypeIs o T)
  (hl:typeLookup (.type T) "__getitem__"=pure (some (.builtin id))) (h:wpAny (model prog w) A (getItem o i) Q E s)
  (hs:subscripted slice false o i=PySem.operate ops (getItem o i)):wpAny (model prog w) A (subscriptTail value slice o i) Q E s:=by
 unfold subscriptTail
 refine wpAny_bind ?_
 rw [getitemInPython_of_ne hT.not_modules]
 refine wpAny_bind (wpAny_specialOf hT hl ?_)
 have fin:wpAny (model prog w) A (subscripted slice false o i) (fun r s₃=>wpAny (model prog w) A (letTemporaryGo value o r >>= fun _=>pure r) Q E s₃) E s:=by
  rw [hs]
  exact wpAny_operating (wpAny_mono h (fun r s₃ h₃=>wpAny_bind (wpAny_letTemporaryGo (wpAny_pure h₃))) fun _ _ x=>x)
 first
  | exact wpAny_pure (wpAny_bind fin)
  | exact wpAny_bind (wpAny_pure (wpAny_bind fin))
  | exact wpAny_bind fin
end
mutual
theorem Dx {k:X3} {n j:QH} (h:Q49 k n=QB j):(0<=k/\j=k.toNat/\k.toNat < n)\/(k < 0/\-(n:X3)<=k/\j=(k+n).Q1X):=by
 injections k n j _
 unfold Q49 at h
 dsimp only at h
 split at h <;> rename_i hk
 ·split at h
  ·rename_i q
   simp only [X7,Xl]at q
   right;cases h;exact ⟨hk,by omega,QA⟩
  ·cases h
 ·split at h
  ·rename_i q
   simp only [X7,Xl]at q
   left;cases h;exact ⟨Q8p hk,QA,(QEB (Q8p hk)).mpr q.2⟩
  ·cases h
def Bm {α:Type} (xs:QC α) (lo hi st:QW X3):QC α:=(sliceRange (QBF lo hi st Qn).1 (QBF lo hi st Qn).2.1 (QBF lo hi st Qn).2.2).QDT fun i=>xs[i]?
theorem VRs.pick {Λ:Lab} {xs:QC QU} {vs:QC QI} (h:VRs Λ xs vs) (l:QC QH):VRs Λ (QFP fun i=>xs[i]?) (QFP fun i=>vs[i]?):=by
 injections Λ xs vs _ l
 induction l with
 | Zl=>exact .Zl
 | Xu i l ih =>
  injections i l ih zI
  rw [Q8a,Q8a]
  cases e:xs[i]? with
  | QB v =>
   injections v zI
   obtain ⟨c,e',hc⟩:=(h.get e)
   rw [e'];exact .Xu hc ih
  | QG =>
   have:vs[i]?=QG:=by
    rw [Q5Z]at e ⊢;rw [<- h.length];exact e
   rw [this];exact ih
theorem CT (vs:QC QI) (lo hi st:QW X3):QAY Xt lo hi st=(Bm vs lo hi st).Xe:=by
 unfold QAY Bm
 simp
def Bq:QU->QW (QW X3)
 | .QG=>QB QG
 | .Qm i=>QB (QB i)
 | _=>QG
theorem Df {Λ:Lab} {v:QU} {x:QI} {p:QW X3} (h:Bq v=QB p) (hv:VR Λ v x):IsPart x p:=by
 cases v
 case QG=>cases X1 (show QB QG=QB p from h);cases hv;exact .QG
 case Qm i=>cases X1 (show QB (QB i)=QB p from h);obtain (⟨t,QA⟩):=hv;exact .Qm _ _
 all_goals exact nomatch (show QG=QB p from h)
def Bs (v lo hi st:QU):PT QU:=fun σ P=>Ai v fun l =>
 (Af (QS l) fun xs=>Ad (Bq lo) fun a=>Ad (Bq hi) fun b=>Ad (Bq st) fun k=>k≠QB 0/\Qn<=Xa/\P (.QP QO) (Qw (.Qs (Bm xs a b k)))) \/
 (AJ (QS l) fun ps _=>Ad (Bq lo) fun a=>Ad (Bq hi) fun b=>Ad (Bq st) fun k=>k≠QB 0/\Zg<=Xa/\P (.QP QO) (Qw (.Qs (Bm (Q13 fun p=>.Qm p.1) a b k))))
end
section
variable {c:Cx} {A:Around} {env:Env} {fm:Fm} {Λ:Lab} {σ:St}
mutual
theorem MW {Q8t slice:Qf} {v i:QU} {x y:QI} {P:QU->St->Prop} (hs:Cf slice=QJ) (hv:VR Λ v x) (hi:VR Λ i y) (h:FF v i σ P):Zq c A X0 fm Λ (QD1 Q8t slice x y) VR σ P:=by
 refine Qy (fun h=>Q1W h fun l ev h=>QBD h fun k ei h=>?_) fun h=>EI.el h fun s ev h=>QBD h fun k ei h=>?_ <;> subst ev ei
 ·obtain (⟨u,QA⟩):=hi
  obtain (⟨hb,h⟩):=h
  refine Qy (fun h=>Q4n h fun xs e yq4Q=>?_) fun h=>Qy (fun h=>QGl h fun xs m e yq4W=>?_) fun h=>QGj h fun xs e yq51=>?_
  ·refine ew2 yq4Q fun j z yq4R=>?_;refine an3 yq4R fun h1 h2 p=>?_;clear yq4Q yq4R
   refine Zn fun fz s ok r Q E q=>?_
   refine an3 (Q0t hv e) fun yq4S g1 yq4T=>?_;obtain QA:=yq4S;refine ew2 yq4T fun vs n yq4U=>?_;refine an2 yq4U fun a1 a2=>?_;clear yq4T yq4U
   refine ew1 (a2.get h2) fun cz yq4V=>?_;refine an2 yq4V fun h3 h4=>?_;clear yq4V
   refine Dd (Al a1).typeIs Q2w ?_ (AP hs _ _)
   have fin:=q Λ s z cz σ (.Q1H _) p h4 r
   rcases Dx h1 with ⟨k1,QA,k3⟩ | ⟨k1,k2,QA⟩
   ·exact Q9E (Al a1) k1 hb.2 (by simpa using h3) fin
   ·exact Q6i (Al a1) k1 (by rw [XS,<- Zh];exact k2) hb.1 (by have:=Zh;simpa [this] using h3) fin
  ·refine ew2 yq4W fun j z yq4X=>?_;refine an3 yq4X fun h1 h2 p=>?_;clear yq4W yq4X
   refine Zn fun fz s ok r Q E q=>?_
   refine an3 (QAW hv e) fun yq4Y g1 yq4Z=>?_;obtain QA:=yq4Y;refine ew2 yq4Z fun vs n yq50=>?_;refine an2 yq50 fun a1 a2'=>?_;clear yq4Z yq50
   have a2:=a2' Λ
   obtain (⟨cz,h3,h4⟩):=a2.get (i:=j) (v:=.Qm z.1) (by rw [QT,h2];rfl)
   refine Dd (Al a1).typeIs Q2w ?_ (AP hs _ _)
   have fin:=q Λ s (.Qm z.1) cz σ (.Q1H _) p h4 r
   have hl:=Zh
   rw [QK]at hl
   rcases Dx h1 with ⟨k1,QA,k3⟩ | ⟨k1,k2,QA⟩
   ·exact Q9E (Al a1) k1 hb.2 (by simpa using h3) fin
   ·exact Q6i (Al a1) k1 (by rw [XS,<- hl];exact k2) hb.1 (by simpa [hl] using h3) fin
  ·refine ew2 yq51 fun j z yq52=>?_;refine an3 yq52 fun h1 h2 p=>?_;clear yq51 yq52
   refine Zn fun fz s ok r Q E q=>?_
   refine an3 (QAX hv e) fun yq53 g1 yq54=>?_;obtain QA:=yq53;refine ew2 yq54 fun vs n yq55=>?_;refine an2 yq55 fun a1 a2=>?_;clear yq54 yq55
   refine ew1 (a2.get h2) fun cz yq56=>?_;refine an2 yq56 fun h3 h4=>?_;clear yq56
   refine Dd (B1 a1).typeIs slot_tuple_getitem.lookup ?_ (AP hs _ _)
   exact getItem_tuple (B1 a1) hb.1 hb.2 (by rw [XS,<- Zh];exact h1) (by simpa using h3) (q Λ s z cz σ (.Q1H _) p h4 r)
 ·obtain (⟨t,QA⟩):=hv;obtain (⟨u,QA⟩):=hi
  refine an2 h fun hb yq57=>?_;refine ew2 yq57 fun j ch yq58=>?_;refine an3 yq58 fun h1 h2 p=>?_;clear yq57 yq58
  refine Xj p fun fz s Q E r q=>?_
  refine Dd (T:="str") QA F.slot_str_getitem.lookup ?_ (AP hs _ _)
  exact PySem.P.getItem_str (afW hb) (by rw [h1];exact h2) (q _ _ ⟨_,QA⟩)
theorem OP {Q8t:Qf} {lo hi st:QW Qf} {XH:Pos} {v a b k:QU} {x va vb vk:QI} {P:QU->St->Prop} {fz:Qq->QW ZC} {s:QZ} {Q:QI->QZ->Prop} {E:QI->QZ->Prop}
  (r:Rel c fz Qo Λ σ s) (hv:VR Λ v x) (ha:VR Λ a va) (hb:VR Λ b vb) (hk:VR Λ k vk) (h:Bs v a b k σ P)
  (q:∀Za s' b a XF,Q0A Za->P b XF->VR Za b a->Rel c fz Qo Za XF s'->Q a s') :
  Qp (Qi XI c.w) A (QD1 Q8t (.QBG lo hi st XH) x (.QP QD)) Q E {s with YL:=XK {cls:=.Qk "slice",YA:=.Xo #[va,vb,vk]}}:=by
 injections c A X0 Λ σ Q8t lo hi st XH v a b k x va vb vk P fz s Q E _ _ _ _ _ _ _
 refine Q1W h ?_;intros l ev h;subst ev
 ·refine Qy ?_ ?_
  ·intros h;refine Q4n h ?_;intros xs e1 h;refine Q2r h ?_;intros p1 e2 h;refine Q2r h ?_;intros p2 e3 h;refine Q2r h ?_;intros p3 e4 h
   skip
   obtain ⟨h0,hz,p⟩:=h
   obtain ⟨QA,g1,vs,n,a1,a2⟩:=(Q0t hv e1)
   have hl:=Al a1
   have fin:Q (.QP (XK {cls:=.Qk "slice",YA:=.Xo #[va,vb,vk]}).YO) {s with YL:=(XK {cls:=.Qk "slice",YA:=.Xo #[va,vb,vk]}).Q65 {cls:=.Qk "list",YA:=.seq (QAY Xt p1 p2 p3)}}:=by
    have r1:Rel c fz Qo Λ σ {s with YL:=XK {cls:=.Qk "slice",YA:=.Xo #[va,vb,vk]}}:=Q66 (tk:=Y6) (dr:=Q1G) fun b o e=>Qa _ e
    refine q (Z5 _) _ _ _ _ (XL _ _) p (Q1i _ Q3a) (Q9l (tk:=Y6) ⟨Bm vs p1 p2 p3,0,?_,?_⟩ QA)
    ·rw [CT]
    ·unfold Bm
     rw [Zh]
     exact (a2.pick _).ext (XL _ _)
   have zO:∃ops,QFQ (.QBG lo hi st XH) QJ (.QP (Xr l)) (.QP QD)=Q8r ops (getItem (.QP (Xr l)) (.QP QD)):=by
    cases st
    ·exact ⟨_,QA⟩
    ·exact ⟨_,QA⟩
   obtain ⟨ops,ho⟩:=zO
   refine Dd (Q9F (s:={s with YL:=XK {cls:=.Qk "slice",YA:=.Xo #[va,vb,vk]}}) (QEI _)) Q2w ?_ ho
   exact Q67 (QEI _) (Q9G ..) (Df e2 ha) (Df e3 hb) (Df e4 hk) h0 fin (by rw [XS,<- Zh];exact hz)
  intros h;refine QGl h ?_;intros ps m e1 h;refine Q2r h ?_;intros p1 e2 h;refine Q2r h ?_;intros p2 e3 h;refine Q2r h ?_;intros p3 e4 h
  ·skip
   obtain ⟨h0,hz,p⟩:=h
   obtain ⟨QA,g1,vs,n,a1,a2'⟩:=(QAW hv e1)
   have a2:=a2' Λ
   have Q2U:=Zh
   rw [QK]at Q2U
   have hl:=Al a1
   have fin:Q (.QP (XK {cls:=.Qk "slice",YA:=.Xo #[va,vb,vk]}).YO) {s with YL:=(XK {cls:=.Qk "slice",YA:=.Xo #[va,vb,vk]}).Q65 {cls:=.Qk "list",YA:=.seq (QAY Xt p1 p2 p3)}}:=by
    have r1:Rel c fz Qo Λ σ {s with YL:=XK {cls:=.Qk "slice",YA:=.Xo #[va,vb,vk]}}:=Q66 (tk:=Y6) (dr:=Q1G) fun b o e=>Qa _ e
    refine q (Z5 _) _ _ _ _ (XL _ _) p (Q1i _ Q3a) (Q9l (tk:=Y6) ⟨Bm vs p1 p2 p3,0,?_,?_⟩ QA)
    ·rw [CT]
    ·unfold Bm
     rw [Zh]
     exact (a2.pick _).ext (XL _ _)
   have zO:∃ops,QFQ (.QBG lo hi st XH) QJ (.QP (Xr l)) (.QP QD)=Q8r ops (getItem (.QP (Xr l)) (.QP QD)):=by
    cases st
    ·exact ⟨_,QA⟩
    ·exact ⟨_,QA⟩
   obtain ⟨ops,ho⟩:=zO
   refine Dd (Q9F (s:={s with YL:=XK {cls:=.Qk "slice",YA:=.Xo #[va,vb,vk]}}) (QEI _)) Q2w ?_ ho
   exact Q67 (QEI _) (Q9G ..) (Df e2 ha) (Df e3 hb) (Df e4 hk) h0 fin (by rw [XS,<- Q2U];exact hz)
end
end
end Mini
end
section
open PySem PySem.W PySem.Calls PyProof.Rows
namespace Mini
mutual
theorem Fq {e:Qf} {Q9m:QC Qf} {X0:Env} (h:B2 e=QJ):Q37 (e::Q9m) X0=(QJ,Q2j e X0)::Q37 Q9m X0:=by
 cases e <;> first | rfl | exact Xc QGO Qj
def Am (es:QC Qf):Qu:=es.all fun e=>!B2 e
theorem AN {XH:Pos}:∀ {es:QC Qf} {X0:Env},Am es=QM->Q7l XH (Q37 es X0)=QEJ fun e=>(QJ,Q2j e X0)
 | [],_,_=>QA
 | e::es,X0,h=>by
  simp only [Am,QD2,X7,Z9]at h
  rw [Fq h.1]
  show (QJ,Q2j e X0)::Q7l XH (Q37 es X0)=_
  rw [AN (show Am es=QM from h.2)];rfl
def A6 (ev:Qf->PT QU):QC Qf->PT (QC QU)
 | [],σ,P=>P [] σ
 | e::es,σ,P=>ev e σ fun v σ=>A6 ev es σ fun vs σ=>P (v::vs) σ
end
section
variable {c:Cx} {A:Around} {env:Env} {fm:Fm} {Λ:Lab} {σ:St}
mutual
theorem CV {f:Qf->PT QU} (hf:∀e Λ σ P,f e σ P->Zq c A X0 fm Λ (Q2j e X0) VR σ P):∀(es:QC Qf) (Λ:Lab) (σ:St) (P:QC QU->St->Prop),A6 f es σ P ->
  Zq c A X0 fm Λ (spliced (QEJ fun e=>(QJ,Q2j e X0))) VRs σ P
 | [],Λ,σ,P,h=>Ze (b:=[]) h .Zl
 | e::es,Λ,σ,P,h=>by
  refine YK (R:=VR) (P:=fun v σ=>A6 f es σ fun vs σ=>P (v::vs) σ) (hf e Λ σ _ h) fun Za v a XF ext p hv=>?_
  refine YK (R:=ER) (P:=fun (l:QC QI) s=>l=[a]/\s=XF) (Ze (b:=[a]) ⟨QA,QA⟩ QA) fun Λ2 b' a' σ2 QD3 p2 hv2=>?_
  obtain (⟨QA,QA⟩):=p2
  cases hv2
  refine YK (R:=VRs) (P:=fun vs σ=>P (v::vs) σ) (ZG (CV hf es Λ2 σ2 _ p)) fun QFI vs as Q5Y ext' p' hvs=>?_
  exact Ze (b:=v::vs) p' (.Xu ((QAZ QD3).ext ext') hvs)
theorem MY {f:Qf->PT QU} (hf:∀e Λ σ P,f e σ P->Zq c A X0 fm Λ (Q2j e X0) VR σ P) {fv:QI} {es:QC Qf} {XH:Pos} {P:QC QU->St->Prop} (hs:Am es=QM) (h:A6 f es σ P) :
  Zq c A X0 fm Λ (evalArgs fv QM (Q7l XH (Q37 es X0)) []) (fun Λ vs (a:Args)=>VRs Λ vs a.pos/\a.kw=[]) σ P:=fun fz s Q E ok r q=>by
 rw [AN hs]
 cases es with
 | Zl=>exact evalArgs_nil3 (q Λ s [] ⟨[],[]⟩ σ (.Q1H _) h ⟨.Zl,QA⟩ r)
 | Xu e es =>
  exact QC9 (CV hf (e::es) Λ σ P h fz s _ E ok r fun Za s' vs as XF ext p hvs r'=>q Za s' vs ⟨as,[]⟩ XF ext p ⟨hvs,QA⟩ r')
def agf (K:Q1A) (u:QI):Prop:=match u with
 | .Qd _=>Q3x
 | .Qk _=>Q3x
 | .QP a=>keepIn K (.QP a)=QM\/∃d vs sl,Q9n a=QB ⟨.Qk "builtin_function_or_method",d,.Xo vs,sl⟩
 | _=>Yk
def Bw (K:Q1A) (σ:St) (v:QU):Prop:=match v with
 | .imm u=>agf K u
 | .QP l=>(FH (QS l) fun _ _=>Q3x)\/Cr (QS l) fun mk _=>∀a,∃fd,(mk a).YA=.Q7Y fd
 | _=>Yk
theorem Lx (hc:Q3M) {fz:Qq->QW ZC} {s:QZ} (r:Rel c fz Qo Λ σ s) {f:QU} {x:QI} (hx:VR Λ f x) (h:Bw c.K σ f) :
  ∃k,(k=Q9o\/k=Q7m\/k=Q5l)/\ZL (Qi XI c.w) QV (QFR x) k:=by
 cases f
 case imm u =>
  cases u
  case Qd=>cases hx;exact ⟨.QBf,.inr (.inl QA),QDW⟩
  case Qk=>cases hx;exact ⟨.QBf,.inr (.inl QA),QDW⟩
  case QP =>
   cases hx
   refine Q6h h (fun h=>?_) fun h=>?_
   ·exact keeps_K h _ (ZO Q0H)
   ·obtain (⟨d,vs,sl,h⟩):=h
    refine ⟨.QBf,.inr (.inl QA),(Q1j (part:=QG) (ZO Q0H _ _ h)).Q2k ?_⟩
    exact Q38 QA
  all_goals exact Qy
 case QP l =>
  refine Q6h h (fun h=>FH.el h fun id v e h=>?_) fun h=>Cr.el h fun mk lc e h=>?_
  ·skip
   refine ew1 (Q36 l hx.1) fun o yq5f=>?_;refine an2 yq5f fun ho hor=>?_;clear yq5f
   rw [e]at hor
   obtain (⟨cv,hh,_⟩):=hor
   rw [hx.2]
   refine ⟨.QBf,.inr (.inl QA),(Q1j (part:=QG) ho).Q2k ?_⟩
   rcases hh with QA | QA <;> exact Q38 QA
  ·refine ew1 (Q36 l hx.1) fun o yq5g=>?_;refine an2 yq5g fun ho hor=>?_;clear yq5g
   rw [e]at hor
   obtain (⟨_,QA⟩):=hor
   obtain (⟨fd,hfd⟩):=h (Xr lc)
   rw [hx.2]
   refine ⟨.QCA,.inl QA,(Q1j (part:=QG) ho).Q2k ?_⟩
   rw [hfd]
   exact Q38 QA
 all_goals exact Qy
theorem DP (hc:Q3M) {f:Qf->PT QU} (hf:∀e Λ σ P,f e σ P->Zq c A X0 fm Λ (Q2j e X0) VR σ P) {fv:QU} {x:QI} {first:QC QU} {fx:QC QI} {es:QC Qf} {XH:Pos} {P:QU->St->Prop} {YR:QU->QC QU->PT QU}
  (hcal:∀Λ σ P vs as x,VR Λ fv x->VRs Λ vs as->YR fv vs σ P->Zq c A X0 fm Λ (Q0M x as) VR σ P)
  (hx:VR Λ fv x) (hfx:VRs Λ first fx) (hs:Am es=QM) (h:A6 f es σ fun vs σ=>Bw c.K σ fv/\YR fv (first++vs) σ P) :
  Zq c A X0 fm Λ (callWith XH x fx (Q7l XH (Q37 es X0)) []) VR σ P:=fun fz s Q E ok r q=>by
 have QGP:((Q7l XH (Q37 es X0)).any (·.1) || ([]:QC (QW X6×Sem QI)).any (·.1.QC7))=QJ:=by
  rw [AN hs];simp
 refine QFS (P:=fun h=>∃k,(k=Q9o\/k=Q7m\/k=Q5l)/\ZL (Qi XI c.w) h (QFR x) k) QGP (fun _ h=>h) ?_
 refine MY hf hs h fz s _ E ok r fun Za s' vs a XF ext p hvs r'=>?_
 obtain (⟨h1,h2⟩):=hvs
 rw [h2]
 exact ⟨Lx hc r' (Q7n ext) p.1,hcal Za XF P _ _ _ (Q7n ext) ((hfx.ext ext).Q7o h1) p.2 fz s' Q E (Yl ext) r' fun QFI s'' b a Q5Y ext' p' hr r''=>q QFI s'' b a Q5Y (QDX ext') p' hr r''⟩
end
end
end Mini
end
section
open PySem PySem.W PySem.Calls PyProof.Rows
set_option genInjectivity false
set_option genSizeOf false
namespace Mini
mutual
def Ak (Y4:QC (Yb×QU)) (k:Yb):QW QU:=(Q8N fun kv=>kv.1=k).map (·.2)
def Ce (Y4:QC (Yb×QU)) (k:Yb) (v:QU):QC (Yb×QU):=if QGv (fun kv=>XV (kv.1=k)) then Q2i (fun kv=>if kv.1=k then (kv.1,v) else kv) else Y4++[(k,v)]
def EL (Y4:QC (Yb×QU)) (k:Yb):QC (Yb×QU):=kvs.filter fun kv=>!XV (kv.1=k)
inductive KVR (Λ:Lab):QC (Yb×QU)->QC (Yb×QI)->Prop
 | Zl:KVR Λ [] []
 | Xu {k:Yb} {v:QU} {c:QI} {r:QC (Yb×QU)} {q:QC (Yb×QI)}:VR Λ v c->KVR Λ r q->KVR Λ ((k,v)::r) ((k,c)::q)
theorem QGQ {Λ:Lab}:∀ {Y4:QC (Yb×QU)} {cvs:QC (Yb×QI)},Q5j (·.1)=Q2i (·.1)->VRs Λ (Q2i (·.2)) (Q5j (·.2))->KVR Λ Y4 cvs
 | [],[],_,_=>.Zl
 | [],_::_,h,_=>by simp at h
 | _::_,[],h,_=>by simp at h
 | (k,v)::r,(k',c)::q,h,h'=>by
  simp only [XR,List.cons.injEq]at h
  obtain (⟨QA,h⟩):=h
  cases h' with | Xu a b=>exact .Xu a (QGQ h b)
theorem KVR.keys {Λ:Lab} {Y4:QC (Yb×QU)} {cvs:QC (Yb×QI)} (h:KVR Λ Y4 cvs):Q5j (·.1)=Q2i (·.1):=by
 induction h with
 | Zl=>rfl
 | Xu _ _ ih=>simp [ih]
theorem KVR.vals {Λ:Lab} {Y4:QC (Yb×QU)} {cvs:QC (Yb×QI)} (h:KVR Λ Y4 cvs):VRs Λ (Q2i (·.2)) (Q5j (·.2)):=by
 induction h with
 | Zl=>exact .Zl
 | Xu a _ ih=>exact .Xu a ih
theorem KVR.length {Λ:Lab} {Y4:QC (Yb×QU)} {cvs:QC (Yb×QI)} (h:KVR Λ Y4 cvs):Yo=Q6j:=by
 induction h with
 | Zl=>rfl
 | Xu _ _ ih=>simp [ih]
theorem KVR.get {Λ:Lab} {Y4:QC (Yb×QU)} {cvs:QC (Yb×QI)} (h:KVR Λ Y4 cvs) (k:Yb):OV Λ (Ak Y4 k) (Q4O cvs k):=by
 induction h with
 | Zl=>trivial
 | @Xu k' v c r q a b ih =>
  unfold Ak Q4O at *
  rw [Q17,Q17]
  by_cases e:k'=k
  ·simp [e];exact a
  ·simp [e];simpa using ih
theorem KVR.any {Λ:Lab} {Y4:QC (Yb×QU)} {cvs:QC (Yb×QI)} (h:KVR Λ Y4 cvs) (k:Yb):QGv (fun kv=>XV (kv.1=k))=cvs.any (fun kv=>XV (kv.1=k)):=by
 induction h with
 | Zl=>rfl
 | Xu _ _ ih=>simp only [Q68,ih]
theorem KVR.set {Λ:Lab} {Y4:QC (Yb×QU)} {cvs:QC (Yb×QI)} (h:KVR Λ Y4 cvs) (k:Yb) {v:QU} {c:QI} (hv:VR Λ v c):KVR Λ (Ce Y4 k v) (QCB cvs k c):=by
 injections Λ Y4 cvs _ k v c _
 have h1:KVR Λ (Q2i (fun kv=>if kv.1=k then (kv.1,v) else kv)) (Q5j (fun kv=>if kv.1=k then (kv.1,c) else kv)):=by
  induction h with
  | Zl=>exact .Zl
  | @Xu k' v' c' r q a b ih =>
   simp only [XR]
   by_cases e:k'=k
   ·simp only [e,Q5m];exact .Xu hv ih
   ·simp only [e,Zf];exact .Xu a ih
 have h2:KVR Λ (Y4++[(k,v)]) (cvs++[(k,c)]):=by
  clear h1
  induction h with
  | Zl=>exact .Xu hv .Zl
  | Xu a b ih=>exact .Xu a ih
 unfold Ce QCB
 rw [h.any k]
 split
 ·exact h1
 ·exact h2
theorem KVR.del {Λ:Lab} {Y4:QC (Yb×QU)} {cvs:QC (Yb×QI)} (h:KVR Λ Y4 cvs) (k:Yb):KVR Λ (EL Y4 k) (QGw cvs k):=by
 unfold EL QGw
 induction h with
 | Zl=>exact .Zl
 | @Xu k' v' c' r q a b ih =>
  rw [Q1k,Q1k]
  by_cases e:k'=k
  ·simp [e];simpa using ih
  ·simp [e];exact .Xu a (by simpa using ih)
end
section
variable {prog:Program} {w:World} {K:Type} [DecidableEq K] {knd:PySem.KeyKind prog w K} {A:Around} {E:Value->Shared->Prop} {s:Shared}
mutual
theorem Eh {d:Qq} {Y4:QC (K×QI)} {k:K} {key v:QI} {Q:QI->QZ->Prop} (Q4v:Q3f k key=QM) (hm:Q4P knd d Y4)
  (QAa:∀u,Q4O Y4 k=QB u->Q u {s with Q0P:=Y6+1})
  (hQ:Q4O Y4 k=QG->∀h',QDY knd d (QCB Y4 k v)->Z8 d QV h'->Q v {s with YL:=h',Q0P:=Y6+1})
  (hsz:Yo<=Xa) :
  Qp (Qi XC w) A (QCC d key v) Q E s:=by
 have hmap:=hm.mapOf
 obtain (⟨o,es,ep,ho,hc,hd,hk,hp,hn⟩):=hm
 have hes:Z6<=Xa:=by
  have e1:=hp.length;have e2:es.toList.length=Z6:=by simp
  exact aee hsz e1 e2
 refine XX ?_
 refine Q9 (QCD Q4v ?_)
 refine Q9 (wpAny_dictFind_of (s:={s with Q0P:=Y6+1}) Q4v ho hd hk ?_)
 have hidx:(QFT fun e=>Q3f k e.key)=kvs.findIdx? fun kv=>XV (kv.1=k):=by
  rw [<- hp.findIdx k];obtain (⟨l⟩):=es;simp
 cases hi:QFT fun e=>Q3f k e.key with
 | QB i =>
  have hl:(es.toList.findIdx? fun e=>Q3f k e.key)=QB i:=by rw [<- hi];obtain (⟨l⟩):=es;simp
  refine ew1 (hp.at hl) fun e yq5h=>?_;refine an3 yq5h fun he hek hev=>?_;clear yq5h
  refine Q9 (wpAny_dictEntries (s:={s with Q0P:=Y6+1}) ho hd ?_)
  have he':es[i]?=QB e:=by rw [<- he];obtain (⟨l⟩):=es;simp
  rw [he']
  exact Q9 (Q0X (QF (QAa e.val hev)))
 | QG =>
  have hnot:k∉Q2i (·.1):=not_mem_of_findIdx_none (hidx▸hi)
  have hany:¬(QGv fun kv=>XV (kv.1=k))=QM:=by
   rw [Q4A];rintro ⟨kv,hkv,he⟩
   exact hnot (Q0D ⟨kv,hkv,YD he⟩)
  have hva:Q4O Y4 k=QG:=by
   unfold Q4O
   rw [Q3g,Q3N]
   intro x hx q
   exact hnot (Q0D ⟨x,hx,by simpa using q⟩)
  refine Q9 (Q0X (Q9 (wpAny_updateDictKeys (hz:=hes) (s:={s with Q0P:=Y6+1}) ho hd (QF (hQ hva _ ⟨_,_,ep+1,XO _ ho (Obj.isFreed_of_dict (Q7p hd _)),
   hc.mapDictKeys _,Q7p hd _,hk.push Q4v _,?_,?_⟩ (XU ..))))))
  ·rw [QCB,QN hany]
   have:=hp.append Q4v (Q3h k) v
   obtain (⟨l⟩):=es
   simpa using this
  ·rw [QCB,QN hany,Qt,Q5n]
   refine ⟨hn,by simp,?_⟩
   intro a ha b hb
   simp only [XR,Q4w,Xi]at hb
   subst hb
   exact fun e=>hnot (e▸ha)
theorem E3 {d:Qq} {Y4:QC (K×QI)} {k:K} {key v:QI} {Q:QI->QZ->Prop} (Q4v:Q3f k key=QM) (hm:Q4P knd d Y4) (hds:(d == Q3L)=QJ)
  (QAa:∀u,Q4O Y4 k=QB u->Q u {s with Q0P:=Y6+1})
  (hQ:Q4O Y4 k=QG->∀h',QDY knd d (QCB Y4 k v)->Z8 d QV h'->Q v {s with YL:=h',Q0P:=Y6+1})
  (hsz:Yo<=Xa):Qp (Qi XC w) A (Q0M (.Qd "dict.setdefault") [.QP d,key,v]) Q E s:=by
 refine Y2 Q4g hm.typeIs PySem.F.entry_dict_setdefault ?_ (PySem.F.args_dict_setdefault_3 _ _ _)
 unfold Builtin.«dict.setdefault»
 refine Q9 ?_
 refine Q9 (wpAny_notOrdered_dict hm.typeIs ?_)
 refine QF ?_
 show Qp _ _ (if (d == Q3L)=QM then _ else (QCC d key v >>= _)) _ _ s
 rw [QN (by rw [hds];exact Qj)]
 exact Q9 (Eh Q4v hm (fun u hu=>QF ⟨u,QA,QAa u hu⟩) (fun hn h' hd' hs=>QF ⟨v,QA,hQ hn h' hd' hs⟩) hsz)
theorem Gy {d:Qq} {Y4:QC (K×QI)} {k:K} {key:QI} {Q:YV->QZ->Prop} (Q4v:Q3f k key=QM) (hD:Q4P knd d Y4) (hl:(Q4O Y4 k).QAT=QM) (hsz:Yo<=Xa)
  (h:∀h',QDY knd d (QGw Y4 k)->Z8 d QV h'->Q () {s with YL:=h',Q0P:=Y6+1}):Qp (Qi XC w) A (QGx (.QP d) key) Q E s:=by
 unfold QGx
 try with_reducible refine XX ?_
 refine Q9 (wpAny_sequenceKey Q8O (by decide) ?_)
 refine Q9 (YH (Q1u:=Qb "__delitem__") Q8O Q5a
  (Q9p Q5a Q8O PySem.F.entry_dict_delitem (PySem.F.args_dict_delitem_2 _ _) (meets_dict_delitem_pairs knd d Q4v) ⟨Y4,hD,hsz,hl,fun h' hmm hs=>?_⟩))
 exact QF (h h' hmm hs)
end
end
end Mini
end
section
open PySem PySem.W PySem.Calls PyProof.Rows
set_option genInjectivity false
set_option genSizeOf false
set_option maxRecDepth 8000
set_option maxHeartbeats 1000000
namespace Mini
mutual
theorem F0:Q3i Q9q "set.__iter__"=QB Builtin.«frozenset.__iter__» :=
 Q3j (id':="frozenset.__iter__") (by kernel_rfl) (by decide +XB) (by decide +XB) (by kernel_rfl)
theorem AM:QFU "set_iterator" "__next__" "set_iterator.__next__" :=
 .of (Q7f:="set_iterator") (n:="__next__") (by rw [YE,Xf];kernel_rfl) (by decide +XB) (by decide +XB) (by decide +XB)
  (by first | exact .inl (by decide +XB) | exact .inr (by decide +XB)) (by rw [YS];kernel_rfl)
theorem DA:Q3i Q9q "set_iterator.__next__"=QB Builtin.«set_iterator.__next__»:=Q2l (by kernel_rfl)
theorem D8 (a:QI):Q4B "set_iterator.__next__" ⟨[a],[]⟩:=by unfold Q4B;kernel_rfl
theorem DO:QFU "set_iterator" "__iter__" "set_iterator.__iter__" :=
 .of (Q7f:="set_iterator") (n:="__iter__") (by rw [YE,Xf];kernel_rfl) (by decide +XB) (by decide +XB) (by decide +XB)
  (by first | exact .inl (by decide +XB) | exact .inr (by decide +XB)) (by rw [YS];kernel_rfl)
theorem Gv:Q3i Q9q "set_iterator.__iter__"=QB Builtin.«dict_keyiterator.__iter__» :=
 Q3j (id':="dict_keyiterator.__iter__") (by kernel_rfl) (by decide +XB) (by decide +XB) (by kernel_rfl)
theorem H1 (a:QI):Q4B "set_iterator.__iter__" ⟨[a],[]⟩:=by unfold Q4B;kernel_rfl
theorem BG {α:Type}:∀ {l:QC α} {i:QH} (h:i < ZF),(l[i]::l.eraseIdx i).Perm l
 | x::r,0,_=>.Q1H _
 | x::r,i+1,h=>by
  rw [Q6k,List.eraseIdx_cons_succ]
  exact (List.Perm.swap _ _ _).QR (Q5G x (BG (by simpa using h)))
theorem Hu {M:Model} {A:Q2t} {src:Source} {n:QH} {Q:QH->QZ->Prop} {E:QI->QZ->Prop} {s:QZ} (h0:n≠0) (h:∀i dr,i < n->Q i {s with Q34:=dr}):Qp M A (choose src n) Q E s:=fun Γ p hΓ=>by
 show Sem.wp M Γ (.choose src n fun x=>.ZU x) _ _ p s
 rw [Sem.wp_choose]
 exact ⟨h0,h _ _ (QCE _ (Q5H h0))⟩
end
section
variable {prog:Program} {w:World} {A:Around} {E:Value->Shared->Prop} {s:Shared}
mutual
theorem ET {α:Type} (n:QH):∀(xs:QC α) (s:QZ) (Q:QC α->QZ->Prop),Qn<=n->(∀ys dr,ys.Perm xs->Q ys {s with Q34:=dr})->Qp (Qi XC w) A (drawOrder n xs) Q E s:=by
 induction n with
 | Q2Q =>
  intro xs s Q hl h
  have e:=List.eq_nil_of_length_eq_zero (Q7q hl)
  subst e
  exact QF (h [] Q1G .Zl)
 | Q2R n ih =>
  intro xs s Q hl h
  cases xs with
  | Zl=>exact QF (h [] Q1G .Zl)
  | Xu x r =>
   refine Q9 (Hu (Nat.succ_ne_zero _) fun i dr hi=>?_)
   rw [Qg hi]
   refine Q9 (ih _ _ _ (by rw [Q5I hi];exact Nat.pred_le_iff.mpr hl) fun ys dr' hp=>QF (h _ dr' ?_))
   exact (Q5G _ hp).QR (BG hi)
theorem AW {Q:Qu->QZ->Prop} (h:Q (Aq w) s):Qp (Qi XC w) A setsByText Q E s:=by
 exact Q9 (Q1l (QF h))
structure Q5o (w:Q6I) (h:ZP) (a:Qq) (es:XM (X3×QI)) (ep:QH) (t:Y0):Prop where
 at':∃o,Q03 a=QB o/\Q6d/\Q1v=.set es ep t
 fits:t.fits Z6=QM
 good:Q2s (Aq w) t
theorem TO {α:Type} (f:QH->QH) (n k:QH) (l:QC α) (acc:XM α):Q9r f (n+1) k l acc=(match l[f k % ZF]? with | QB x=>Q9r f n (k+1) (l.eraseIdx (f k % ZF)) (Q9s x) | QG=>acc):=QA
theorem DU {α:Type} (f:QH->QH):∀(n k:QH) (l:QC α) (acc:XM α),ZF=n->(Q9r f n k l acc).QFV (Q4C++l)
 | 0,k,l,acc,h=>by
  have:=Zu h;subst this
  show acc.toList.Perm (Q4C++[]);simp
 | n+1,k,l,acc,h=>by
  rw [TO]
  have hi:f k % ZF < ZF:=QCE _ (by exact Ma h)
  rw [Qg hi]
  dsimp only
  refine (DU f n (k+1) _ _ (by rw [Q5I hi];exact adx h)).QR ?_
  rw [Q3k,Q0S]
  exact Q7N _ (BG hi)
theorem CY {α:Type} (f:QH->QH) (xs:XM α):(Q55 f xs).QFV QDQ:=by
 unfold Q55
 simpa using DU f Q5f 0 QDQ #[] (by simp)
inductive Way where
 | QD4 (ys:XM (X3×QI))
 | Q4U
 | Q34 (tup:Qq) (ps:QC QH)
instance:Q25 Way:=⟨.Q4U⟩
def Yq (t:Y0):QH->QH
 | 0=>0
 | i+1=>t.place.getD i 0+1
def Q2m (t:Y0):Way->QH->QI
 | .QD4 _,_=>.Qm 0 0
 | .Q4U,i=>.Qm (slotAt t i:X3) 0
 | .Q34 tup _,_=>.QP tup
def Q8P (es:XM (X3×QI)):Way->QC QI
 | .QD4 ys=>ys.toList.map (·.2)
 | .Q4U=>Q39 (·.2)
 | .Q34 _ ps=>Q13 fun p=>(Q39 (·.2)).Q4f p .QG
def Way.ok (w:Q6I) (a:Qq) (es:XM (X3×QI)) (ep:QH) (t:Y0):Way->ZP->Prop
 | .QD4 ys,_=>Aq w=QM/\ys=Q55 (Q1I a ep) es
 | .Q4U,_=>Aq w=QJ/\(Q8Q=QM\/Z6<=1)
 | .Q34 tup ps,h=>(Aq w=QJ/\ps.Perm (X5 Z6))/\∃o n,Q03 tup=QB o/\Q1v=.seq (Q13 fun (p:QH)=>Q54 (p:X3) 0).Xe n
def Way.own (I:Qq):Way->QC Qq
 | .Q34 tup _=>[I,tup]
 | _=>[I]
def Hp (w:Q6I) (a:Qq) (es:XM (X3×QI)) (ep:QH) (t:Y0) (I:Qq) (y:Way) (i:QH) (h:ZP):Prop :=
 (∃o,Q03 I=QB o/\Q4o=.Qk "set_iterator"/\Q1v=.Xo #[y.first t i,.Qm i 0,.QP a,.Qm Z6 0,.Qm ep 0])/\y.ok w a es ep t h
theorem Way.items_perm {w:Q6I} {a:Qq} {es:XM (X3×QI)} {ep:QH} {t:Y0} {h:ZP}:∀(y:Way),y.ok w a es ep t h->(y.items es).Perm (Q39 (·.2))
 | .QD4 ys,k=>by
  have:=k.2;subst this
  exact (CY _ es).map _
 | .Q4U,k=>.Q1H _
 | .Q34 tup ps,k=>by
  have:=k.1.2.map fun p=>(Q39 (·.2)).Q4f p .QG
  refine this.trans (List.Perm.of_eq ?_)
  refine List.ext_getElem (by simp) fun i h1 h2=>?_
  simp at h1 h2
  simp [h2]
theorem HF {t:Y0} (hr:Ey ZR) {i:QH} (hi:i<=Q1y):Xd ZR (Yq t i)=i:=by
 refine an3 (Jj ZR (Yq t i) hr) fun h1 h2 h3=>?_
 have lt:∀k,k < i->k < Xd ZR (Yq t i):=by
  intro k hk
  rcases Q3l k (Xd ZR (Yq t i)) with h | h
  ·exact h
  ·exfalso
   have hks:k < Q1y:=by exact Be hi hk
   have:=h3 k ZR[k] (by simp [hks]) h
   cases i with
   | Q2Q=>exact adw hk
   | Q2R i =>
    have e:Yq t (i+1)=ZR[i]'(by exact Kr hi)+1:=by simp [Yq,X9,show i < Q1y by exact Kr hi]
    rw [e]at this
    rcases Q3l k i with q | q
    ·have:=hr.lt (i:=k) (k:=i) (a:=ZR[k]) (b:=ZR[i]'(by exact Kr hi)) (by simp [hks]) (by simp [show i < Q1y by exact Kr hi]) q
     exact adv (by assumption) this
    ·have:k=i:=by exact adu hk q
     subst this;omega
 have ge:Xd ZR (Yq t i)<=i:=by
  rcases Q3l i (Xd ZR (Yq t i)) with h | h
  ·exfalso
   have his:i < Q1y:=by exact Be h1 h
   have:=h2 i ZR[i] (by simp [his]) h
   cases i with
   | Q2Q=>simp [Yq]at this
   | Q2R i =>
    have e:Yq t (i+1)=ZR[i]'(by exact GO his)+1:=by simp [Yq,X9,show i < Q1y by exact GO his]
    rw [e]at this
    have:=hr.lt (i:=i) (k:=i+1) (a:=ZR[i]'(by exact GO his)) (b:=ZR[i+1]'his) (by simp [show i < Q1y by exact GO his]) (by simp [his]) (by exact Hq)
    exact adt (by assumption) this
  ·exact h
 rcases Q3l (Xd ZR (Yq t i)) i with h | h
 ·exact Xc (lt _ h) (XY _)
 ·exact Kw ge h
theorem SetAt.noDrawn {h:ZP} {a:Qq} {es:XM (X3×QI)} {ep:QH} {t:Y0} (S:Q5o w h a es ep t):Q1y=Z6:=by
 have:=S.fits
 simp only [SetTable.fits,X7,ZJ]at this
 exact this.1
theorem Au {a:Qq} {es:XM (X3×QI)} {ep:QH} {t:Y0} {Q:(XM (X3×QI)×QH×Y0)->QZ->Prop} (S:Q5o w QV a es ep t) (h:Q (es,ep,t) s):Qp (Qi XC w) A (setState a) Q E s :=
 let ⟨_,ho,_,hd⟩:=S.at';Q9t ho hd S.fits h
theorem Hd {a:Qq} {es:XM (X3×QI)} {ep i:QH} {t:Y0} {Q:QW (QI×QH)->QZ->Prop} (S:Q5o w QV a es ep t) (hb:Aq w=QM)
  (h:Q ((Q55 (Q1I a ep) es)[i]?.map fun e=>(e.2,0)) s):Qp (Qi XC w) A (setNext a 0 i ep) Q E s:=by
 injections XC w A E s a es ep i t Q _ _ _
 refine Q9 (Au S ?_)
 refine Q9 (AW ?_)
 rw [hb]
 rw [QY QA]
 rw [QN (by simp)]
 refine Q9 (Q9 (Au S ?_))
 refine Q9 (AW ?_)
 rw [hb]
 rw [QY QA]
 refine Q9 (Q1l ?_)
 exact QF (QF h)
theorem FJ {a:Qq} {es:XM (X3×QI)} {ep i:QH} {t:Y0} {Q:QW (QI×QH)->QZ->Prop} (S:Q5o w QV a es ep t) (hb:Aq w=QJ) (hp:Q8Q=QM\/Z6<=1) (hi:i<=Z6)
  (h:Q (es[i]?.map fun e=>(e.2,Yq t (i+1))) s):Qp (Qi XC w) A (setNext a (Yq t i) i ep) Q E s:=by
 injections XC w A E s a es ep i t Q _ _ _ _ _
 have hsz:=S.noDrawn
 refine Q9 (Au S ?_)
 refine Q9 (AW ?_)
 rw [hb]
 rw [QN Qj]
 have hd:(!Q8Q&&XV (Z6 > 1))=QJ:=by
  rcases hp with h | h
  ·rw [h];rfl
  ·rw [show XV (Z6 > 1)=QJ from Yf (by exact adr h),QCF]
 show Qp _ _ (if (!Q8Q&&XV (Z6 > 1))=QM then _ else _) _ _ _
 rw [QN (by rw [hd];simp)]
 have hl:t.led=QM:=by rw [S.good.led,hb];rfl
 refine Q9 ?_
 show Qp _ _ (if (!t.led&&!es.isEmpty)=QM then _ else _) _ _ _
 rw [QN (by rw [hl];simp)]
 refine QF ?_
 rw [HF S.good.rise (by rw [hsz];exact hi)]
 refine QF ?_
 rcases Q3l i Z6 with hlt | hge
 ·rw [Q04 hlt]at h ⊢
  rw [Q04 (by rw [hsz];exact hlt)]
  simpa [Yq,X9,hsz,hlt] using h
 ·rw [Q1z hge]at h ⊢
  exact h
theorem JJ {a:Qq} {es:XM (X3×QI)} {ep p:QH} {t:Y0} {Q:QI->QZ->Prop} {x:QI} (S:Q5o w QV a es ep t) (hx:(Q39 (·.2))[p]?=QB x) (h:Q x s):Qp (Qi XC w) A (setNextDrawn a p ep) Q E s:=by
 refine Q9 (Au S ?_)
 dsimp only
 rw [QN (by simp)]
 rw [QT,Q40]at hx
 refine ew1 (Ym hx) fun e yq5K=>?_;refine an2 yq5K fun he yq5L=>?_;obtain QA:=yq5L;clear yq5K
 rw [he]
 exact QF h
end
end
end Mini
end
section
open PySem PySem.W PySem.Calls PyProof.Rows
set_option maxRecDepth 100000
set_option maxHeartbeats 1000000
namespace Mini
section
variable {prog:Program} {w:World} {A:Around} {E:Value->Shared->Prop} {s:Shared} {K:Type} [DecidableEq K] {knd:PySem.KeyKind prog w K}
mutual
def Ga (knd:Q61 XC w K) (h:ZP) (a:Qq) (S:K->Qu) (n:QH):Prop :=
 ∃o es ep t,Q03 a=QB o/\Q6d/\Q1v=.set es ep t/\QEE knd Q6L/\(∀k,S k=QM↔∃e∈Q6L,Q3f k e.2=QM)
  /\ Z6 < Q47/\t.fits Z6=QM/\Z6=n/\Q2s (Aq w) t
theorem Ga.setOf {h:ZP} {a:Qq} {S:K->Qu} {n:QH} (g:Ga knd h a S n):h.SetOf knd a S n :=
 ew4 g fun o es ep t h=>an9 h fun h1 h2 h3 h4 h5 h6 h7 h8 _=>⟨o,es,ep,t,h1,h2,h3,h4,h5,h6,h7,h8⟩
theorem ME {h:ZP} {a:Qq} {o:ZC} {es:XM (X3×QI)} {ep:QH} {t:Y0} (ho:Q03 a=QB o) (hex:Q6d) (hd:Q1v=.set es ep t)
  {es':XM (X3×QI)} {t':Y0} {S':K->Qu} (hel:QEE knd es'.toList) (QD5:∀k,S' k=QM↔∃e∈es'.toList,Q3f k e.2=QM) (hb:QFW < Q47) (hf:t'.fits QFW=QM) (hg:Q2s (Aq w) t') :
  (h.update a (QCG es' t')).QBP a=QB {o with YA:=.set es' (ep+1) t'}/\Ga knd (h.update a (QCG es' t')) a S' QFW:=by
 obtain (⟨h1,_⟩):=SetOf_store (knd:=knd) ho hex hd hel QD5 hb hf
 exact ⟨h1,_,es',ep+1,t',h1,hex,QA,hel,QD5,hb,hf,QA,hg⟩
theorem F9 {g:Qu->Sem YV} (hg:∀(b:Qu) (Q1m:QZ) (Q':YV->QZ->Prop),Q' () Q1m->Qp (Qi XC w) A (g b) Q' E Q1m)
  {a:Qq} {o:ZC} {es:XM (X3×QI)} {ep:QH} {t:Y0} (ho:Qc a=QB o) (hex:Q6d) (hd:Q1v=.set es ep t)
  {es1:XM (X3×QI)} {t2:Y0} {S':K->Qu} (hel1:QEE knd es1.toList) (QDZ:∀k',S' k'=QM↔∃e∈es1.toList,Q3f k' e.2=QM)
  (hb1:Q3A < Q47) (hf2:t2.fits Q3A=QM) (hgt:Q2s (Aq w) t2) {QFX:Qu} {R:QW Qu->QZ->Prop}
  (h:∀h',Z8 a QV h'->Ga knd h' a S' Q3A->R (QB QM) {s with YL:=h'}) :
  Qp (Qi XC w) A (do
    storeSet a es1 t2
    if (!QFX&&t2.tooFull)=QM then do
      g (Q9g t2 es1 (Q1n Q3A)).2.2
      storeSet a (Q9g t2 es1 (Q1n Q3A)).1 (Q9g t2 es1 (Q1n Q3A)).2.1
      ZU (QB QM)
     else ZU (QB QM)) R E s:=by
 obtain (⟨g1,G1⟩):=ME (knd:=knd) ho hex hd hel1 QDZ hb1 hf2 hgt
 refine Q9 (Q9u ho hd ?_ (Q9v hb1))
 have sb:=XU QV a (QCG es1 t2)
 cases hc:(!QFX&&t2.tooFull) with
 | QJ=>rw [QN Qj];exact QF (h _ sb G1)
 | QM =>
  rw [QY QA]
  have hp:=relayAll_perm t2 es1 (Q1n Q3A)
  have hfr:=relayAll_fits t2 es1 (Q1n Q3A)
  have hgr:=hgt.relayAll es1 (Q1n Q3A)
  refine Q9 (hg _ _ _ ?_)
  have hsz:(Q9g t2 es1 (Q1n Q3A)).1.size=Q3A:=by rw [<- Q00,QEK,Q00]
  obtain (⟨_,G2⟩):=ME (knd:=knd) g1 hex QA (hel1.perm hp) (fun k'=>(QDZ k').QR ⟨fun ⟨e,he,q⟩=>⟨e,hp.mem_iff.mpr he,q⟩,fun ⟨e,he,q⟩=>⟨e,hp.mem_iff.mp he,q⟩⟩) (by rw [hsz];exact hb1) hfr hgr
  refine Q9 (Q9u g1 QA ?_ (Q9v (by rw [hsz];exact hb1)))
  rw [hsz]at G2
  exact QF (h _ (sb.trans (XU _ a _)) G2)
theorem Kc {a:Qq} {S:K->Qu} {n:QH} {k:K} {x:QI} {Q:Qu->QZ->Prop} (Q4v:Q3f k x=QM) (hsc:QFY=QM) (hS:Ga knd QV a S n) (QFZ:n+1 < Q47)
  (h:∀h',Z8 a QV h'->Ga knd h' a (fun k'=>S k' || XV (k'=k)) (if S k then n else n+1)->Q (!S k) {s with YL:=h'}) :
  Qp (Qi XC w) A (QEL a x (Q3h k)) Q E s:=by
 obtain (⟨o,es,ep,t,ho,hex,hd,hel,QD5,hb,hf,hn,hgt⟩):=hS
 unfold QEL setAddHashedIn
 refine XX (Q9 (Q9t ho hd hf ?_))
 dsimp only
 rw [byScan_of hsc hb hel]
 simp only [↓reduceIte]
 unfold setAddByScan
 refine Q9 (Q9 (Q0X (Q9 (wpAny_setScan_of Q4v ho hd hf hel ?_))))
 cases hr:List.findIdx? (fun e=>Q3f k e.2) Q6L with
 | QB j =>
  obtain (⟨hj,hpj,_⟩):=List.findIdx?_eq_some_iff_getElem.mp hr
  have hSk:S k=QM:=(QD5 k).mpr ⟨Q6L[j],Q0E hj,hpj⟩
  have:=h QV (Q5p a QV) ⟨o,es,ep,t,ho,hex,hd,hel,fun k'=>by
   rw [Q27,Xl,<- QD5 k']
   exact ⟨fun hk=>hk.elim id fun e=>e▸hSk,.inl⟩,hb,hf,by rw [hSk];exact hn,hgt⟩
  rw [hSk]at this
  exact QF (QF this)
 | QG =>
  have hSk:S k=QJ:=by
   cases hk:S k with
   | QJ=>rfl
   | QM=>refine ew1 ((QD5 k).mp hk) fun e yq5S=>?_;refine an2 yq5S fun he hp=>?_;clear yq5S;have:=List.findIdx?_eq_none_iff.mp hr e he;rw [hp]at this;cases this
  have hgw:∀(b:Qu) (Q1m:QZ) (Q':YV->QZ->Prop),Q' () Q1m->Qp (Qi XC w) A (match b with | QM=>rule "set.scan.the-table-gave-way" | QJ=>ZU ()) Q' E Q1m :=
   fun b Q1m Q' hq=>by cases b <;> first | exact QF hq | exact Q0X hq
  have QFa:=layNew_perm t es (Q3h k) x
  have hfits:=layNew_fits t es (Q3h k) x
  have hgood:=hgt.layNew es (Q3h k) x
  dsimp only
  rw [Q3k]at QFa
  have Q2U:(QBy t es (Q3h k) x).1.size=n+1:=by rw [<- Q00,hperm.length_eq,Xw,Q00,hn];rfl
  have hel1:=(hel.push Q4v hsc).perm QFa
  have QDZ:∀k',(S k' || XV (k'=k))=QM↔∃e∈(QBy t es (Q3h k) x).1.toList,Q3f k' e.2=QM:=mem_push_iff Q4v QD5 QFa
  have hb1:(QBy t es (Q3h k) x).1.size < Q47:=by rw [Q2U];exact QFZ
  refine Q9 (hgw _ _ _ ?_)
  have fin:∀h',Z8 a QV h'->Ga knd h' a (fun k'=>S k' || XV (k'=k)) (QBy t es (Q3h k) x).1.size->Q QM {s with YL:=h'}:=fun h' hs hG=>by
   have:=h h' hs
   rw [hSk]at this
   rw [Q2U]at hG
   exact this hG
  cases hp:(QBy t es (Q3h k) x).2.1.Q4U with
  | QM =>
   rw [QY QA]
   refine Q9 ?_
   rw [hashByValue_scannable 8 hsc]
   refine QF ?_
   cases plainKind x with
   | QM =>
    refine F9 hgw ho hex hd hel1 QDZ hb1 hfits hgood fun h' hs hG=>QF (fin h' hs hG)
   | QJ =>
    refine F9 hgw ho hex hd hel1 QDZ hb1 (SetTable.fits_plain_off hfits) hgood.noPlain fun h' hs hG=>QF (fin h' hs hG)
  | QJ =>
   rw [QN Qj]
   refine Q9 (QF ?_)
   refine F9 hgw ho hex hd hel1 QDZ hb1 hfits hgood fun h' hs hG=>QF (fin h' hs hG)
theorem LL {a:Qq} {S:K->Qu} {n:QH} {k:K} {key:QI} {Q:QI->QZ->Prop} (Q4v:Q3f k key=QM) (hsc:QD6=QM) (hS:Ga knd QV a S n) (QFZ:n+1 < Q47)
  (h:∀h',Z8 a QV h'->Ga knd h' a (fun k'=>S k' || XV (k'=k)) (if S k then n else n+1)->Q .QG {s with YL:=h',Q0P:=Y6+1}) :
  Qp (Qi XC w) A (Q0M (.Qd "set.add") [.QP a,key]) Q E s:=by
 refine Y2 Q7r hS.setOf.typeIs PySem.F.entry_set_add ?_ (PySem.F.args_set_add_2 _ _)
 unfold Builtin.«set.add» Q5J
 simp only [QAb,QCH]
 unfold Q3B setAdd
 refine Q9 (QF (Q9 (QF (Q9 (XX (Q9 (QCD Q4v ?_)))))))
 exact Kc (s:={s with Q0P:=Y6+1}) Q4v hsc hS QFZ fun h' hs hG=>QF ⟨_,QA,h h' hs hG⟩
theorem JT:Q2s (Aq w) (.QDa 0 0 (!(Aq w))):=⟨QA,QA,by unfold Ey;simp [SetTable.fresh]⟩
theorem Gz {Q₁:QI->QZ->Prop}
  (h:Q₁ (.QP QD) {s with YL:=XK {cls:=.Qk "set",Q01:=QG,YA:=.set #[] 0 (.QDa 0 0 (!(Aq w)))}}) :
  Q1J (Qi XC w) A (.Q0M (.Qd "set.__new__") ⟨[.Qk "set"],[]⟩) (wants Q₁ E) s:=by
 injections XC w A E s Q₁ _
 refine Q28 ?_
 show Qp _ Q8u (do Q6Q "set.__new__" ⟨[.Qk "set"],[]⟩;QBH (.Qd "set.__new__" ⟨[.Qk "set"],[]⟩)) _ _ s
 refine Q9 (Zi PySem.F.newCall_set_0 (QF ⟨Q2C Q7O _,ZV PySem.F.entry_set_new ?_⟩))
 rw [Zj Q7O _]
 unfold Builtin.«set.__new__» Builtin.Frozenset.newClass
 have hsub:=sub_set_self
 obtain ⟨hp,g,d,tk,os⟩:=s
 dsimp only
 wp_walk
 refine Q1l (QF ?_)
 dsimp only
 simp only [newObj]
 exact Q9 (wpAny_alloc (QF (QF h)))
theorem Jg {Q:QI->QZ->Prop}
  (h:Q (.QP QD) {s with YL:=XK {cls:=.Qk "set",Q01:=QG,YA:=.set #[] 0 (.QDa 0 0 (!(Aq w)))}}) :
  Qp (Qi XC w) A (Q0M (.Qk "set") []) Q E s:=by
 injections XC w A E s Q _
 obtain ⟨c,tl,hmro⟩:=PySem.F.called_set.mro
 have hmade:=PySem.F.called_set.made
 have hsub:=PySem.F.called_set.sub
 have h1:=PySem.F.called_set.notType
 have h2:=PySem.F.called_set.canCreate
 have hct:=PySem.F.typeCall_set_0
 refine Q20 (Q28 ?_)
 show Qp _ _ (callAny (.Qk "set") _) _ _ _
 refine QF ⟨Q21 _ (by decide +XB),ZV PySem.F.entry_type_call ?_⟩
 rw [Around.under_plain (weight_type_call_type "set" [] []) QA]
 repeat (any_goals (first | assumption | wp_step))
 refine Q9w (Gz (E:=E) (Q₁:=fun obj Q1m=>obj=.QP QD/\Q1m={s with YL:=XK {cls:=.Qk "set",Q01:=QG,YA:=.set #[] 0 (.QDa 0 0 (!(Aq w)))}}) ⟨QA,QA⟩) ?_;intros r Q1m hr
 rcases r with e | (obj | _ | _ | _) <;> first | exact hr | exact hr.elim | skip
 obtain ⟨QA,QA⟩:=hr
 have hS:(XK {cls:=.Qk "set",Q01:=QG,YA:=.set #[] 0 (.QDa 0 0 (!(Aq w)))}).QBP QD=QB {cls:=.Qk "set",Q01:=QG,YA:=.set #[] 0 (.QDa 0 0 (!(Aq w)))}:=X2 _ QA
 have hT:Shared.TypeIs {s with YL:=XK {cls:=.Qk "set",Q01:=QG,YA:=.set #[] 0 (.QDa 0 0 (!(Aq w)))}} (.QP QD) "set":=⟨_,hS,QA⟩
 have hli:=PySem.F.called_set.init.lookup
 have hbi:=PySem.F.called_set.init.bind (.QP QD)
 repeat (any_goals (first | assumption | wp_step))
 refine Q9w (Q2V (R:=wants (fun r QCI=>r=.QG/\Q (.QP QD) QCI) E) PySem.F.called_set.init.plain PySem.F.entry_set_init (check_set_init hT ?_)) ?_
 ·unfold Builtin.«set.__init__» noKeywords
  wp_walk
  exact ⟨QA,h⟩
 intros r₂ QCI hr₂
 ·rcases r₂ with e | (r | _ | _ | _) <;> first | exact hr₂ | exact hr₂.elim | skip
  obtain ⟨QA,hq⟩:=hr₂
  repeat (any_goals (first | assumption | wp_step))
end
end
end Mini
end
section
open PySem PySem.W PySem.Calls PyProof.Rows
namespace Mini
mutual
def BJ (Y4:QC (X6×QU)) (x:X6):QW QU:=(Q8N fun kv=>kv.1 == x).map (·.2)
def BC (x:X6) (v:QU):QC (X6×QU)->QC (X6×QU)
 | []=>[(x,v)]
 | (y,u)::r=>if y == x then (y,v)::r else (y,u)::BC x v r
theorem HZ (x:X6) (v:QU) (y:X6) (u:QU) (r:QC (X6×QU)):BC x v ((y,u)::r)=if y == x then (y,v)::r else (y,u)::BC x v r:=QA
theorem ERs.get {w:Q6I} {Λ:Lab} (x:X6):∀ {Y4:QC (X6×QU)} {es:QC ZS},ERs w Λ Y4 es->∃ov,getL x es=QB ov/\OV Λ (BJ Y4 x) ov
 | [],[],_=>⟨QG,QA,ZN⟩
 | (y,v)::r,e::es,⟨⟨t,hk⟩,hh,hv,hr⟩=>by
  refine ew1 (ERs.get x hr) fun ov yq0y=>?_;refine an2 yq0y fun h1 h2=>?_;clear yq0y
  have hks:QFb x=(y == x):=by rw [hk];rfl
  have hrk:e.refKey=QJ:=by unfold DictEntry.refKey;rw [hk]
  cases hyx:(y == x) with
  | QM=>exact ⟨QB e.val,by simp [getL,Q17,hks,hyx],by simp [BJ,Q17,hyx];exact hv⟩
  | QJ =>
   refine ⟨ov,?_,?_⟩
   ·rw [<- h1];simp only [getL,Q17,hks,hyx,Q68,hrk,Q2D]
   ·simp only [BJ,Q17,hyx];exact h2
 | [],_::_,h=>Qy
 | _::_,[],h=>Qy
theorem ERs.set {w:Q6I} {Λ:Lab} (x:X6) {v:QU} {c:QI} (tk:Tok) (hv:VR Λ v c):∀ {Y4:QC (X6×QU)} {es:QC ZS},ERs w Λ Y4 es ->
  ERs w Λ (BC x v Y4) (putL x (QL Q0K x) (.Xs x tk) c es)/\putN x es Yo=(BC x v Y4).ZT
 | [],[],_=>⟨⟨⟨_,QA⟩,QA,hv,ZN⟩,QA⟩
 | (y,u)::r,e::es,⟨⟨t,hk⟩,hh,hu,hr⟩=>by
  obtain (⟨h1,h2⟩):=ERs.set x tk hv hr
  have hks:QFb x=(y == x):=by rw [hk];rfl
  cases hyx:(y == x) with
  | QM =>
   simp only [putL,HZ,putN,Q68,hks,hyx,Q5m,Q9x]
   exact ⟨⟨⟨t,hk⟩,hh,hv,hr⟩,QA⟩
  | QJ =>
   simp only [putL,HZ,putN,Q68,hks,hyx,Q2D,XQ,Zf]
   refine ⟨⟨⟨t,hk⟩,hh,hu,h1⟩,?_⟩
   unfold putN at h2
   rw [XZ,XZ,<- h2]
   split <;> rfl
 | [],_::_,h=>Qy
 | _::_,[],h=>Qy
theorem ERs.length {w:Q6I} {Λ:Lab}:∀ {Y4:QC (X6×QU)} {es:QC ZS},ERs w Λ Y4 es->Yo=QAc
 | [],[],_=>QA
 | (y,v)::r,e::es,h=>by rw [XZ,XZ,ERs.length h.2.2.2]
 | [],_::_,h=>Qy
 | _::_,[],h=>Qy
def KJ (K:Q1A) (C:Qq) (x:X6):Qu:=plainGet K C x&&hasDictIn K C&&(QGR K (.QP C) x == QB QG)
def IA (K:Q1A) (C:Qq) (x:X6):Qu:=(QGR K (.QP C) "__setattr__" == QB (QB (.Qd "object.__setattr__")))&&plainOver K C&&(takerIn K C x == QB QG)&&hasDictIn K C
def Ch (K:Q1A) (C:Qq) (x:X6) (f:Qq):Qu:=plainGet K C x&&(QGR K (.QP C) x == QB (QB (.QP f)))&&isFn K (.QP f)
def Bf:QU->Qu
 | .imm u=>handedIn u
 | _=>QM
theorem Jn {Λ:Lab} {v:QU} {c:QI} (h:Bf v=QM) (hv:VR Λ v c):handedIn c=QM:=by
 cases v
 ·cases hv;rfl
 ·cases hv;rfl
 ·obtain (⟨t,QA⟩):=hv;rfl
 ·obtain (⟨t,QA⟩):=hv;rfl
 ·rw [hv.2];rfl
 ·cases hv;exact h
end
section
variable {c:Cx} {A:Around} {env:Env} {fm:Fm} {Λ:Lab} {σ:St}
mutual
theorem Rel.instV {fz:Qq->QW ZC} {L:Qq} {s:QZ} (R:Rel c fz L Λ σ s) {l d:QH} {C:Qq} {Y4:QC (X6×QU)} {a:QI} (hv:VR Λ (.QP l) a) (h:QS l=.Q5C C d) (h':QS d=.Q1V Y4) :
  a=.QP (Xr l)/\d < QO/\∃es,InstAt QV (Xr l) (instObj C (Xr d)) C (QB (dictOf es Yo))/\Qc (Xr d)=QB (dictOf es Yo)/\ERs c.w Λ Y4 es:=by
 injections c Λ σ fz L s _ l d C Y4 a _ _ _
 obtain ⟨o,ho,hor⟩:=(Q63 l hv.1)
 rw [h]at hor
 obtain ⟨hd,QA⟩:=hor
 obtain ⟨o',ho',Q5K⟩:=(Q63 d hd)
 rw [h']at Q5K
 obtain ⟨es,QA,he⟩:=Q5K
 exact ⟨hv.2,by rw [<- Q3y];exact hd,es,⟨ho,QA,QA,ho'⟩,ho',he⟩
theorem Iw (hc:Q3M) {l d:QH} {C:Qq} {Y4:QC (X6×QU)} {a:QI} {x:X6} {v:QU} {ex:Qu} {P:QU->St->Prop} (hv:VR Λ (.QP l) a) (h:QS l=.Q5C C d) (h':QS d=.Q1V Y4) (ho:KJ c.K C x=QM)
  (hg:BJ Y4 x=QB v) (hh:Bf v=QM) (hP:P v σ):Zq c A X0 fm Λ (Q9y a x ex) VR σ P:=fun fz s Q E ok r q=>by
 refine an3 (QGy hv h h') fun yq0B _ yq0C=>?_;obtain QA:=yq0B;refine ew1 yq0C fun es yq0D=>?_;refine an3 yq0D fun I _ he=>?_;clear yq0C yq0D
 refine ew1 (he.get x) fun ov yq0E=>?_;refine an2 yq0E fun g1 g2=>?_;clear yq0E
 rw [hg]at g2
 cases ov with
 | QG=>exact g2.elim
 | QB cv =>
  refine ew1 r.fr fun m yq0F=>?_;refine an2 yq0F fun F _=>?_;clear yq0F
  simp only [KJ,X7]at ho
  exact get_own F QEG I ho.1.1 ho.1.2 (Z0 ho.2) QA g1 (Jn hh g2) (q Λ _ v cv σ (.Q1H _) hP g2 Q99)
theorem Ir (hc:Q3M) {l d:QH} {C:Qq} {Y4:QC (X6×QU)} {a:QI} {x:X6} {v:QU} {cv:QI} {P:YV->St->Prop} (hv:VR Λ (.QP l) a) (h:QS l=.Q5C C d) (h':QS d=.Q1V Y4) (hcv:VR Λ v cv) (ho:IA c.K C x=QM)
  (hz:Yo<=900) (hP:P () (Yt d (.Q1V (BC x v Y4)))):Zq c A X0 fm Λ (setAttr a x cv) UR σ P:=fun fz s Q E ok r q=>by
 refine an3 (QGy hv h h') fun yq0G hd yq0H=>?_;obtain QA:=yq0G;refine ew1 yq0H fun es yq0I=>?_;refine an3 yq0I fun I hod he=>?_;clear yq0H yq0I
 refine ew1 r.fr fun m yq0J=>?_;refine an2 yq0J fun F _=>?_;clear yq0J
 simp only [IA,X7]at ho
 refine ew1 (he.get x) fun ov yq0K=>?_;refine an2 yq0K fun g1 _=>?_;clear yq0K
 obtain (⟨e1,e2⟩):=he.set x (Y6+1) hcv
 have hl:(BC x v Y4).ZT<=Yo+1:=by
  rw [<- e2];unfold putN;split <;> (first | exact EA | exact SQ)
 refine set_dict (es':=putL x (QL c.w.params x) (.Xs x (Y6+1)) cv es) (n':=(BC x v Y4).ZT) F QEG (r.ledAt hd hod) I QA (Z0 ho.1.1.1) ho.1.1.2 (Z0 ho.1.2) ho.2 (by rw [g1];rfl) (by rw [e2]) (.Zc Dp) (by rw [<- e1.length];exact aep hz hl) fun h' F' N'=>?_
 exact q Λ _ () () _ (.Q1H _) hP ZN (r.turned (tk:=Y6+2) hd F F' N' ⟨_,QA,e1⟩)
theorem HG (hc:Q3M) {l d:QH} {C f:Qq} {Y4:QC (X6×QU)} {a:QI} {x:X6} {pl:Sem Qu} {P:QU×QC QU->St->Prop} (hv:VR Λ (.QP l) a) (h:QS l=.Q5C C d) (h':QS d=.Q1V Y4) (ho:Ch c.K C x f=QM)
  (hg:BJ Y4 x=QG) (hP:P (.imm (.QP f),[.QP l]) σ):Zq c A X0 fm Λ (Q8R a x pl) (fun Λ (p:QU×QC QU) (b:QI×QC QI)=>VR Λ p.1 b.1/\VRs Λ p.2 b.2) σ P:=fun fz s Q E ok r q=>by
 refine an3 (QGy hv h h') fun yq0L hd yq0M=>?_;obtain QA:=yq0L;refine ew1 yq0M fun es yq0N=>?_;refine an3 yq0N fun I hod he=>?_;clear yq0M yq0N
 refine ew1 r.fr fun m yq0O=>?_;refine an2 yq0O fun F _=>?_;clear yq0O
 simp only [Ch,X7]at ho
 refine ew1 (he.get x) fun ov yq0P=>?_;refine an2 yq0P fun g1 g2=>?_;clear yq0P
 rw [hg]at g2
 cases ov with
 | QB _=>exact g2.elim
 | QG=>exact method_inst F QEG I ho.1.1 (Z0 ho.1.2) ho.2 g1 (q Λ s _ _ σ (.Q1H _) hP ⟨QA,.Xu hv .Zl⟩ r)
theorem Rel.dictsV {fz:Qq->QW ZC} {L:Qq} {s:QZ} (R:Rel c fz L Λ σ s) {l:QH} {Y4:QC (Yb×QU)} {a:QI} (hv:VR Λ (.QP l) a) (h:QS l=.Q01 Y4) :
  a=.QP (Xr l)/\l < QO/\∃cvs,Q4P (knd XI c.w) (Xr l) cvs/\KVR Λ Y4 cvs:=by
 injections c Λ σ fz L s _ l Y4 a _ _
 obtain ⟨o,ho,hor⟩:=(Q63 l hv.1)
 rw [h]at hor
 obtain ⟨cvs,h1,h2,h3⟩:=hor
 exact ⟨hv.2,by rw [<- Q3y];exact hv.1,cvs,Heap.dictOf_iff.mpr ⟨o,ho,h1⟩,.of h2 h3⟩
theorem Rel.setsV {fz:Qq->QW ZC} {L:Qq} {s:QZ} (R:Rel c fz L Λ σ s) {l:QH} {xs:QC Yb} {a:QI} (hv:VR Λ (.QP l) a) (h:QS l=.set xs) :
  a=.QP (Xr l)/\l < QO/\Q9h/\QEM (knd XI c.w) (Xr l) (fun k=>XV (k∈xs)) Qn:=by
 injections c Λ σ fz L s _ l xs a _ _
 obtain ⟨o,ho,hor⟩:=(Q63 l hv.1)
 rw [h]at hor
 obtain ⟨h0,es,ep,t,h1,h2,h3,h4,h5,h6,h7,h8⟩:=hor
 exact ⟨hv.2,by rw [<- Q3y];exact hv.1,h0,o,es,ep,t,ho,h1,h2,h3,fun k=>by rw [Q9H];exact h4 k,h5,h6,h7⟩
theorem Rel.setsG {fz:Qq->QW ZC} {L:Qq} {s:QZ} (R:Rel c fz L Λ σ s) {l:QH} {xs:QC Yb} {a:QI} (hv:VR Λ (.QP l) a) (h:QS l=.set xs) :
  a=.QP (Xr l)/\l < QO/\Q9h/\Ga (knd XI c.w) QV (Xr l) (fun k=>XV (k∈xs)) Qn:=by
 refine ew1 (Q63 l hv.1) fun o yq0S=>?_;refine an2 yq0S fun ho hor=>?_;clear yq0S
 rw [h]at hor
 obtain (⟨h0,es,ep,t,h1,h2,h3,h4,h5,h6,h7,h8⟩):=hor
 exact ⟨hv.2,by rw [<- Q3y];exact hv.1,h0,o,es,ep,t,ho,h1,h2,h3,fun k=>by rw [Q9H];exact h4 k,h5,h6,h7,h8⟩
theorem OR.ofSet {h:ZP} {a:Qq} {xs:QC Yb} {S:Yb->Qu} {n:QH} (hn:Q9h) (hS:Ga (knd XI c.w) h a S n) (hx:∀k,S k=QM↔k∈xs) (hl:n=Qn):∃o,Q03 a=QB o/\OR XI c.w Λ (.set xs) o:=by
 injections c Λ h a xs S n _ _ _ _
 obtain ⟨o,es,ep,t,ho,h1,h2,h3,h4,h5,h6,h7,h8⟩:=hS
 exact ⟨o,ho,hn,es,ep,t,h1,h2,h3,fun k=>by rw [<- hx];exact h4 k,h5,h6,by rw [h7,hl],h8⟩
theorem QAd {h:ZP} {a:Qq} {Y4:QC (Yb×QU)} {cvs:QC (Yb×QI)} (hD:h.DictOf (knd XI c.w) a cvs) (hk:KVR Λ Y4 cvs):∃o,Q03 a=QB o/\OR XI c.w Λ (.Q01 Y4) o:=by
 refine ew1 (Q9I hD) fun o yq0T=>?_;refine an2 yq0T fun ho hd=>?_;clear yq0T
 exact ⟨o,ho,cvs,hd,hk.keys,hk.vals⟩
theorem IW {Λ:Lab} {v:QU} {k:Yb} {x:QI} (h:Bn v=QB k) (hv:VR Λ v x):QFY=QM:=by
 cases v <;> simp [Bn]at h <;> obtain (⟨t,QA⟩):=hv <;> rfl
end
end
end Mini
end
section
open PySem PySem.W PySem.Calls PyProof.Rows
set_option maxRecDepth 8000
set_option maxHeartbeats 1000000
namespace Mini
mutual
theorem Cb:QFU "method_descriptor" "__get__" "method_descriptor.__get__" :=
 .of (Q7f:="method_descriptor") (n:="__get__") (by rw [YE,Xf];kernel_rfl) (by decide +XB) (by decide +XB) (by decide +XB)
  (by first | exact .inl (by decide +XB) | exact .inr (by decide +XB)) (by rw [YS];kernel_rfl)
theorem D5:Q3i Q9q "method_descriptor.__get__"=QB Builtin.«method_descriptor.__get__»:=Q2l (by kernel_rfl)
theorem EP (a b c:QI):Q4B "method_descriptor.__get__" ⟨[a,b,c],[]⟩:=by unfold Q4B;kernel_rfl
theorem EB:Q3O (.Qk "method_descriptor") "__set__"=ZU QG:=by rw [YE,Xf];kernel_rfl
theorem EC:Q3O (.Qk "method_descriptor") "__delete__"=ZU QG:=by rw [YE,Xf];kernel_rfl
theorem Gi:Q6R (.Qk "dict") (.Qk "dict")=ZU QM:=by rw [YS];kernel_rfl
theorem Io:Q6R (.Qk "set") (.Qk "set")=ZU QM:=by rw [YS];kernel_rfl
theorem CH:QFU "dict" "__getattribute__" "dict.__getattribute__" :=
 .of (Q7f:="dict") (n:="__getattribute__") (by rw [YE,Xf];kernel_rfl) (by decide +XB) (by decide +XB) (by decide +XB)
  (by first | exact .inl (by decide +XB) | exact .inr (by decide +XB)) (by rw [YS];kernel_rfl)
theorem Gs:Q3i Q9q "dict.__getattribute__"=QB Builtin.«object.__getattribute__» :=
 Q3j (id':="object.__getattribute__") (by kernel_rfl) (by decide +XB) (by decide +XB) (by kernel_rfl)
theorem HQ (a b:QI):Q4B "dict.__getattribute__" ⟨[a,b],[]⟩:=by unfold Q4B;kernel_rfl
theorem C4:QFU "set" "__getattribute__" "set.__getattribute__" :=
 .of (Q7f:="set") (n:="__getattribute__") (by rw [YE,Xf];kernel_rfl) (by decide +XB) (by decide +XB) (by decide +XB)
  (by first | exact .inl (by decide +XB) | exact .inr (by decide +XB)) (by rw [YS];kernel_rfl)
theorem HP:Q3i Q9q "set.__getattribute__"=QB Builtin.«object.__getattribute__» :=
 Q3j (id':="object.__getattribute__") (by kernel_rfl) (by decide +XB) (by decide +XB) (by kernel_rfl)
theorem I5 (a b:QI):Q4B "set.__getattribute__" ⟨[a,b],[]⟩:=by unfold Q4B;kernel_rfl
end
section
variable {prog:Program} {w:World} {A:Around} {E:Value->Shared->Prop} {s:Shared}
mutual
theorem Gg:Q4D "dict.get"=QJ:=by decide +XB
theorem Ii:Q14 (.Qd "dict.get")=ZU (.Qk "method_descriptor"):=by show QFc _=_;rw [Q8b];kernel_rfl
theorem IT:Q3O (.Qk "dict") "get"=ZU (QB (.Qd "dict.get")):=by rw [YE,Xf];kernel_rfl
theorem EX {a:Qq} {P:Fin->QZ->Prop} (hT:Q5L (.QP a) "dict") (h:P (.Q4x (.ret (.QP QD))) {s with YL:=XK {cls:=.Qk "builtin_function_or_method",YA:=.Xo #[.Qd "dict.get",.QP a]}}) :
  Qp (Qi XC w) A (Builtin.«method_descriptor.__get__» ⟨[.Qd "dict.get",.QP a,.Qk "dict"],[]⟩) P E s:=by
 unfold Builtin.«method_descriptor.__get__»
 refine Q9 (Zi (a:=(.Qd "dict.get",QB (.QP a),QB (.Qk "dict"))) (by first | rfl | kernel_rfl) ?_)
 dsimp only
 simp only [Gg,XQ,Zf]
 have e:∀ {t:Sem Q2n},t=(do
   let u <- (do
    let (Q1u,cls) <- (ZU (Qb "get",Q2W "dict"):Sem (X6×QI))
    if !(<- Zw (.QP a) cls) then
     rule "descr.get.wrong-instance"
     raiseError "TypeError" s!"descriptor '{QD7}' for '{<- typeName cls}' objects doesn't apply to a '{<- typeNameOf (.QP a)}' object":Sem YV)
   PySem.ret (<- QDb "builtin_function_or_method" [.Qd "dict.get",.QP a]))->Qp (Qi XC w) A t P E s:=by
  rintro _ QA
  refine Q9 (Q9 (QF ?_))
  dsimp only
  refine Q9 (Q2o hT Gi ?_)
  simp only [Q4Q,XQ,Zf]
  exact QF (Q9 (Xk (QF h)))
 exact e (by with_unfolding_all rfl)
theorem FL (a:Qq) (es:XM ZS) (k:QH) (sl:XM (QW QI)) (u:Tok) :
  Meets (Builtin.«object.__getattribute__» ⟨[.QP a,.Xs "get" u],[]⟩) (fun A R s=>Qc a=QB {cls:=.Qk "dict",Q01:=QG,YA:=.Q01 es k,slots:=sl} /\
   R (.ok (.ret (.QP QD))) {s with YL:=XK {cls:=.Qk "builtin_function_or_method",YA:=.Xo #[.Qd "dict.get",.QP a]}}) :=
 QFd fun XC w A R s hs=>by
  obtain (⟨hp,g,d,tk,os⟩):=s
  obtain (⟨hx,hs⟩):=hs
  have hT:(⟨hp,g,d,tk,os⟩:QZ).QAe (.QP a) "dict":=⟨_,hx,QA⟩
  have f1:=IT
  have f2:=Ii
  have f3:=Cb.lookup
  have f4:=EB
  have f5:=EC
  unfold Builtin.«object.__getattribute__»
  repeat (any_goals (first | assumption | ((with_reducible show Qp _ _ (Q0M (Q4R "method_descriptor.__get__") _ _) _ _ _);refine Y2 Cb f2 D5 (EX hT ⟨_,QA,QF ⟨_,QA,hs⟩⟩) (EP _ _ _)) | wp_step))
theorem Er {a:Qq} {o:ZC} {Q:QI->QZ->Prop} {es:XM ZS} {k:QH}
  (hx:Qc a=QB o) (hc:Q4o=.Qk "dict") (QCJ:Q1v=.Q01 es k) (hd:QEN=QG)
  (h:∀tk,Q (.QP QD) {s with YL:=XK {cls:=.Qk "builtin_function_or_method",YA:=.Xo #[.Qd "dict.get",.QP a]},Q0P:=tk}) :
  Qp (Qi XC w) A (Q9y (.QP a) "get" QM) Q E s:=by
 obtain (⟨c,dct,dat,sl⟩):=o
 simp only at hc QCJ hd
 subst hc QCJ hd
 obtain (⟨hp,g,d,tk,os⟩):=s
 have hT:∀tk',(⟨hp,g,d,tk',os⟩:QZ).QAe (.QP a) "dict":=fun _=>⟨_,hx,QA⟩
 have f3:=CH.lookup
 have f4:=CH.bind (.QP a)
 unfold Q9y getAttrBy
 repeat (any_goals (first | assumption | exact hT _ | ((with_reducible show Qp _ _ (Q0M (Q4R "dict.__getattribute__") _ _) _ _ _);refine call_meets CH (hT _) Gs (HQ _ _) (FL a es k sl _) ⟨hx,?_⟩) | wp_step))
 show Qp _ _ (handedOut (.QP _)) _ _ _
 exact Zi (QEO QA) (h _)
theorem DM:Q4D "set.__contains__"=QJ:=by decide +XB
theorem EV:Q14 (.Qd "set.__contains__")=ZU (.Qk "method_descriptor"):=by show QFc _=_;rw [Q8b];kernel_rfl
theorem EZ:Q3O (.Qk "set") "__contains__"=ZU (QB (.Qd "set.__contains__")):=by rw [YE,Xf];kernel_rfl
theorem Dq {a:Qq} {P:Fin->QZ->Prop} (hT:Q5L (.QP a) "set") (h:P (.Q4x (.ret (.QP QD))) {s with YL:=XK {cls:=.Qk "builtin_function_or_method",YA:=.Xo #[.Qd "set.__contains__",.QP a]}}) :
  Qp (Qi XC w) A (Builtin.«method_descriptor.__get__» ⟨[.Qd "set.__contains__",.QP a,.Qk "set"],[]⟩) P E s:=by
 unfold Builtin.«method_descriptor.__get__»
 refine Q9 (Zi (a:=(.Qd "set.__contains__",QB (.QP a),QB (.Qk "set"))) (by first | rfl | kernel_rfl) ?_)
 dsimp only
 simp only [DM,XQ,Zf]
 have e:∀ {t:Sem Q2n},t=(do
   let u <- (do
    let (Q1u,cls) <- (ZU (Qb "__contains__",Q2W "set"):Sem (X6×QI))
    if !(<- Zw (.QP a) cls) then
     rule "descr.get.wrong-instance"
     raiseError "TypeError" s!"descriptor '{QD7}' for '{<- typeName cls}' objects doesn't apply to a '{<- typeNameOf (.QP a)}' object":Sem YV)
   PySem.ret (<- QDb "builtin_function_or_method" [.Qd "set.__contains__",.QP a]))->Qp (Qi XC w) A t P E s:=by
  rintro _ QA
  refine Q9 (Q9 (QF ?_))
  dsimp only
  refine Q9 (Q2o hT Io ?_)
  simp only [Q4Q,XQ,Zf]
  exact QF (Q9 (Xk (QF h)))
 exact e (by with_unfolding_all rfl)
theorem DG (a:Qq) (es:XM (X3×QI)) (k:QH) (tb:Y0) (sl:XM (QW QI)) (u:Tok) :
  Meets (Builtin.«object.__getattribute__» ⟨[.QP a,.Xs "__contains__" u],[]⟩) (fun A R s=>Qc a=QB {cls:=.Qk "set",Q01:=QG,YA:=.set es k tb,slots:=sl} /\
   R (.ok (.ret (.QP QD))) {s with YL:=XK {cls:=.Qk "builtin_function_or_method",YA:=.Xo #[.Qd "set.__contains__",.QP a]}}) :=
 QFd fun XC w A R s hs=>by
  obtain (⟨hp,g,d,tk,os⟩):=s
  obtain (⟨hx,hs⟩):=hs
  have hT:(⟨hp,g,d,tk,os⟩:QZ).QAe (.QP a) "set":=⟨_,hx,QA⟩
  have f1:=EZ
  have f2:=EV
  have f3:=Cb.lookup
  have f4:=EB
  have f5:=EC
  unfold Builtin.«object.__getattribute__»
  repeat (any_goals (first | assumption | ((with_reducible show Qp _ _ (Q0M (Q4R "method_descriptor.__get__") _ _) _ _ _);refine Y2 Cb f2 D5 (Dq hT ⟨_,QA,QF ⟨_,QA,hs⟩⟩) (EP _ _ _)) | wp_step))
theorem C3 {a:Qq} {o:ZC} {Q:QI->QZ->Prop} {es:XM (X3×QI)} {k:QH} {tb:Y0}
  (hx:Qc a=QB o) (hc:Q4o=.Qk "set") (QCJ:Q1v=.set es k tb) (hd:QEN=QG)
  (h:∀tk,Q (.QP QD) {s with YL:=XK {cls:=.Qk "builtin_function_or_method",YA:=.Xo #[.Qd "set.__contains__",.QP a]},Q0P:=tk}) :
  Qp (Qi XC w) A (Q9y (.QP a) "__contains__" QM) Q E s:=by
 obtain (⟨c,dct,dat,sl⟩):=o
 simp only at hc QCJ hd
 subst hc QCJ hd
 obtain (⟨hp,g,d,tk,os⟩):=s
 have hT:∀tk',(⟨hp,g,d,tk',os⟩:QZ).QAe (.QP a) "set":=fun _=>⟨_,hx,QA⟩
 have f3:=C4.lookup
 have f4:=C4.bind (.QP a)
 unfold Q9y getAttrBy
 repeat (any_goals (first | assumption | exact hT _ | ((with_reducible show Qp _ _ (Q0M (Q4R "set.__getattribute__") _ _) _ _ _);refine call_meets C4 (hT _) HP (I5 _ _) (DG a es k tb sl _) ⟨hx,?_⟩) | wp_step))
 show Qp _ _ (handedOut (.QP _)) _ _ _
 exact Zi (QEO QA) (h _)
end
end
end Mini
end
section
open PySem PySem.W PySem.Calls PyProof.Rows
set_option maxRecDepth 8000
set_option maxHeartbeats 1000000
namespace Mini
section
variable {prog:Program} {w:World} {A:Around} {E:Value->Shared->Prop} {s:Shared} {R:Result->Shared->Prop}
mutual
theorem HY {u:Qq} {id:XA} {Q1e:QI} {Xb:QC QI} {o:ZC} (hq:(Code.builtin id ⟨Q1e::Xb,[]⟩).quiet=QM) (ho:Qc u=QB o) (hob:o={cls:=.Qk "builtin_function_or_method",YA:=.Xo #[.Qd id,Q1e]}\/o={cls:=.Qk "method-wrapper",YA:=.Xo #[.Qd id,Q1e]})
  (hchk:∀(A:Q2t) (Q:YV->QZ->Prop),Q () s->Qp (Qi XC w) A (Q1o id ⟨Q1e::Xb,[]⟩) Q (fun e s'=>R (.Q7s e) s') s)
  (h:Q1J (Qi XC w) A (.Qd id ⟨Q1e::Xb,[]⟩) R s):Q1J (Qi XC w) A (.Q0M (.QP u) ⟨Xb,[]⟩) R s:=by
 obtain (⟨hh,g,dr,t,os⟩):=s
 refine Q28 ?_
 refine nd_load ho ?_
 rcases hob with QA | QA
 ·show Qp _ _ (Q1o id ⟨Q1e::Xb,[]⟩ >>= fun _=>QBH (.Qd id ⟨Q1e::Xb,[]⟩)) _ _ _
  exact Q9 (hchk _ _ (QF ⟨hq,h⟩))
 ·show Qp _ _ (Q1o id ⟨Q1e::Xb,[]⟩ >>= fun _=>QBH (.Qd id ⟨Q1e::Xb,[]⟩)) _ _ _
  exact Q9 (hchk _ _ (QF ⟨hq,h⟩))
theorem EW:Q6R (.Qk "dict") (.Qk "module")=ZU QJ:=by rw [YS];kernel_rfl
theorem Fk:Q6R (.Qk "set") (.Qk "module")=ZU QJ:=by rw [YS];kernel_rfl
theorem HU {a:Qq} {k v:QI} {es:XM ZS} {ep:QH} {sl:XM (QW QI)} {Q:YV->QZ->Prop} (hx:Qc a=QB ⟨.Qk "dict",QG,.Q01 es ep,sl⟩) (h:Q () s):Qp (Qi XC w) A (Q1o "dict.get" ⟨[.QP a,k,v],[]⟩) Q E s:=by
 injections XC w A E s a k v es ep sl Q _ _
 obtain ⟨hp,g,d,tk,os⟩:=s
 have hT:(⟨hp,g,d,tk,os⟩:QZ).QAe (.QP a) "dict":=⟨_,hx,QA⟩
 have f1:=EW
 repeat (any_goals (first | assumption | wp_step))
theorem Jd {a:Qq} {k:QI} {es:XM (X3×QI)} {ep:QH} {tb:Y0} {sl:XM (QW QI)} {Q:YV->QZ->Prop} (hx:Qc a=QB ⟨.Qk "set",QG,.set es ep tb,sl⟩) (h:Q () s):Qp (Qi XC w) A (Q1o "set.__contains__" ⟨[.QP a,k],[]⟩) Q E s:=by
 injections XC w A E s a k es ep tb sl Q _ _
 obtain ⟨hp,g,d,tk,os⟩:=s
 have hT:(⟨hp,g,d,tk,os⟩:QZ).QAe (.QP a) "set":=⟨_,hx,QA⟩
 have f1:=Fk
 repeat (any_goals (first | assumption | wp_step))
theorem FB:QBg "dict.get"=QM:=by decide +XB
theorem GA {K:Type} [Q7Z K] {knd:Q61 XC w K} {d:Qq} {Y4:QC (K×QI)} {k:K} {key dflt:QI} (hD:Q4P knd d Y4) (lo:(d == Q3L)=QJ) (Q4v:Q3f k key=QM)
  (h:R (.ok (.ret ((Q4O Y4 k).Q4f dflt))) {s with Q0P:=Y6+1}):Q1J (Qi XC w) A (.Qd "dict.get" ⟨[.QP d,key,dflt],[]⟩) R s:=by
 refine ZV Q6l ?_
 rw [Zj FB]
 exact Q6m knd d Q4v lo dflt A R s ⟨_,hD.mapOf,h⟩
theorem HT {K:Type} [Q7Z K] {knd:Q61 XC w K} {a:Qq} {S:K->Qu} {n:QH} {k:K} {key:QI} (Q4v:Q3f k key=QM) (hsc:QD6=QM) (hS:QEM knd a S n)
  (h:R (.ok (.ret (.Yn (S k)))) {s with Q0P:=Y6+1}):Q1J (Qi XC w) A (.Qd "set.__contains__" ⟨[.QP a,key],[]⟩) R s:=by
 refine ZV entry_set_contains ?_
 unfold Builtin.«frozenset.__contains__» Q5J
 simp only [QAb,QCH]
 unfold Q3B Builtin.Frozenset.withSetAsKey setContains
 refine Q9 (QF ?_)
 try dsimp only
 refine Q9 (QF ?_)
 try dsimp only
 refine Q9 (Q7t ?_)
 refine XX ?_
 refine Q9 (QCD Q4v ?_)
 refine Q9 (wpAny_setFind_of (s:={s with Q0P:=Y6+1}) Q4v hsc hS fun r hr=>?_)
 refine QF ?_
 rw [hr]
 exact QF h
end
end
end Mini
end
section
open PySem PySem.W PySem.Calls PyProof.Rows
set_option genInjectivity false
set_option genSizeOf false
set_option maxRecDepth 100000
namespace Mini
mutual
def BB (K:Q1A) (v:QU) (x:X6):PT QU:=fun σ P=>(Ai v fun l =>
  (Bt (QS l) fun C d=>AX (QS d) fun Y4=>KJ K C x=QM/\Ad (BJ Y4 x) fun u=>Bf u=QM/\P u σ) \/
  (As (QS l) fun _=>x="get"/\P (.QP QO) (Qw (.bm "dict.get" v)))\/(Bh (QS l) fun _=>x="__contains__"/\P (.QP QO) (Qw (.bm "set.__contains__" v)))) \/
 Cs v fun C=>∃mc p f Q9m,readsIn K C mc=QM/\findCls K (.QP C) mc x=QB (.get (.Qd "classmethod.__get__") (.QP p) .QG (.QP C))/\recIn K p "classmethod"=QB (.QP f::Q9m)/\P (.QP QO) (Qw (.Q9d f C))
def Co (K:Q1A) (v:QU) (x:X6) (u:QU):PT YV:=fun σ P=>Ai v fun l=>Bt (QS l) fun C d=>AX (QS d) fun Y4=>IA K C x=QM/\Yo<=900/\P () (Yt d (.Q1V (BC x u Y4)))
inductive BM where
 | Q7o | pop | get | Q6n | add | keys | sort
 deriving Q7Z
def BM.ty:BM->XA
 | .Q7o | .pop | .sort=>"list"
 | .get | .Q6n | .keys=>"dict"
 | .add=>"set"
def BM.nm:BM->X6
 | .Q7o=>"append" | .pop=>"pop" | .get=>"get" | .Q6n=>"setdefault" | .add=>"add" | .keys=>"keys" | .sort=>"sort"
def BM.id:BM->XA
 | .Q7o=>"list.append" | .pop=>"list.pop" | .get=>"dict.get" | .Q6n=>"dict.setdefault" | .add=>"set.add" | .keys=>"dict.keys" | .sort=>"list.sort"
def agc:QC BM:=[.Q7o,.pop,.get,.Q6n,.add,.keys,.sort]
def F5 (t:XA) (x:X6):QW BM:=agc.find? fun b=>b.ty == t&&b.nm == x
def DW (K:Q1A) (v:QU) (x:X6):PT (QU×QC QU):=fun σ P=>(Ai v fun l =>
  (Bt (QS l) fun C d=>AX (QS d) fun Y4=>∃f,Ch K C x f=QM/\BJ Y4 x=QG/\P (.imm (.QP f),[v]) σ) \/
  (Af (QS l) fun _=>Ad (F5 "list" x) fun b=>P (.imm (.Qd QEP),[v]) σ)\/(As (QS l) fun _=>Ad (F5 "dict" x) fun b=>P (.imm (.Qd QEP),[v]) σ) \/
  (Bh (QS l) fun _=>Ad (F5 "set" x) fun b=>P (.imm (.Qd QEP),[v]) σ)) \/
 JI v fun T=>T="tuple"/\x="__new__"/\P (.imm (.Qd "tuple.__new__"),[]) σ
theorem QEQ:QFU "set" "add" "set.add":=Q7r
theorem QER:Q14 (.Qd "set.add")=ZU (.Qk "method_descriptor"):=PySem.F.type_set_add
theorem QD8:Q14 (.Qd "list.pop")=ZU (.Qk "method_descriptor"):=PySem.F.type_list_pop
end
section
variable {c:Cx} {A:Around} {env:Env} {fm:Fm} {Λ:Lab} {σ:St}
mutual
theorem Rel.newBm {fz:Qq->QW ZC} {s:QZ} {Q:QI->QZ->Prop} {P:QU->St->Prop} {l:QH} {id:XA} {tk:QH} (r:Rel c fz Qo Λ σ s) (hl:l < Xh) (hP:P (.QP QO) (Qw (.bm id (.QP l))))
  (q:∀Za s' b a XF,Q0A Za->P b XF->VR Za b a->Rel c fz Qo Za XF s'->Q a s') :
  Q (.QP QD) {s with YL:=XK {cls:=.Qk "builtin_function_or_method",YA:=.Xo #[.Qd id,.QP (Xr l)]},Q0P:=tk}:=by
 have e:=XL Λ QD
 exact q _ _ _ _ _ e hP (Q1i _ Q3a) (Q9B (tk:=tk) ⟨_,.inl QA,QQ hl e.1,by rw [e.2 l hl]⟩ QA)
theorem Ix (hc:Q3M) {v:QU} {a:QI} {x:X6} {P:QU->St->Prop} (hv:VR Λ v a) (h:BB c.K v x σ P):Zq c A X0 fm Λ (Q9y a x QM) VR σ P:=by
 injections c A X0 fm Λ σ _ v a x P _ _
 refine Qy ?_ ?_
 ·intros h;refine Q1W h ?_;intros l ev h;subst ev
  refine Qy ?_ ?_
  ·intros h;refine Bt.el h ?_;intros C d e h;refine AX.el h ?_;intros Y4 e' h
   obtain ⟨h1,h2⟩:=h
   refine Q2r h2 ?_;intros u hu h2
   exact Iw hc hv e e' h1 hu h2.1 h2.2
  intros h;refine Qy ?_ ?_
  ·intros h;refine Q8o h ?_;intros Y4 e h
   obtain ⟨QA,p⟩:=h
   refine Zn ?_;intros fz s ok r Q E q
   obtain ⟨QA,_,cvs,hD,_⟩:=(Q6S hv e)
   obtain ⟨o,es,ep,ho,⟨h1,h2,h3⟩,hd,_⟩:=hD
   exact Er ho h1 hd h2 fun tk=>r.newBm hv.1 p q
  intros h;refine QFE h ?_;intros xs e h
  ·obtain ⟨QA,p⟩:=h
   refine Zn ?_;intros fz s ok r Q E q
   obtain ⟨QA,_,_,hS⟩:=(r.setsV hv e)
   obtain ⟨o,es,ep,t,ho,⟨h1,h2,h3⟩,hd,_⟩:=hS
   exact C3 ho h1 hd h2 fun tk=>r.newBm hv.1 p q
 intros h;refine Cs.el h ?_;intros C ev k
 ·subst ev
  cases hv
  obtain ⟨mc,p,f,Q9m,h1,h2,h3,p1⟩:=k
  refine Zn ?_;intros fz s ok r Q E q
  have X:=ZO Q0H
  refine cls_bind X h1 h2 (Q20 (cm_get (s:={s with Q0P:=Y6+1}) X h3 ?_))
  refine QDc QA ?_
  exact q _ _ (.QP QO) _ _ (XL _ _) p1 (Q1i _ Q3a) (Q9B (tk:=Y6+1) (o:=.Q9d f C) QA QA)
theorem Iu (hc:Q3M) {v u:QU} {a b:QI} {x:X6} {P:YV->St->Prop} (hv:VR Λ v a) (hu:VR Λ u b) (h:Co c.K v x u σ P):Zq c A X0 fm Λ (setAttr a x b) UR σ P:=by
 refine Q1W h fun l ev h=>?_;subst ev
 refine Bt.el h fun C d e h=>AX.el h fun Y4 e' h=>Ir hc hv e e' hu h.1 h.2.1 h.2.2
theorem Py {s:QZ} {a:Qq} {x:X6} {b:BM} {t:XA} {o:ZC} {pl:Sem Qu} {Q:QI×QC QI->QZ->Prop} {E:QI->QZ->Prop} (hb:F5 t x=QB b) (ho:Qc a=QB o) (hc:Q4o=.Qk t) (hd:QEN=QG)
  (h:Q (.Qd QEP,[.QP a]) s):Qp (Qi XI c.w) A (Q8R (.QP a) x pl) Q E s:=by
 have hp:=Q7E hb
 simp only [X7,ZJ]at hp
 obtain (⟨QA,QA⟩):=hp
 have nd:∀a',Q1h a=.QP a'->∃o,Qc a'=QB o/\QEN=QG:=fun a' e=>by cases e;exact ⟨o,ho,hd⟩
 have hT:Q5L (.QP a) b.ty:=⟨o,ho,hc⟩
 cases b
 ·exact Q0T hT Q3X PySem.F.slot_list_append PySem.F.type_list_append nd h
 ·exact Q0T hT Q3X PySem.F.slot_list_pop QD8 nd h
 ·exact Q0T hT Q3Y Q7P PySem.F.type_dict_get nd h
 ·exact Q0T hT Q3Y Q4g PySem.F.type_dict_setdefault nd h
 ·exact Q0T hT PySem.F.plainAttrs_set QEQ QER nd h
 ·exact Q0T hT Q3Y Q6o PySem.F.type_dict_keys nd h
 ·exact Q0T hT Q3X PySem.F.slot_list_sort PySem.F.type_list_sort nd h
theorem Go {s:QZ} {K:Q1A} (X:QAf QV) {pl:Sem Qu} {Q:QI×QC QI->QZ->Prop} {E:QI->QZ->Prop} (h:Q (.Qd "tuple.__new__",[]) {s with Q0P:=Y6+1}):Qp (Qi XI c.w) A (Q8R (.Qk "tuple") "__new__" pl) Q E s:=by
 have ht:ZL (Qi XI c.w) QV (Q14 (.Qk "tuple")) (.Qk "type"):=Q38 (by kernel_rfl)
 have hg:ZL (Qi XI c.w) QV (Q1p (.Qk "tuple") "__getattribute__") (QB (.Qd "type.__getattribute__")):=ht.andThen (Q22 (K:=[]) (fun _ _ e=>by cases e) type_tga)
 refine Q9 (hg.here ?_)
 dsimp only
 rw [QY canon_tga]
 refine Q9 (cls_open (r:=.val (.Qd "tuple.__new__")) (hook:=QG) X (Q38 (by kernel_rfl)) ht (by kernel_rfl) (Q38 (by kernel_rfl)) (by kernel_rfl) (by kernel_rfl) (QF ?_))
 exact QDc QA (QF h)
theorem MU (hc:Q3M) {v:QU} {a:QI} {x:X6} {pl:Sem Qu} {P:QU×QC QU->St->Prop} (hv:VR Λ v a) (h:DW c.K v x σ P):Zq c A X0 fm Λ (Q8R a x pl) (fun Λ (p:QU×QC QU) (b:QI×QC QI)=>VR Λ p.1 b.1/\VRs Λ p.2 b.2) σ P:=by
 injections c A X0 fm Λ σ _ v a x pl P _ _
 refine Qy ?_ ?_
 ·intros h;refine Q1W h ?_;intros l ev h;subst ev
  have fin:∀(b:BM) t,F5 t x=QB b->P (.imm (.Qd QEP),[.QP l]) σ->(∀fz s,Rel c fz Qo Λ σ s->∃o,Qc (Xr l)=QB o/\Q4o=.Qk t/\QEN=QG)->Zq c A X0 fm Λ (Q8R a x pl) (fun Λ (p:QU×QC QU) (b:QI×QC QI)=>VR Λ p.1 b.1/\VRs Λ p.2 b.2) σ P:=by
   intros b t hb p ho
   refine Zn ?_;intros fz s ok r Q E q
   obtain ⟨o,h1,h2,h3⟩:=ho fz s r
   have fin:Q (.Qd QEP,[a]) s:=q Λ s _ (.Qd QEP,[a]) σ (.Q1H _) p ⟨QA,.Xu hv .Zl⟩ r
   rw [hv.2]at fin ⊢
   exact Py hb h1 h2 h3 fin
  refine Qy ?_ ?_
  ·intros h;refine Bt.el h ?_;intros C d e h;refine AX.el h ?_;intros Y4 e' h
   obtain ⟨f,h1,h2,p⟩:=h
   exact HG hc hv e e' h1 h2 p
  intros h;refine Qy ?_ ?_
  ·intros h;refine Q4n h ?_;intros xs e h;refine Q2r h ?_;intros b hb p
   refine fin b _ hb p ?_;intros fz s r
   obtain ⟨co,ho,hor⟩:=(Q36 l hv.1)
   rw [e]at hor;obtain ⟨vs,n,QA,_⟩:=hor;exact ⟨_,ho,QA,QA⟩
  intros h;refine Qy ?_ ?_
  ·intros h;refine Q8o h ?_;intros xs e h;refine Q2r h ?_;intros b hb p
   refine fin b _ hb p ?_;intros fz s r
   obtain ⟨co,ho,hor⟩:=(Q36 l hv.1)
   rw [e]at hor;obtain ⟨cvs,⟨es,ep,he,_⟩,_⟩:=hor;exact ⟨_,ho,he.1,he.2.1⟩
  intros h;refine QFE h ?_;intros xs e h;refine Q2r h ?_;intros b hb p
  ·refine fin b _ hb p ?_;intros fz s r
   obtain ⟨co,ho,hor⟩:=(Q36 l hv.1)
   rw [e]at hor;obtain ⟨_,es,ep,t,he,_⟩:=hor;exact ⟨_,ho,he.1,he.2.1⟩
 intros h;refine JI.el h ?_;intros T ev k
 ·subst ev
  obtain ⟨QA,QA,p⟩:=k
  cases hv
  exact Zn fun fz s ok r Q E q=>Go (ZO Q0H) (q Λ _ _ _ σ (.Q1H _) p ⟨QA,.Zl⟩ Q99)
def AC (K:Q1A) (v:QU):PT Qu:=fun σ P=>(Cs v fun f=>typeIn K (.QP f)=QB (.Qk "function")/\P QM σ)\/(Ai v fun l=>Cr (QS l) fun mk lc=>(∀a,(mk a).cls=.Qk "function")/\P QM σ)\/Nc v σ P
theorem GX {s:QZ} {a:Qq} {Q:Qu->QZ->Prop} {E:QI->QZ->Prop} (tt:ZL (Qi XI c.w) QV (Q14 (.QP a)) (.Qk "function")) (h:Q QM s):Qp (Qi XI c.w) A (QEH (.QP a)) Q E s:=by
 injections c A s a Q E _ _
 have l1:ZL (Qi XI c.w) QV (Q1p (.QP a) "__bool__") QG:=Q6p (Q22 (K:=[]) (fun _ _ e=>by cases e) (by kernel_rfl))
 have l2:ZL (Qi XI c.w) QV (Q1p (.QP a) "__len__") QG:=Q6p (Q22 (K:=[]) (fun _ _ e=>by cases e) (by kernel_rfl))
 unfold QEH Q4y
 refine Q9 (Q9 (l1.here (QF ?_)))
 refine Q9 (l2.here ?_)
 exact QF h
theorem Ft (hc:Q3M) {v:QU} {x:QI} {P:Qu->St->Prop} (hv:VR Λ v x) (h:AC c.K v σ P):Zq c A X0 fm Λ (QEH x) ER σ P:=by
 refine Q6h h (fun h=>Cs.el h fun f ev k=>?_) fun h=>Qy (fun h=>Q1W h fun l ev h=>?_) fun h=>Ll hv h <;> subst ev
 ·cases hv
  exact Zn fun fz s ok r Q E q=>GX (looks_typeIn (ZO Q0H) k.1) (q Λ s _ _ σ (.Q1H _) k.2 QA r)
 ·refine Cr.el h fun mk lc e h=>?_
  ·refine Zn fun fz s ok r Q E q=>?_
   refine ew1 (Q36 l hv.1) fun o yq13=>?_;refine an2 yq13 fun ho hor=>?_;clear yq13
   rw [e]at hor
   have tt:ZL (Qi XI c.w) QV (Q14 (.QP (Xr l))) Q4o:=(Q1j ho).Q2k .now
   rw [hor.2,h.1]at tt
   rw [hv.2]
   exact GX tt (q Λ s _ _ σ (.Q1H _) h.2 QA r)
end
end
end Mini
end
section
open PySem PySem.W PySem.Calls PyProof.Rows
namespace Mini
noncomputable def Bx (args:List Val):PT Val:=fun σ P=>on2 args fun a v=>Ai a fun l=>Af (σ.hp l) fun xs=>xs.length<=sizeLine/\P .none (σ.upd l (.list (xs++[v])))
noncomputable def ae5 (args:List Val):PT Val:=fun σ P=>on1 args fun a=>Ai a fun l=>Af (σ.hp l) fun xs=>xs.length<=sizeLine/\∃ys y,xs=ys++[y]/\P y (σ.upd l (.list ys))
noncomputable def TU (args:List Val):PT Val:=fun σ P=>on3 args fun a k v=>Ai a fun l=>As (σ.hp l) fun kvs=>Ad (Bn k) fun k=>P ((Ak kvs k).getD v) σ
noncomputable def EG (args:List Val):PT Val:=fun σ P=>on3 args fun a k v=>Ai a fun l=>As (σ.hp l) fun kvs=>Ad (Bn k) fun k =>
 kvs.length<=sizeLine/\(match Ak kvs k with | some u=>P u σ | none=>P v (σ.upd l (.dict (Ce kvs k v))))
noncomputable def ae7 (args:List Val):PT Val:=fun σ P=>on2 args fun a k=>Ai a fun l=>Bh (σ.hp l) fun xs=>Ad (Bn k) fun k=>xs.length+1 < scanBound/\P .none (σ.upd l (.set (if k∈xs then xs else xs++[k])))
noncomputable def ahP (args:List Val):PT Val:=fun σ P=>on2 args fun a k=>Ai a fun l=>Bh (σ.hp l) fun xs=>Ad (Bn k) fun k=>P (.bool (decide (k∈xs))) σ
noncomputable def ahQ (args:List Val):PT Val:=fun σ P=>on1 args fun a=>Bi a fun i=>0<=i/\i<=1114111/\P (.str ⟨#[i.toNat]⟩) σ
noncomputable def ae6 (args:List Val):PT Val:=fun σ P=>on1 args fun v=>TR v σ P
noncomputable def KH (args:List Val):PT Val:=fun σ P=>on1 args fun a=>Ai a fun l=>As (σ.hp l) fun _=>P (.ref σ.nx) (σ.alloc (.keysv l))
noncomputable def pB (id:String) (args:List Val):PT Val:=fun σ P =>
 if id="len" then ae6 args σ P
 else if id="list.append" then Bx args σ P
 else if id="list.pop" then ae5 args σ P
 else if id="dict.get" then TU args σ P
 else if id="dict.setdefault" then EG args σ P
 else if id="set.add" then ae7 args σ P
 else if id="chr" then ahQ args σ P
 else if id="dict.keys" then KH args σ P
 else False
noncomputable def pBm (id:String) (args:List Val):PT Val:=fun σ P =>
 if id="dict.get" then TU args σ P
 else if id="set.__contains__" then ahP args σ P
 else False
section
variable {c:Cx} {A:Around} {env:Env} {fm:Fm} {Λ:Lab} {σ:St}
mutual
theorem id' {p:Prop} (h:p):p:=h
theorem VRs.one {Λ:Lab} {v:QU} {as:QC QI} (h:VRs Λ [v] as):∃a,as=[a]/\VR Λ v a:=by
 injections Λ v as _
 cases h with | Xu h r=>cases r;exact ⟨_,QA,h⟩
theorem HL (p:QC QI) (y:QI):kl_last (p++[y])=QB (p,y):=by
 induction p with
 | Zl=>rfl
 | Xu a p ih =>
  cases p with
  | Zl=>rfl
  | Xu b p=>simp only [List.cons_append]at ih ⊢;unfold kl_last;rw [ih]
theorem Fw {Xb:QC QU} {as:QC QI} {P:QU->St->Prop} (ha:VRs Λ Xb as) (h:Bx Xb σ P):Zq c A X0 fm Λ (Q0M (.Qd "list.append") as) VR σ P:=by
 injections c A X0 fm Λ σ Xb as P _ _
 refine QCK ha h ?_;intros u v a b h1 h2 h;refine Q1W h ?_;intros l eu h;subst eu
 refine Q4n h ?_;intros xs e h
 ··refine Zn ?_;intros fz s ok r Q E q
   obtain ⟨QA,g1,vs,n,a1,a2⟩:=(Q0t h1 e)
   refine wpAny_list_append_plain ⟨n,a1⟩ ?_ (by rw [XS,<- Zh];exact h.1);intros h' hl hs
   obtain ⟨n',hn'⟩:=hl
   refine q Λ _ _ _ _ (.Q1H _) h.2 QA (QDS (tk:=Y6) g1 (fun b' o' hb e'=>(hs.2 b' hb).QR e') hn' ⟨vs++[b],n',by simp,a2.append (.Xu h2 .Zl)⟩)
theorem VRs.snoc {Λ:Lab} {ys:QC QU} {y:QU}:∀ {vs:QC QI},VRs Λ (ys++[y]) vs->∃ws z,vs=ws++[z]/\VRs Λ ys ws/\VR Λ y z:=by
 induction ys with
 | Zl=>intro vs a2;refine ew1 (VRs.one a2) fun z yq1d=>?_;refine an2 yq1d fun yq1e hz=>?_;obtain QA:=yq1e;clear yq1d;exact ⟨[],z,QA,.Zl,hz⟩
 | Xu u ys ih =>
  intro vs a2
  cases a2 with | Xu h r =>
   refine ew2 (ih r) fun ws z yq1f=>?_;refine an3 yq1f fun yq1g b1 b2=>?_;obtain QA:=yq1g;clear yq1f
   exact ⟨_::ws,z,QA,.Xu h b1,b2⟩
theorem OM {Xb:QC QU} {as:QC QI} {P:QU->St->Prop} (ha:VRs Λ Xb as) (h:ae5 Xb σ P):Zq c A X0 fm Λ (Q0M (.Qd "list.pop") as) VR σ P:=by
 injections c A X0 fm Λ σ Xb as P _ _
 refine Q6q ha h ?_;intros u a h1 h;refine Q1W h ?_;intros l eu h;subst eu
 refine Q4n h ?_;intros xs e h
 ··obtain ⟨hz,ys,y,QA,p⟩:=h
   refine Zn ?_;intros fz s ok r Q E q
   obtain ⟨QA,g1,vs,n,a1,a2⟩:=(Q0t h1 e)
   obtain ⟨ws,z,QA,b1,b2⟩:=(VRs.snoc a2)
   obtain ⟨m,F,_⟩:=r.fr
   refine kl_pop F (r.ledAt g1 a1) (HL ws z) (.Zc Dp) (by simpa [<- Zh] using hz) ?_;intros h' F' N'
   exact q Λ _ _ _ _ (.Q1H _) p b2 (r.turned (tk:=Y6) g1 F F' N' ⟨ws,n+1,QA,b1⟩)
theorem QGz {Λ:Lab} {o:QW QU} {oc:QW QI} {v:QU} {d:QI} (h:OV Λ o oc) (hv:VR Λ v d):VR Λ (o.getD v) (oc.getD d):=by
 cases o <;> cases oc <;> first | exact hv | exact h | exact Qy
theorem OO {Xb:QC QU} {as:QC QI} {P:QU->St->Prop} (ha:VRs Λ Xb as) (h:TU Xb σ P):Zq c A X0 fm Λ (Q0M (.Qd "dict.get") as) VR σ P:=by
 refine on3.el ha h fun u k v a b d h1 h2 h3 h=>Q1W h fun l eu h=>?_;subst eu
 refine Q8o h fun Y4 e h=>Q2r h fun kk ek h=>?_
 ··refine Xj h fun fz s Q E r q=>?_
   refine an3 (Q6S h1 e) fun yq1u g1 yq1v=>?_;obtain QA:=yq1u;refine ew1 yq1v fun cvs yq1w=>?_;refine an2 yq1w fun hD hk=>?_;clear yq1v yq1w
   exact Q9p Q7P Q8O Q6l (PySem.F.args_dict_get_3 _ _ _) (Q6m (knd XI c.w) _ (B0 ek h2) (QDd _ h1.1) d) ⟨_,hD.mapOf,q _ _ (QGz (QGS _) h3)⟩
theorem Fu {Xb:QC QU} {as:QC QI} {P:QU->St->Prop} (ha:VRs Λ Xb as) (h:EG Xb σ P):Zq c A X0 fm Λ (Q0M (.Qd "dict.setdefault") as) VR σ P:=by
 injections c A X0 fm Λ σ Xb as P _ _
 refine on3.el ha h ?_;intros u k v a b d h1 h2 h3 h;refine Q1W h ?_;intros l eu h;subst eu
 refine Q8o h ?_;intros Y4 e h;refine Q2r h ?_;intros kk ek h
 ··obtain ⟨hz,h⟩:=h
   refine Zn ?_;intros fz s ok r Q E q
   obtain ⟨QA,g1,cvs,hD,hk⟩:=(Q6S h1 e)
   have hg:=QGS (by assumption)
   refine E3 (knd:=knd XI c.w) (B0 ek h2) hD (QDd _ h1.1) ?_ ?_ (by rw [<- QDe];exact hz)
   ·intros u hu
    rw [hu]at hg
    split at h
    ·rename_i ek';rw [ek']at hg;exact q Λ _ _ _ σ (.Q1H _) h hg Q99
    ·rename_i ek';rw [ek']at hg;exact QH0
   ·intros hn h' hD' hs
    rw [hn]at hg
    split at h
    ·rename_i ek';rw [ek']at hg;exact QH0
    ·obtain ⟨o,ho,hor⟩:=(QAd (c:=c) hD' (hk.set _ h3))
     exact q Λ _ _ _ _ (.Q1H _) h h3 (QDS (tk:=Y6+1) g1 (fun b' o' hb e'=>(hs.2 b' hb).QR e') ho hor)
theorem OS {Xb:QC QU} {as:QC QI} {P:QU->St->Prop} (ha:VRs Λ Xb as) (h:ae7 Xb σ P):Zq c A X0 fm Λ (Q0M (.Qd "set.add") as) VR σ P:=by
 injections c A X0 fm Λ σ Xb as P _ _
 refine QCK ha h ?_;intros u v a b h1 h2 h;refine Q1W h ?_;intros l eu h;subst eu
 refine QFE h ?_;intros xs e h;refine Q2r h ?_;intros k ek h
 ··refine Zn ?_;intros fz s ok r Q E q
   obtain ⟨QA,g1,hn,hS⟩:=(r.setsG h1 e)
   refine LL (knd:=knd XI c.w) (B0 ek h2) (IW ek h2) hS h.1 ?_;intros h' hs hS'
   obtain ⟨o,ho,hor⟩:=OR.ofSet (c:=c) (Λ:=Λ) (xs:=if k∈xs then xs else xs++[k]) (by
     split
     ·exact hn
     ·rename_i hk;rw [Q5n];exact ⟨hn,by simp,fun a ha b hb=>by simp at hb;subst hb;exact fun e=>hk (e▸ha)⟩) hS' (fun k'=>by
     by_cases hk:k∈xs
     ·simp only [hk,Q5m,Q27,Xl]
      exact ⟨fun h=>Qy id (fun e=>e▸hk),.inl⟩
     ·simp [hk]) (by by_cases hk:k∈xs <;> simp [hk])
   exact q Λ _ _ _ _ (.Q1H _) h.2 QA (QDS (tk:=Y6+1) g1 (fun b' o' hb e'=>(hs.2 b' hb).QR e') ho hor)
theorem Jv {Xb:QC QU} {as:QC QI} {P:QU->St->Prop} (ha:VRs Λ Xb as) (h:KH Xb σ P):Zq c A X0 fm Λ (Q0M (.Qd "dict.keys") as) VR σ P:=by
 refine Q6q ha h fun u a h1 h=>Q1W h fun l eu h=>?_;subst eu
 refine Q8o h fun Y4 e h=>?_
 ··refine Zn fun fz s ok r Q E q=>?_
   refine an3 (Q6S h1 e) fun yq1I g1 yq1J=>?_;obtain QA:=yq1I;refine ew1 yq1J fun cvs yq1K=>?_;refine an2 yq1K fun hD hk=>?_;clear yq1J yq1K
   refine Q9p Q6o Q8O PySem.F.entry_dict_keys (PySem.F.args_dict_keys_1 _) (kdl_meets_keys (knd XI c.w) (Xr l) (QDd l h1.1)) ⟨⟨cvs,hD⟩,?_⟩
   exact q _ _ _ _ _ (XL _ _) h (Q1i _ Q3a) (Q9B (tk:=Y6) ⟨Q2O h1.1,by rw [(XL Λ QD).2 l h1.1]⟩ QA)
theorem aeN {id:XA} {Xb:QC QU} {as:QC QI} {P:QU->St->Prop} (ha:VRs Λ Xb as) (h:pB id Xb σ P):Zq c A X0 fm Λ (Q0M (.Qd id) as) VR σ P:=by
 injections c A X0 fm Λ σ id Xb as P _ _
 refine Q0c h ?_ ?_
 ·intros e k
  subst e;exact Q6q ha k fun v a h1 h=>Kz h1 h
 intros h
 refine Q0c h ?_ ?_
 ·intros e k
  subst e;exact Fw ha k
 intros h
 refine Q0c h ?_ ?_
 ·intros e k
  subst e;exact OM ha k
 intros h
 refine Q0c h ?_ ?_
 ·intros e k
  subst e;exact OO ha k
 intros h
 refine Q0c h ?_ ?_
 ·intros e k
  subst e;exact Fu ha k
 intros h
 refine Q0c h ?_ ?_
 ·intros e k
  subst e;exact OS ha k
 intros h
 refine Q0c h ?_ ?_
 ·intros e k
  subst e;refine Q6q ha k ?_;intros v a h1 h;refine QBD h ?_;intros i ei h
  subst ei;obtain ⟨t,QA⟩:=h1
  exact Xj h.2.2 fun fz s Q E r q=>chr_of_range h.1 h.2.1 (q _ _ ⟨_,QA⟩)
 intros h
 refine Q0c h ?_ fun h=>Qy;intros e k
 subst e;exact Jv ha k
theorem TG {l:QH} {id:XA} {Q1e:QU} {x:QI} {Xb:QC QU} {as:QC QI} {P:QU->St->Prop} (hx:VR Λ (.QP l) x) (e:QS l=.bm id Q1e) (ha:VRs Λ Xb as) (h:pBm id (Q1e::Xb) σ P):Zq c A X0 fm Λ (Q0M x as) VR σ P:=fun fz s Q E ok r q=>by
 refine ew1 (Q36 l hx.1) fun o yq1Q=>?_;refine an2 yq1Q fun ho hor=>?_;clear yq1Q
 rw [e]at hor
 obtain (⟨cs,hob,QFe⟩):=hor
 rw [hx.2]
 refine Q20 ?_
 refine Q0c h (fun ei k=>?_) fun h=>Q0c h (fun ei k=>?_) fun h=>Qy
 ·subst ei
  refine QCK ha k fun k v b d' h2 h3 h=>Q1W h fun d ed h=>?_;subst ed
  refine Q8o h fun Y4 ed h=>Q2r h fun kk ek h=>?_
  ··refine an3 (Q6S QFe ed) fun yq1T g1 yq1U=>?_;obtain QA:=yq1T;refine ew1 yq1U fun cvs yq1V=>?_;refine an2 yq1V fun hD hk=>?_;clear yq1U yq1V
    obtain (⟨od,es,ep,hod,⟨c1,c2,c3⟩,QCJ,_⟩):=id' hD
    obtain (⟨cc,cd,cdat,csl⟩):=od
    simp only at c1 c2 c3 QCJ
    subst c1 c2 c3 QCJ
    refine HY (Q21 _ (by decide +XB)) ho hob (fun A' Q' hq=>HU hod hq) ?_
    exact GA (knd:=knd XI c.w) hD (QDd _ QFe.1) (B0 ek h2) (q Λ _ _ _ σ (.Q1H _) h (QGz (QGS _) h3) Q99)
 ·subst ei
  refine Q6q ha k fun k b h2 h=>Q1W h fun d ed h=>?_;subst ed
  refine QFE h fun xs ed h=>Q2r h fun kk ek h=>?_
  ··refine an4 (r.setsV QFe ed) fun yq1Y g1 hn hS=>?_;obtain QA:=yq1Y
    obtain (⟨od,es,ep,tb,hod,⟨c1,c2,c3⟩,QCJ,_⟩):=id' hS
    obtain (⟨cc,cd,cdat,csl⟩):=od
    simp only at c1 c2 c3 QCJ
    subst c1 c2 c3 QCJ
    refine HY (Q21 _ (by decide +XB)) ho hob (fun A' Q' hq=>Jd hod hq) ?_
    exact HT (knd:=knd XI c.w) (B0 ek h2) (IW ek h2) hS (q Λ _ _ _ σ (.Q1H _) h QA Q99)
end
end
end Mini
end
section
open PySem PySem.W PySem.Calls PyProof.Rows
namespace Mini
noncomputable def Du (K:Frag) (C:Addr):Bool:=(findIn K (.ref C) "__iter__" == some (some (.builtin "tuple.__iter__")))&&(subIn K (.ref C) (.type "tuple") == some true)
section
variable {prog:Program} {w:World} {A:Around} {E:Value->Shared->Prop} {s:Shared} {K:Frag} {t C:Addr} {items:Array Value} {n:Nat}
mutual
theorem OE:QBI "tuple.__iter__"=QB .slot:=by decide +XB
theorem MA:QH1 "tuple.__iter__"=QB ("tuple","__iter__"):=by decide +XB
theorem MB:QBg "tuple.__iter__"=QM:=by decide +XB
theorem Oa {Q1e:QI} {T Q1u:X6} {id:XA} {refuse:Sem QI} {TT:XA} {M:Model} {Q:QW QI->QZ->Prop} (L:ZL M QV (Q1p Q1e Q1u) (QB (.Qd id))) (hb:QFf (.Qd id) Q1e=ZU (.Qd id,[Q1e]))
  (hc:Qp M A (Q0M (.Qd id) [Q1e]) (fun v=>Q (QB v)) E s):Qp M A (Q4Z Q1e Q1u refuse) Q E s:=by
 simp only [Q4Z,Q8c]
 refine XX (Q9 (Q9 (L.here ?_)))
 simp only [hb]
 refine Q9 (Q1l (QDf ?_))
 have fin:Qp M A (if (Q4R id == Zv)=QM then (refuse >>= fun v=>ZU (QB v)) else (Q0M (.Qd id) [Q1e] >>= fun v=>ZU (QB v))) Q E s:=by
  simp only [builtin_beq_none,XQ,Zf]
  exact Q9 (YX hc (fun v s' h'=>QF h') fun _ _ h'=>h')
 split
 ·exact Q9 (QF (QF fin))
 ·exact Q7t (Q9 (QF (QF fin)))
theorem IX {Q:QI->QZ->Prop} {dct:QW Qq} (X:QAf QV) (hk:Du K C=QM) (ho:Qc t=QB {cls:=.QP C,Q01:=dct,YA:=.seq Xq n})
  (hQ:Q (.QP QD) {s with YL:=XK {cls:=.Qk "tuple_iterator",YA:=.Xo #[.QP t,.Qm 0 0]}}) :
  Qp (Qi XC w) A (Q4h (.QP t)) Q E s:=by
 injections XC w A E s K t C Xq n Q dct _ _ _ _
 simp only [Du,X7,ZJ]at hk
 have LT:ZL (Qi XC w) QV (Q14 (.QP t)) (.QP C):=(Q1j ho).Q2k .now
 have LI:ZL (Qi XC w) QV (Q1p (.QP t) "__iter__") (QB (.Qd "tuple.__iter__")):=Q4E (Q22 X hk.1)
 have LS:ZL (Qi XC w) QV (Zw (.QP t) (.Qk "tuple")) QM:=Q4E (Q5q X hk.2)
 have hcall:∀(Q':QI->QZ->Prop),Q' (.QP QD) {s with YL:=XK {cls:=.Qk "tuple_iterator",YA:=.Xo #[.QP t,.Qm 0 0]}}->Qp (Qi XC w) A (Q0M (.Qd "tuple.__iter__") [.QP t]) Q' E s:=by
  intros Q' hq
  refine Q20 (Q2V (b:=Builtin.«tuple.__iter__») MB entry_tuple_iter ?_)
  refine Q6r (i:="tuple.__iter__") (Q7f:="tuple") (n:="__iter__") (Q1e:=.QP t) (Q9m:=[]) (kw:=[]) OE MA LS (args_tuple_iter _) ?_
  show Qp _ _ (do ret (<- QDb "tuple_iterator" [.QP t,Zm 0])) _ _ s
  exact Q9 (Xk (QF hq))
 refine Q9 (QES ?_)
 refine Q9 (Oa (T:="tuple") (TT:="tuple") LI (slot_tuple_iter.bind _) (hcall _ ?_))
 exact Q9 (Q7F (T:="tuple_iterator") ⟨_,X2 _ QA,QA⟩ slot_tupleiter_next.lookup (QF hQ))
def Bk (h:ZP) (t:Qq) (Xq:XM QI):Prop:=∃o n,Q03 t=QB o/\Q1v=.seq Xq n
theorem Bk.extBut {h h':ZP} {b:Qq} (x:Bk h t Xq) (hs:Q0k b h h') (hab:t≠b):Bk h' t Xq:=let ⟨o,n,ho,hd⟩:=x;⟨o,n,hs t o hab ho,hd⟩
theorem Bk.push {h:ZP} (x:Bk h t Xq) (o:ZC):Bk (h.push o) t Xq:=let ⟨o',n,ho,hd⟩:=x;⟨o',n,Qa _ ho,hd⟩
theorem DY {it:Qq} {i:QH} {x:QI} {Q:QW QI->QZ->Prop} (hit:Q4F QV it t i)
  (ht:Bk QV t Xq) (hx:Xq[i]?=QB x)
  (hQ:∀h',Q4F h' it t (i+1)->Z8 it QV h'->Q (QB x) {s with YL:=h'}) :
  Qp (Qi XC w) A (Q3P (.QP it)) Q E s:=by
 obtain (⟨o,ho,hc,hd⟩):=id hit
 obtain (⟨ol,nl,hol,hdl⟩):=ht
 refine Q9 (Q3C (YH (Q1u:=Qb "__next__") Q3Q Q2x
  (Y2 Q2x Q3Q Q7u ?_ (Q8d _))))
 show Qp _ _ (QFg (.QP it) 0 >>= _) _ _ s
 refine Q9 (Q0l ho hd (x:=.QP t) QA ?_)
 rw [QN (show ¬((Q1h t == Zv)=QM) from Qj)]
 refine Q9 (Q0l ho hd (x:=.Qm i 0) QA ?_)
 refine Q9 (Yv hol hdl ?_)
 simp only [ZA,hx]
 refine Q9 (Yw ho hd (by simp) (QF ⟨x,QA,QF (hQ _ ?_ (XU ..))⟩))
 exact ⟨_,XO _ ho (Ya (XJ hd _)),(Q0U ..).QR hc,by
  rw [XJ hd];simp [Zm]⟩
theorem EJ {it:Qq} {i:QH} {Q:QW QI->QZ->Prop} (hh:Q4G=QG)
  (hit:Q4F QV it t i) (ht:Bk QV t Xq) (hx:Xq[i]?=QG)
  (hQ:∀h',Q0k it QV h'->Q QG {s with YL:=h'}):Qp (Qi XC w) A (Q3P (.QP it)) Q E s:=by
 injections XC w A E s t Xq it i Q _ _ _ _ _
 obtain ⟨o,ho,hc,hd⟩:=id hit
 obtain ⟨ol,nl,hol,hdl⟩:=ht
 refine Q9 (Q3C (YH (Q1u:=Qb "__next__") Q3Q Q2x (Y2 Q2x Q3Q Q7u ?_ (Q8d _))))
 show Qp _ _ (QFg (.QP it) 0 >>= _) _ _ s
 refine Q9 (Q0l ho hd (x:=.QP t) QA ?_)
 rw [QN (show ¬((Q1h t == Zv)=QM) from Qj)]
 refine Q9 (Q0l ho hd (x:=.Qm i 0) QA ?_)
 refine Q9 (Yv hol hdl ?_)
 simp only [ZA,hx]
 refine Q9 (Q0X (Q9 (Yw ho hd (by simp) ?_)))
 refine Q9 ?_
 simp only [QCL,Q9z]
 refine Q9 (Xk ?_ (by size_fits))
 refine Q9 (m:=Q2X _ _) (Zi (a:=Zv) (by first | rfl | (simp only [Q2X];rfl)) ?_)
 refine Xk ?_ (by size_fits)
 simp only [QA0]
 refine Q9 (Q8v ?_)
 first | rw [show Q8w=QG from hh] | rw [hh]
 refine Q9 (QF (QBJ ?_))
 refine Q9 (Q2o (T:="StopIteration") (b:=QM) ⟨_,X2 _ QA,QA⟩ Q7v ?_)
 exact QF (hQ _ (((XU ..).QFh _).Q65 _))
theorem K2 {it:Qq} (hne:t≠it):∀(n i:QH) (s:QZ) (Q:QC QI->QZ->Prop),Q4F QV it t i->Bk QV t Xq->i+n<=Z2 ->
  (∀h',Q4F h' it t (i+n)->Z8 it QV h'->Q ((Q5r i).take n) {s with YL:=h'})->Qp (Qi XC w) A (draw (.QP it) n) Q E s
 | 0,i,s,Q,hit,_,_,hQ=>by
  exact QF (by simpa using hQ QV hit (Q5p ..))
 | n+1,i,s,Q,hit,ht,hle,hQ=>by
  have hlt:i < Z2:=by exact Ck hle
  refine Q9 (DY hit ht (x:=Xq[i]) (by simp [hlt]) fun Q1Q QGT hs₁=>?_)
  refine Q9 (XX (K2 hne n (i+1) _ _ QGT (ht.extBut QA1 hne) (by exact Mf hle) fun QCM hit₂ hs₂=>QF ?_))
  have hd:Q5r i=Xq[i]::Q5r (i+1):=by simp [YM,hlt]
  have:=hQ QCM (by rw [show i+(n+1)=i+1+n by exact Me];exact hit₂) (hs₁.trans hs₂)
  rw [hd,Q8e]at this
  exact this
theorem EU {Q:QC QI->QZ->Prop} {dct:QW Qq} (hh:Q4G=QG) (X:QAf QV) (hk:Du K C=QM) (ho:Qc t=QB {cls:=.QP C,Q01:=dct,YA:=.seq Xq n})
  (hQ:∀h',Q0k QD QV h'->Q Q6s {s with YL:=h'}):Qp (Qi XC w) A (QFi (.QP t) Z2 QG) Q E s:=by
 injections XC w A E s K t C Xq n Q dct _ _ _ _ _
 have hlt:t≠QD:=Y5 (Qz ho)
 have ht:Bk QV t Xq:=⟨_,n,ho,QA⟩
 have hk':=hk
 simp only [Du,X7,ZJ]at hk'
 have LT:ZL (Qi XC w) QV (Q14 (.QP t)) (.QP C):=(Q1j ho).Q2k .now
 have LI:ZL (Qi XC w) QV (Q1p (.QP t) "__iter__") (QB (.Qd "tuple.__iter__")):=Q4E (Q22 X hk'.1)
 refine Q9 ?_
 ·skip
  refine Q9 (QES ?_)
  refine QF ?_
  rw [QN Qj]
  refine Q9 (XX (IX X hk ho ?_))
  refine Q9 (XX (K2 hlt Z2 0 _ _ ⟨_,X2 _ QA,QA,QA⟩ (ht.push _) (by exact aeo) fun Q1Q QGT hs₁=>?_))
  have hall:QDg Z2 (List.drop 0 Q6s)=Q6s:=by
   rw [QCN];exact Q6t (by simp)
  rw [hall]
  rw [QN (by simp)]
  have ht₁:Bk Q1Q t Xq:=(ht.push _).QCO QA1 hlt
  refine Q9 (XX (EJ hh QGT ht₁ (by simp) ?_));intros QCM he₂
  simp only [Option.isSome_none,XQ,Zf]
  refine QF (hQ QCM ?_);intros b o hb e;refine he₂ b o hb (QA1 b o hb (Qa _ e))
end
end
noncomputable def AR (K:Frag) (v:Val) (n:Nat):PT (List Val):=fun σ P=>Ai v fun l=>(Cp (σ.hp l) fun xs=>xs.length=n/\P xs σ)\/(Cq (σ.hp l) fun C xs=>Du K C=true/\xs.length=n/\P xs σ)
section
variable {c:Cx} {A:Around} {env:Env} {fm:Fm} {Λ:Lab} {σ:St}
mutual
theorem Rel.ext1 {fz:Qq->QW ZC} {L:Qq} {s:QZ} (r:Rel c fz L Λ σ s) {h':ZP} (he:Q0k QD QV h'):Rel c fz L Λ σ {s with YL:=h'} :=
 Q66 (tk:=Y6) (dr:=Q1G) fun b o e=>he b o (Y5 (Qz e)) e
theorem Fs (hc:Q3M) (hA:AOk A) {v:QU} {a:QI} {n:QH} {P:QC QU->St->Prop} (hv:VR Λ v a) (h:AR c.K v n σ P):Zq c A X0 fm Λ (QFi a n QG) VRs σ P:=by
 injections c A X0 fm Λ σ _ _ v a n P _ _
 refine Q1W h ?_;intros l ev h;subst ev
 ·refine Qy ?_ ?_
  ·intros h;refine QGj h ?_;intros xs e h
   obtain ⟨QA,p⟩:=h
   refine Zn ?_;intros fz s ok r Q E q
   obtain ⟨QA,g1,vs,k,a1,a2⟩:=(QAX hv e)
   have:=unpackItems_tuple (XC:=XI) (w:=c.w) (A:=A) (E:=E) (Q:=Q) (s:=s) Q0Y (B1 a1) fun h' he=>q Λ _ xs _ σ (.Q1H _) p a2 (r.ext1 he)
   rw [XS,<- Zh]at this
   exact this
  intros h;refine Cq.el h ?_;intros C xs e h
  ·obtain ⟨hk,QA,p⟩:=h
   refine Zn ?_;intros fz s ok r Q E q
   obtain ⟨o,ho,hor⟩:=(Q36 l hv.1)
   rw [e]at hor
   obtain ⟨vs,k,dct,QA,a2⟩:=hor
   have:=EU (XC:=XI) (w:=c.w) (A:=A) (E:=E) (Q:=Q) (s:=s) Q0Y (ZO Q0H) hk ho fun h' he=>q Λ _ xs _ σ (.Q1H _) p a2 (r.ext1 he)
   rw [XS,<- Zh]at this
   rw [hv.2];exact this
end
end
end Mini
end
section
open PySem PySem.W PySem.Calls PyProof.Rows
set_option genInjectivity false
set_option genSizeOf false
namespace Mini
inductive Fl where
 | next
 | brk
 | cont
 | ret (v:Val)
instance:Nonempty Fl:=⟨.next⟩
noncomputable def FR (Λ:Lab):Fl->Flow->Prop
 | .next,f=>f=.next
 | .brk,f=>f=.brk
 | .cont,f=>f=.cont
 | .ret v,f=>∃c,f=.ret c/\VR Λ v c
noncomputable def AS {α:Type} (stay:St->Prop) (turn:α->PT Fl):List α->PT Fl
 | [],σ,P=>stay σ/\P .next σ
 | x::r,σ,P=>stay σ/\turn x σ fun fl σ=>match fl with
   | .next=>AS stay turn r σ P
   | .cont=>AS stay turn r σ P
   | .brk=>P .next σ
   | .ret v=>P (.ret v) σ
open Classical in
noncomputable def fzO (fz:Addr->Option Obj) (own:List Addr) (h:Heap):Addr->Option Obj:=fun b=>if b∈own then h.get? b else fz b
section
variable {c:Cx} {fz:Addr->Option Obj} {L:Addr} {Λ:Lab} {σ:St} {s:Shared} {own:List Addr}
mutual
theorem Rel.hold (R:Rel c fz L Λ σ s) (h1:∀b∈own,fz b=QG) (h2:L∉own) (h3:∀l,l < Xh->Xr l∉own):Rel c (fzO fz own QV) L Λ σ s where
 nn:=Q3y
 ns:=QC1
 Q4V:=fun b o e=>by
  unfold fzO at e
  split at e
  ·exact e
  ·exact Q48 b o e
 Q8Z:=fun b o e=>by
  unfold fzO
  have:=Q5D b o e
  split
  ·rename_i hb;rw [h1 b hb]at this;cases this
  ·exact this
 fzL:=by unfold fzO;rw [QN h2];exact Q6M
 ob:=Q63
 fzl:=fun l hl=>by unfold fzO;rw [QN (h3 l hl)];exact Q5k l hl
 lne:=Q5E
 inj:=Q7C
 Q4p:=Q3e
 low:=Q6N
 nsm:=Q8q
 os:=QCy
 Q0L:=Q64
theorem Rel.free {h:ZP} (R:Rel c (fzO fz own h) L Λ σ s) (hb:∀b o,Q33 b=QB o->fz b=QB o) (h1:∀b∈own,fz b=QG) (h2:∀b∈own,∃o,Q03 b=QB o) :
  Rel c fz L Λ σ s/\(∀b∈own,∀o,Q03 b=QB o->Qc b=QB o)/\∀l,l < Xh->Xr l∉own:=by
 have sub:∀b o,fz b=QB o->fzO fz own h b=QB o:=fun b o e=>by
  unfold fzO
  split
  ·rename_i hb;rw [h1 b hb]at e;cases e
  ·exact e
 refine ⟨{nn:=Q3y,ns:=QC1,Q4V:=fun b o e=>Q48 b o (sub b o e),Q8Z:=hb,fzL:=?_,ob:=Q63,fzl:=fun l hl=>?_,lne:=Q5E,inj:=Q7C,Q4p:=Q3e,low:=Q6N,nsm:=Q8q,os:=QCy,Q0L:=Q64},fun b hb o e=>Q48 b o (by unfold fzO;rw [QY hb];exact e),fun l hl hm=>?_⟩
 ·cases q:fz L with
  | QG=>rfl
  | QB o=>have:=sub _ _ q;rw [Q6M]at this;cases this
 ·cases q:fz (Xr l) with
  | QG=>rfl
  | QB o=>have:=sub _ _ q;rw [Q5k l hl]at this;cases this
 ·obtain (⟨o,ho⟩):=h2 _ hm
  have:=Q5k l hl
  unfold fzO at this
  rw [QY hm,ho]at this;cases this
structure It (c:Cx) (A:Q2t) (X0:Env) (Λ₀:Lab) (fz:Qq->QW ZC) (I:Qq) (own:QC Qq) (Xq:QC QU) (Q3D:St->Prop) (J:QH->ZP->Prop):Prop where
 QCA:∀i h h',J i h->(∀b∈own,∀o,Q03 b=QB o->Z7 b=QB o)->J i h'
 QCP:∀i h,J i h->∀b∈own,∃o,Q03 b=QB o
 fzo:∀b∈own,fz b=QG
 noL:Qo∉own
 YC:∀i x Λ σ s (Q:QW QI->QZ->Prop) (E:QI->QZ->Prop),Λ₀.Ext Λ->Rel c fz Qo Λ σ s->Q3D σ->J i QV->Xq[i]?=QB x ->
  (∀v h' tk dr,VR Λ x v->J (i+1) h'->(∀b o,b∉own->Qc b=QB o->Z7 b=QB o)->Q (QB v) {s with YL:=h',Q0P:=tk,Q34:=dr})->Qp (Qi XI c.w) A (Q3P (.QP I)) Q E s
 Q4x:∀Λ σ s (Q:QW QI->QZ->Prop) (E:QI->QZ->Prop),Λ₀.Ext Λ->Rel c fz Qo Λ σ s->Q3D σ->J Yc QV ->
  (∀h' tk dr,(∀b o,b∉own->Qc b=QB o->Z7 b=QB o)->Q QG {s with YL:=h',Q0P:=tk,Q34:=dr})->Qp (Qi XI c.w) A (Q3P (.QP I)) Q E s
 go:∀i Q1q v s (Q:YV->QZ->Prop) (E:QI->QZ->Prop),J i QV->Q () s->Qp (Qi XI c.w) A (Q7G Q1q (.QP I) v) Q E s
 Q1e:∀i s (Q:QI->QZ->Prop) (E:QI->QZ->Prop),J i QV->Q (.QP I) s->Qp (Qi XI c.w) A (Q4h (.QP I)) Q E s
theorem Rel.growOwn (R:Rel c fz L Λ σ s) {h':ZP} {tk:QH} {dr:Drawn} (h1:∀b∈own,fz b=QG) (h2:L∉own) (h3:∀l,l < Xh->Xr l∉own) (hk:∀b o,b∉own->Qc b=QB o->Z7 b=QB o) :
  Rel c fz L Λ σ {s with YL:=h',Q0P:=tk,Q34:=dr} where
 nn:=Q3y
 ns:=let ⟨m,h,k⟩:=QC1;⟨m,h.at' fun o e=>hk _ o h2 e,k⟩
 Q4V:=fun b o e=>hk b o (fun hb=>by rw [h1 b hb]at e;cases e) (Q48 b o e)
 Q8Z:=Q5D
 fzL:=Q6M
 ob:=fun l hl=>let ⟨o,h,k⟩:=Q63 l hl;⟨o,hk _ _ (h3 l hl) h,k⟩
 fzl:=Q5k
 lne:=Q5E
 inj:=Q7C
 Q4p:=Q3e
 low:=Q6N
 nsm:=Q8q
 os:=QCy
 Q0L:=Q64
end
end
section
variable {c:Cx} {A:Around} {env:Env} {fm:Fm} {Λ:Lab} {σ:St}
mutual
theorem CA {XC:Q3F} {w:Q6I} {s:QZ} {R:Q7w->QZ->Prop} {Q1q it YZ QGU X0} (I:QH->QZ->Prop)
  (Q9J:∀n s,I n s->Qp (Qi XC w) A (Q3P it) (fun r Q1m=>match r with
   | QG=>Qp (Qi XC w) A (QFj QGU X0) (fun f QAg=>R (.ok f) QAg) (QBh (Qi XC w) A X0 fun e s'=>R (.Q7s e) s') Q1m
   | QB v=>Qp (Qi XC w) A (Q7G Q1q it v) (fun _ Q1m=>Qp (Qi XC w) A (Q2J Q1q X0 v) (fun _ QCI=>Qp (Qi XC w) A (QFj YZ X0) (fun f QAg=>match f with
     | .YC | .QAh=>∃m,m < n/\I m QAg
     | .brk=>R (.ok .YC) QAg
     | .ret v=>R (.ok (.ret v)) QAg) (QBh (Qi XC w) A X0 fun e s'=>R (.Q7s e) s') QCI) (QBh (Qi XC w) A X0 fun e s'=>R (.Q7s e) s') Q1m) (QBh (Qi XC w) A X0 fun e s'=>R (.Q7s e) s') Q1m) (QBh (Qi XC w) A X0 fun e s'=>R (.Q7s e) s') s)
  (n:QH) (h:I n s):Q1J (Qi XC w) A (.QH2 Q1q it YZ QGU X0) R s:=by
 refine QD9 QA I (fun n s hI=>?_) n h
 show Qp _ _ ((forTurn Q1q it YZ QGU X0).QH3 (fun x=>do QDh x X0;QBQ x)) _ _ s
 refine QFk ?_
 simp only [forTurn]
 refine Q9 (Q0j (Q9 (wpAny_onRaise (YX (Q9J n s hI) (fun r Q1m Q1Q=>?_) fun _ _ h'=>Q0j h'))))
 cases r with
 | QG=>exact QF (.inr ⟨QA,codeAny_block Q1Q⟩)
 | QB v =>
  refine Q9 (YX Q1Q (fun _ Q1m Q1Q=>?_) fun _ _ h'=>h')
  refine Q9 (YX Q1Q (fun _ QCI QCM=>Q9 (YX QCM (fun f QAg QBR=>?_) fun _ _ h'=>h')) fun _ _ h'=>h')
  cases f with
  | YC=>exact QF (.inl ⟨QA,QBR⟩)
  | QAh=>exact QF (.inl ⟨QA,QBR⟩)
  | brk=>exact QF QBR
  | ret v=>exact QF QBR
theorem Ba {fz:Qq->QW ZC} {I:Qq} {own:QC Qq} {Xq:QC QU} {Q3D:St->Prop} {J:QH->ZP->Prop} (W:It c A X0 Λ fz I own Xq Q3D J) {Q1q:Qf} {YZ:QC YW} {asg:QU->PT YV} {bod:PT Fl} {P:Fl->St->Prop} {s:QZ} {R:Q7w->QZ->Prop}
  (QDA:∀x Λ σ P v,VR Λ x v->asg x σ P->Zq c A X0 fm Λ (Q2J Q1q X0 v) UR σ P) (QDB:∀Λ σ P,bod σ P->Zq c A X0 fm Λ (QFj YZ X0) FR σ P)
  (ok:Q4q X0 fm Λ) (r:Rel c fz Qo Λ σ s) (hd:∀l,l < Xh->Xr l∉own) (hJ:J 0 QV) (h:AS Q3D (fun x σ P=>asg x σ fun _ σ=>bod σ P) Xq σ P)
  (q:∀Za s' b a XF,Q0A Za->P b XF->FR Za b a->Rel c fz Qo Za XF s'->R (.ok a) s') :
  Q1J (Qi XI c.w) A (.QH2 Q1q (.QP I) YZ [] X0) R s:=by
 injections c A X0 fm Λ σ fz I own Xq Q3D J _ Q1q YZ asg bod P s R _ _ _ _ _ _ _ _
 refine CA (fun k s'=>∃i Za XF,k=Yc+1 - i/\i<=Yc/\Q0A Za/\Rel c fz Qo Za XF s'/\(∀l,l < QDP->Q4W l∉own)/\J i Q4S/\AS Q3D (fun x σ P=>asg x σ fun _ σ=>bod σ P) (Q2Y i) XF P) ?_ _ ⟨0,Λ,σ,QA,XT _,.Q1H _,r,hd,hJ,by simpa using h⟩
 intros k Q1m Q2T
 obtain ⟨i,Q5s,Q7H,QA,hi,Q6T,r₁,Q7x,QFl,Q1Q⟩:=Q2T
 cases hx:Xq[i]? with
 | QG =>
  have Q2U:i=Yc:=by have:=Q29 hx;exact Kw hi this
  subst Q2U
  rw [Q4H]at Q1Q
  refine QCQ Q5s Q7H Q1m _ _ Q6T r₁ Q1Q.1 QFl ?_;intros h' tk dr hk;refine Q7I ?_
  exact q Q5s _ .YC .YC Q7H Q6T Q1Q.2 QA (Q3m QBK QDi Q7x hk)
 | QB x =>
  injections x zI
  obtain ⟨hlt,hxe⟩:=QX hx
  have Q6U:Q2Y i=x::Q2Y (i+1):=by rw [YM hlt,hxe]
  rw [Q6U]at Q1Q
  refine W.next i x Q5s Q7H Q1m _ _ Q6T r₁ Q1Q.1 QFl hx ?_;intros v h' tk dr hv hJ' hk
  have r₂:=Q3m (tk:=tk) (dr:=dr) QBK QDi Q7x hk
  have r₃:=r₂.hold QBK QDi Q7x
  refine W.go (i+1) Q1q v _ _ _ hJ' ?_
  refine QDA x Q5s Q7H _ v hv Q1Q.2 _ _ _ _ (Yl Q6T) r₃ ?_;intros QH4 QCI u1 u2 QH5 QCR QFm u3 QFn
  refine QDB QH4 QH5 _ QFm _ _ _ _ ((Yl Q6T).ext QCR) QFn ?_
  ·intros Q4r QAi fl f Q4s Q8f hP hF r₄
   obtain ⟨Q9K,QDj,QCS⟩:=(r₄.free Q9L QBK (QH6 _ _ hJ'))
   have hJ₅:J (i+1) QDk:=QH7 _ _ _ hJ' QDj
   cases fl with
   | YC=>cases hF;exact ⟨Yc+1 - (i+1),by exact Ig hlt,i+1,Q4r,Q4s,QA,hlt,(Q5M QCR).QR Q8f,Q9K,QCS,hJ₅,hP⟩
   | QAh=>cases hF;exact ⟨Yc+1 - (i+1),by exact Ig hlt,i+1,Q4r,Q4s,QA,hlt,(Q5M QCR).QR Q8f,Q9K,QCS,hJ₅,hP⟩
   | brk=>cases hF;exact q Q4r _ .YC .YC Q4s ((Q5M QCR).QR Q8f) hP QA Q9K
   | ret v=>obtain ⟨cv,QA,hcv⟩:=hF;exact q Q4r _ (.ret v) (.ret cv) Q4s ((Q5M QCR).QR Q8f) hP ⟨cv,QA,hcv⟩ Q9K
end
end
end Mini
end
section
open PySem PySem.W PySem.Calls PyProof.Rows
namespace Mini
noncomputable def Gb (c:Cx) (A:Around) (env:Env) (Λ:Lab) (fz:Addr->Option Obj) (σ:St) (items:List Val) (stay:St->Prop) (it:Value) (s':Shared):Prop :=
 ∃I own J,it=.ref I/\(∀(env':Env) (fz':Addr->Option Obj),(∀b∈own,fz' b=none)->env'.locals∉own->It c A env' Λ fz' I own items stay J)/\Rel c fz env.locals Λ σ s'/\(∀b∈own,fz b=none)/\env.locals∉own/\(∀l,l < Λ.n->Λ.f l∉own)/\J 0 s'.heap
section
variable {prog:Program} {w:World} {A:Around} {E:Value->Shared->Prop} {s:Shared}
theorem Cv {I:Addr} {o:Obj} {T:String} {vs:Array Value} {target:Expr} {v:Value} {Q:Unit->Shared->Prop} (ho:s.heap.get? I=some o) (hc:o.cls=.type T) (hd:o.data=.fields vs)
  (hT:(["enumerate","zip","dict_itemiterator","dict_reverseitemiterator","odict_iterator","itertools.zip_longest","itertools.pairwise"].contains T)=false) (hQ:Q () s):wpAny (model prog w) A (letOwnedTupleGo target (.ref I) v) Q E s:=by
 have core:wpAny (model prog w) A (do
  let (.ref r,.ref a):=(Value.ref I,v) | return
  let o <- load r
  match o.cls,o.data with
  | .type n,.fields vs =>
   if ["enumerate","zip","dict_itemiterator","dict_reverseitemiterator","odict_iterator","itertools.zip_longest","itertools.pairwise"].contains n&&vs[0]? == some (rawInt a) then
    rule "for.unpacks-the-owned-tuple"
    updateField r 0 .none
  | _,_=>pure ()) Q E s:=by
  cases v <;> try exact wpAny_pure hQ
  refine wpAny_bind (wpAny_load ho ?_)
  rw [hc,hd]
  simp only [hT,Bool.false_and,Bool.false_eq_true,if_false]
  exact wpAny_pure hQ
 cases target <;> first | exact wpAny_pure hQ | exact core
end
section
variable {c:Cx} {A:Around} {env:Env} {fm:Fm} {Λ:Lab} {σ:St} {fz:Addr->Option Obj} {s:Shared} {E:Value->Shared->Prop}
mutual
theorem Rel.size_fz (r:Rel c fz Qo Λ σ s):fz QD=QG:=by
 cases q:fz QD with
 | QG=>rfl
 | QB o=>exact Xc (Qz (QET _ _ q)) (XY _)
theorem Rel.size_lab (r:Rel c fz Qo Λ σ s):∀l,l < Xh->Xr l∉[QD]:=fun l hl h=>by
 refine ew1 (Q36 l hl) fun o yq26=>?_;refine an2 yq26 fun ho _=>?_;clear yq26
 exact Xc (Qz ho) (by rw [Qe h];exact XY _)
theorem Rel.size_L (r:Rel c fz Qo Λ σ s):Qo∉[QD]:=fun h=>Xc QDl (by rw [Qe h];exact XY _)
theorem KU {Q:QI->QZ->Prop} (hA:AOk A) (r:Rel c fz Qo Λ σ s) {l:QH} {a:QI} {xs:QC QU} (hv:VR Λ (.QP l) a) (e:QS l=.Qs xs)
  (q:∀it s',Gb c A X0 Λ fz σ xs (fun σ=>QS l=.Qs xs) it s'->Q it s'):Qp (Qi XI c.w) A (Q4h a) Q E s:=by
 refine an3 (Q0t hv e) fun yq27 g1 yq28=>?_;obtain QA:=yq27;refine ew2 yq28 fun vs n yq29=>?_;refine an2 yq29 fun a1 a2=>?_;clear yq28 yq29
 have hne:Xr l≠QD:=Y5 (Qz a1)
 refine QA2 (Al a1) (q _ _ ⟨QD,[QD],fun i h=>QEU QD (Xr l) i,QA,?_,Q66 (tk:=Y6) (dr:=Q1G) fun b o e=>Qa _ e,(fun b hb=>by rw [Qe hb];exact Q56),Q7y,Q5N,⟨_,X2 _ QA,QA,QA⟩⟩)
 intro Q2S fz' QEV hL'
 refine {QCA:=fun i h h' ⟨o,ho,r⟩ hk=>⟨o,hk _ (.Zc _) _ ho,r⟩,QCP:=fun i h ⟨o,ho,_⟩ b hb=>by rw [Qe hb];exact ⟨o,ho⟩,fzo:=QEV,noL:=hL',YC:=?_,Q4x:=?_,go:=?_,Q1e:=?_}
 ·intro i x Za XF s' Q' E' ext r' st J hx k
  have hv':VR Za (.QP l) (.QP (Q4W l)):=⟨QQ hv.1 ext.1,QA⟩
  refine an3 (r'.listsV hv' st) fun _ _ yq2a=>?_;refine ew2 yq2a fun ws m yq2b=>?_;refine an2 yq2b fun b1 b2=>?_;clear yq2a yq2b
  refine ew1 (b2.get hx) fun z yq2c=>?_;refine an2 yq2c fun hz hvz=>?_;clear yq2c
  rw [ext.2 l hv.1]at b1
  exact wpAny_pyNext_list_item J (Al b1) (by simpa using hz) fun h' J' hs=>k z h' QA3 Q3n hvz J' fun b o hb eb=>(hs.2 b fun q=>hb (by rw [q];exact .Zc _)).QR eb
 ·intro Za XF s' Q' E' ext r' st J k
  have hv':VR Za (.QP l) (.QP (Q4W l)):=⟨QQ hv.1 ext.1,QA⟩
  refine an3 (r'.listsV hv' st) fun _ _ yq2d=>?_;refine ew2 yq2d fun ws m yq2e=>?_;refine an2 yq2e fun b1 b2=>?_;clear yq2d yq2e
  rw [ext.2 l hv.1]at b1
  exact wpAny_pyNext_list_end Q0Y J (Al b1) (by simp [QDm]) fun h' he=>k h' QA3 Q3n fun b o hb eb=>he b o (fun q=>hb (by rw [q];exact .Zc _)) eb
 ·intro i Q1q v s' Q' E' Q2T hq
  obtain (⟨o,ho,hc,hd⟩):=Q2T
  exact Cv ho hc hd (by decide) hq
 ·intro i s' Q' E' J hq
  exact wpAny_pyIter_listiter J hq
theorem IY {Q:QI->QZ->Prop} (hA:AOk A) (r:Rel c fz Qo Λ σ s) {l:QH} {a:QI} {xs:QC QU} (hv:VR Λ (.QP l) a) (e:QS l=.YJ xs)
  (q:∀it s',Gb c A X0 Λ fz σ xs (fun σ=>QS l=.YJ xs) it s'->Q it s'):Qp (Qi XI c.w) A (Q4h a) Q E s:=by
 refine an3 (QAX hv e) fun yq2f g1 yq2g=>?_;obtain QA:=yq2f;refine ew2 yq2g fun vs n yq2h=>?_;refine an2 yq2h fun a1 a2=>?_;clear yq2g yq2h
 refine iter_tuple (B1 a1) (q _ _ ⟨QD,[QD],fun i h=>Q4F h QD (Xr l) i,QA,?_,Q66 (tk:=Y6) (dr:=Q1G) fun b o e=>Qa _ e,(fun b hb=>by rw [Qe hb];exact Q56),Q7y,Q5N,⟨_,X2 _ QA,QA,QA⟩⟩)
 intro Q2S fz' QEV hL'
 refine {QCA:=fun i h h' ⟨o,ho,r⟩ hk=>⟨o,hk _ (.Zc _) _ ho,r⟩,QCP:=fun i h ⟨o,ho,_⟩ b hb=>by rw [Qe hb];exact ⟨o,ho⟩,fzo:=QEV,noL:=hL',YC:=?_,Q4x:=?_,go:=?_,Q1e:=?_}
 ·intro i x Za XF s' Q' E' ext r' st J hx k
  have hv':VR Za (.QP l) (.QP (Q4W l)):=⟨QQ hv.1 ext.1,QA⟩
  refine an3 (r'.tuplesV hv' st) fun _ _ yq2i=>?_;refine ew2 yq2i fun ws m yq2j=>?_;refine an2 yq2j fun b1 b2=>?_;clear yq2i yq2j
  refine ew1 (b2.get hx) fun z yq2k=>?_;refine an2 yq2k fun hz hvz=>?_;clear yq2k
  rw [ext.2 l hv.1]at b1
  exact next_tuple_item J (B1 b1) (by simpa using hz) fun h' J' hs=>k z h' QA3 Q3n hvz J' fun b o hb eb=>(hs.2 b fun q=>hb (by rw [q];exact .Zc _)).QR eb
 ·intro Za XF s' Q' E' ext r' st J k
  have hv':VR Za (.QP l) (.QP (Q4W l)):=⟨QQ hv.1 ext.1,QA⟩
  refine an3 (r'.tuplesV hv' st) fun _ _ yq2l=>?_;refine ew2 yq2l fun ws m yq2m=>?_;refine an2 yq2m fun b1 b2=>?_;clear yq2l yq2m
  rw [ext.2 l hv.1]at b1
  exact next_tuple_end Q0Y J (B1 b1) (by simp [QDm]) fun h' he=>k h' QA3 Q3n fun b o hb eb=>he b o (fun q=>hb (by rw [q];exact .Zc _)) eb
 ·intro i Q1q v s' Q' E' Q6g hq
  obtain (⟨o,ho,hc,hd⟩):=Q6g
  exact Cv ho hc hd (by decide) hq
 ·intro i s' Q' E' J hq
  exact wpAny_pyIter_tupleiter J hq
def Ay (a b k:X3):QC X3:=(X5 (XG a b k).Q1X).map fun (i:QH)=>a+(i:X3)*k
theorem IZ {Q:QI->QZ->Prop} (hA:AOk A) (r:Rel c fz Qo Λ σ s) {R:Qq} {a b k:X3} {t u v:Tok} (hr:IsRange QV R a b k t u v) (hs:Q0b a b k=QM) (hz:0<=XG a b k)
  (q:∀it s',Gb c A X0 Λ fz σ ((Ay a b k).map .Qm) (fun _=>Q3x) it s'->Q it s'):Qp (Qi XI c.w) A (Q4h (.QP R)) Q E s:=by
 have W:=Walks.range (XC:=XI) (w:=c.w) (A:=A) Q0Y QD a k (XG a b k).Q1X
 have hn:((XG a b k).Q1X:X3)=XG a b k:=Q2v hz
 refine wpAny_pyIter_range hr hs (q _ _ ⟨QD,[QD],fun i h=>QFo h QD (a+(i:X3)*k) (((XG a b k).Q1X:X3) - i) k,QA,?_,Q66 (tk:=Y6) (dr:=Q1G) fun b o e=>Qa _ e,(fun b hb=>by rw [Qe hb];exact Q56),Q7y,Q5N,?_⟩)
 ·intro Q2S fz' QEV hL'
  refine {QCA:=fun i h h' ho hk=>hk _ (.Zc _) _ ho,QCP:=fun i h ho b hb=>by rw [Qe hb];exact ⟨_,ho⟩,fzo:=QEV,noL:=hL',YC:=?_,Q4x:=?_,go:=?_,Q1e:=?_}
  ·intro i x Za XF s' Q' E' ext r' st J hx kk
   unfold Ay at hx
   rw [YT,QT]at hx
   refine ew1 (Ym hx) fun i' yq2n=>?_;refine an2 yq2n fun hi' yq2o=>?_;obtain QA:=yq2o;clear yq2n
   obtain (⟨hlt,e'⟩):=QX hi'
   rw [Y8]at hlt
   obtain QA:i=i':=by simpa using e'
   refine W.item i s' Q' E' hlt J fun v' h' tk hv' J' hk=>?_
   obtain (⟨t',QA⟩):=hv'
   exact kk _ h' tk Q3n ⟨t',QA⟩ J' hk
  ·intro Za XF s' Q' E' ext r' st J kk
   rw [show ((Ay a b k).map Q11).ZT=(XG a b k).Q1X by simp [Ay]]at J
   exact QCQ s' Q' E' J fun h' tk hk=>kk h' tk Q3n hk
  ·intro i Q1q v s' Q' E' ho hq
   exact Cv ho QA QA (by decide) hq
  ·intro i s' Q' E' J hq
   exact wpAny_pyIter_rangeiter J hq
 ·show QFo _ _ _ _ _
  simp only [Int.ofNat_zero,QE8,QE6,Int.sub_zero,hn]
  exact X2 _ QA
end
end
end Mini
end
section
open PySem PySem.W PySem.Calls PyProof.Rows
namespace Mini
mutual
def Cw (xs:QC QU):QC (QH×QU):=xs.zipIdx.map fun p=>(p.2,p.1)
theorem Hi {xs:QC QU} {i:QH} {x:QU} (h:xs[i]?=QB x):(Cw xs)[i]?=QB (i,x):=by
 unfold Cw
 rw [QT,List.getElem?_zipIdx,h];simp
theorem Dk (xs:QC QU):(Cw xs).ZT=Qn:=by simp [Cw]
end
section
variable {c:Cx} {A:Around} {env:Env} {fm:Fm} {Λ:Lab} {σ:St}
mutual
theorem Rel.label {fz:Qq->QW ZC} {L:Qq} {s:QZ} (R:Rel c fz L Λ σ s) {a:Qq} {o:Ob} {co:ZC} (hco:Qc a=QB co) (hL:a≠L) (hfz:fz a=QG) (hlt:L < a) (hn:∀l,l < Xh->Xr l≠a) (ho:OR XI c.w (Z5 a) o co) :
  Rel c fz L (Z5 a) (Qw o) s:=by
 injections c Λ σ fz L s _ a o co _ _ _ _ _ _
 have hx:=XL Λ a
 have fs:(Z5 a).f Xh=a:=QY QA
 refine {nn:=by show Xh+1=QO+1;rw [Q3y],ns:=?_,Q4V:=Q48,Q8Z:=Q5D,fzL:=Q6M,ob:=fun l hl=>?_,fzl:=fun l hl=>?_,lne:=fun l hl=>?_,inj:=fun l l' hl hl' e=>?_,Q4p:=Q3e,low:=Q6N,nsm:=fun l hl=>?_,os:=QCy,Q0L:=Q64}
 ·obtain ⟨m,h,k⟩:=QC1
  exact ⟨m,h,fun x=>(k x).ext hx⟩
 ·by_cases h:l=Xh
  ·subst h
   refine ⟨co,by rw [fs];exact hco,?_⟩
   have:(Qw o).hp Xh=o:=QY Q3y
   rw [this];exact ho
  ·have hl':l < Xh:=by have:l < Xh+1:=hl;exact BH h this
   obtain ⟨o',h1,h2⟩:=(Q63 l hl')
   refine ⟨o',by rw [hx.2 l hl'];exact h1,?_⟩
   have:(Qw o).hp l=QS l:=QN (by rw [<- Q3y];exact h)
   rw [this];exact QEF hx
 ·by_cases h:l=Xh
  ·subst h;rw [fs];exact hfz
  ·have hl':l < Xh:=by have:l < Xh+1:=hl;exact BH h this
   rw [hx.2 l hl'];exact Q5k l hl'
 ·by_cases h:l=Xh
  ·subst h;rw [fs];exact hL
  ·have hl':l < Xh:=by have:l < Xh+1:=hl;exact BH h this
   rw [hx.2 l hl'];exact Q5E l hl'
 ·have a1:l < Xh+1:=hl
  have a2:l' < Xh+1:=hl'
  by_cases h:l=Xh <;> by_cases h':l'=Xh
  ·rw [h,h']
  ·subst h
   have q:l' < Xh:=by exact Bl a2 h'
   rw [fs,hx.2 l' q]at e
   exact Xc QGV (hn l' q)
  ·subst h'
   have q:l < Xh:=by exact Bl a1 h
   rw [fs,hx.2 l q]at e
   exact Xc e (hn l q)
  ·have q:l < Xh:=by exact Bl a1 h
   have q':l' < Xh:=by exact Bl a2 h'
   rw [hx.2 l q,hx.2 l' q']at e
   exact Q7C l l' q q' e
 ·by_cases h:l=Xh
  ·subst h;rw [fs];exact Yi (Yp (Q1F Q6N hlt))
  ·have hl':l < Xh:=by have:l < Xh+1:=hl;exact BH h this
   rw [hx.2 l hl'];exact Q8q l hl'
theorem Iy (hA:AOk A) {fz:Qq->QW ZC} {e it:Qq} {l:QH} {xs:QC QU} {elts:QC Qf} {kk:QH} {tpos:Pos} {YZ:QC YW} {asg:QU->PT YV} {bod:PT Fl} {P:Fl->St->Prop} {s:QZ} {R:Q7w->QZ->Prop}
  (QDA:∀x Λ σ P v,VR Λ x v->asg x σ P->Zq c A X0 fm Λ (Q2J (.Zp elts kk tpos) X0 v) UR σ P) (QDB:∀Λ σ P,bod σ P->Zq c A X0 fm Λ (QFj YZ X0) FR σ P)
  (ok:Q4q X0 fm Λ) (r:Rel c fz Qo Λ σ s) (hl:l < Xh) (hei:e≠it) (hfe:fz e=QG) (hfi:fz it=QG) (hLe:Qo≠e) (hLi:Qo≠it) (hd:∀l,l < Xh->Xr l∉[e,it])
  (he:IsEnum QV e it 0 .QG) (hi:Q5t it (Xr l) 0)
  (h:AS (fun σ=>QS l=.Qs xs) (fun (p:QH×QU) σ P=>asg (.QP QO) (Qw (.YJ [.Qm p.1,p.2])) fun _ σ=>bod σ P) (Cw xs) σ P)
  (q:∀Za s' b a XF,Q0A Za->P b XF->FR Za b a->Rel c fz Qo Za XF s'->R (.ok a) s') :
  Q1J (Qi XI c.w) A (.QH2 (.Zp elts kk tpos) (.QP e) YZ [] X0) R s:=by
 injections c A X0 fm Λ σ _ fz e it l xs elts kk tpos YZ asg bod P s R _ _ _ _ _ _ _ _ _ _ _ _ _ _ _
 have fzo:∀b∈[e,it],fz b=QG:=by
  intros b hb
  rcases XP hb with QA | hb
  ·exact hfe
  ·rw [Qe hb];exact hfi
 have noL:Qo∉[e,it]:=by
  intros hb
  rcases XP hb with hb | hb
  ·exact hLe hb
  ·exact hLi (Qe hb)
 refine CA (fun k s'=>∃i Za XF old,k=Qn+1 - i/\i<=Qn/\Q0A Za/\Rel c fz Qo Za XF s'/\(∀l,l < QDP->Q4W l∉[e,it])/\IsEnum Q4S e it i old/\s'.heap.IsListIter it (Xr l) i/\AS (fun σ=>QS l=.Qs xs) (fun (p:QH×QU) σ P=>asg (.QP QO) (Qw (.YJ [.Qm p.1,p.2])) fun _ σ=>bod σ P) ((Cw xs).Q9M i) XF P) ?_ _ ⟨0,Λ,σ,.QG,QA,XT _,.Q1H _,r,hd,he,hi,by simpa using h⟩
 intros k Q1m Q2T
 obtain ⟨i,Q5s,Q7H,old,QA,hi',Q6T,r₁,Q7x,he₁,hi₁,Q1Q⟩:=Q2T
 have hv':VR Q5s (.QP l) (.QP (Λ₁.f l)):=⟨QQ hl Q6T.1,QA⟩
 have hstay:σ₁.hp l=.Qs xs:=by
  cases hq:(Cw xs).Q9M i with
  | Zl=>rw [hq]at Q1Q;exact Q1Q.1
  | Xu _ _=>rw [hq]at Q1Q;exact Q1Q.1
 obtain ⟨_,_,ws,m,b1,b2⟩:=(r₁.listsV hv' hstay)
 rw [Q6T.2 l hl]at b1
 cases hx:xs[i]? with
 | QG =>
  have Q2U:i=Qn:=by have:=Q29 hx;exact Kw hi' this
  subst Q2U
  rw [show (Cw xs).Q9M Qn=[] by rw [<- Dk xs,Q4H]]at Q1Q
  refine wpAny_pyNext_enum_end Q0Y he₁ hi₁ (Al b1) (by simp [QDm]) ?_;intros h' hk;refine Q7I ?_
  refine q Q5s _ .YC .YC Q7H Q6T Q1Q.2 QA ?_
  exact Q3m (tk:=QAj) (dr:=QCT) fzo noL Q7x fun b o hb eb=>hk b o (fun q=>hb (by rw [q];exact .Q31 _ (.Zc _))) eb
 | QB x =>
  injections x zI
  obtain ⟨hlt,hxe⟩:=QX hx
  have hge:=Hi hx
  have hlt':i < (Cw xs).ZT:=by rw [Dk];exact hlt
  have Q6U:(Cw xs).Q9M i=(i,x)::(Cw xs).Q9M (i+1):=by
   rw [YM hlt']
   rw [Qg hlt']at hge
   rw [X1 hge]
  rw [Q6U]at Q1Q
  obtain ⟨z,hz,hvz⟩:=(b2.get hx)
  refine wpAny_pyNext_enum_item he₁ hi₁ (Al b1) (by simpa using hz) hei ?_;intros h' ho' hit' hT hsz hk
  refine wpAny_letOwnedTupleGo_enum ho' ?_;intros h'' he'' hs''
  have hsE:e < ZQ:=Qz he₁
  have hsI:it < ZQ:=let ⟨_,h,_⟩:=hi₁;Qz h
  have hit'':h''.IsListIter it (Xr l) (i+1):=let ⟨o,h1,r⟩:=hit';⟨o,(hs''.2 it hei.symm).QR h1,r⟩
  have hT'':=(hs''.2 _ (Yp hsE)).QR hT
  have r₂:Rel c fz Qo Q5s Q7H {Q1m with YL:=h'',Q0P:=QAj+1,Q34:=QCT}:=by
   refine Q3m fzo noL Q7x ?_
   intros b o hb eb
   have hb1:b≠e:=fun q=>hb (by rw [q];exact .Zc _)
   have hb2:b≠it:=fun q=>hb (by rw [q];exact .Q31 _ (.Zc _))
   exact (hs''.2 b hb1).QR (hk b o hb1 hb2 eb)
  have QD3:=XL Q5s ZQ
  have r₃:Rel c fz Qo (Q9N ZQ) (σ₁.alloc (.YJ [.Qm (i:X3),x])) {Q1m with YL:=h'',Q0P:=QAj+1,Q34:=QCT}:=by
   refine r₂.label hT'' (Yp r₁.Llt) r₁.size_fz r₁.Llt ?_ ⟨[.Qm i QAj,z],0,QA,.Xu ⟨_,QA⟩ (.Xu (hvz.ext QD3) .Zl)⟩;intros l' hl' q
   obtain ⟨o,ho,_⟩:=(r₁.ob l' hl')
   exact Xc (Qz ho) (by rw [q];exact XY _)
  have hd₃:∀l',l' < (Q9N ZQ).n->(Q9N ZQ).f l'∉[e,it]:=by
   intros l' hl' hm
   by_cases hq:l'=QH8
   ·have fs:(Q9N ZQ).f l'=ZQ:=QY hq
    rw [fs]at hm
    rcases XP hm with hm | hm
    ·exact Xc hsE (by rw [<- hm];exact XY _)
    ·exact Xc hsI (by rw [<- Qe hm];exact XY _)
   ·have hl2:l' < QH8:=by have:l' < QH8+1:=hl';exact BH hq this
    rw [QD3.2 l' hl2]at hm;exact Q7x l' hl2 hm
  have r₄:=r₃.hold fzo noL hd₃
  refine QDA _ _ _ _ _ (Q1i _ r₁.nn) Q1Q.2 _ _ _ _ ((Yl Q6T).ext QD3) r₄ ?_;intros QH4 QCI u1 u2 QH5 QCR QFm u3 QFn
  refine QDB QH4 QH5 _ QFm _ _ _ _ (((Yl Q6T).ext QD3).ext QCR) QFn ?_
  intros Q4r QAi fl f Q4s Q8f hP hF r₄'
  obtain ⟨oi,hoi,hri⟩:=hit''
  obtain ⟨Q9K,QDj,QCS⟩:=r₄'.free Q9L fzo (fun b hb=>by
   rcases XP hb with QA | hb
   ·exact ⟨_,he''⟩
   ·rw [Qe hb];exact ⟨_,hoi⟩)
  have he₅:IsEnum QDk e it ((i+1:QH):X3) z:=by
   have:=QDj e (.Zc _) _ he''
   simpa using this
  have hi₅:s₄.heap.IsListIter it (Xr l) (i+1):=⟨oi,QDj it (.Q31 _ (.Zc _)) _ hoi,hri⟩
  have E4:=((Q5M QD3).QR QCR).QR Q8f
  cases fl with
  | YC=>cases hF;exact ⟨Qn+1 - (i+1),by exact Ig hlt,i+1,Q4r,Q4s,z,QA,hlt,E4,Q9K,QCS,he₅,hi₅,hP⟩
  | QAh=>cases hF;exact ⟨Qn+1 - (i+1),by exact Ig hlt,i+1,Q4r,Q4s,z,QA,hlt,E4,Q9K,QCS,he₅,hi₅,hP⟩
  | brk=>cases hF;exact q Q4r _ .YC .YC Q4s E4 hP QA Q9K
  | ret v=>obtain ⟨cv,QA,hcv⟩:=hF;exact q Q4r _ (.ret v) (.ret cv) Q4s E4 hP ⟨cv,QA,hcv⟩ Q9K
end
end
end Mini
end
section
open PySem PySem.W PySem.Calls PyProof.Rows
namespace Mini
theorem Rel.view {c:Cx} {fz:Addr->Option Obj} {L:Addr} {Λ:Lab} {σ:St} {s:Shared} (R:Rel c fz L Λ σ s) {l:Nat} {o:Ob} {co:Obj} (hl:l < σ.nx) (hco:s.heap.get? (Λ.f l)=some co) (ho:OR c.prog c.w Λ o co):Rel c fz L Λ (σ.upd l o) s :=
 R.upd (h':=s.heap) (tk:=s.toks) hl (fun _ _ _ e=>e) hco ho
section
variable {c:Cx} {A:Around} {env:Env} {fm:Fm} {Λ:Lab} {σ:St} {fz:Addr->Option Obj} {s:Shared} {E:Value->Shared->Prop}
mutual
theorem Hk {co:ZC} {cvs:QC (Yb×QI)} {a:Qq} {h:ZP} (hd:QED (knd XI c.w) co cvs):∃ep,∀h:ZP,Q03 a=QB co->h.DictAt (knd XI c.w) a cvs ep:=by
 injections c co cvs a h _
 obtain ⟨es,ep,r⟩:=hd
 exact ⟨ep,fun h ho=>⟨co,es,ho,r⟩⟩
theorem Pe {Q:QI->QZ->Prop} (hA:AOk A) (r:Rel c fz Qo Λ σ s) {l:QH} {co:ZC} {Y4:QC (Yb×QU)} (hl:l < Xh) (e:QS l=.Q01 Y4) (hco:Qc (Xr l)=QB co)
  (q:∀it s',Gb c A X0 Λ fz (Yt l (.raw co)) (Q2i fun p=>p.1.val) (fun σ=>QS l=.raw co) it s'->Q it s'):Qp (Qi XI c.w) A (Q4h (.QP (Xr l))) Q E s:=by
 injections c A X0 Λ σ fz s E Q _ _ l co Y4 _ _ _ _
 obtain ⟨o,ho,hor⟩:=(Q36 l hl)
 rw [hco]at ho;cases ho
 rw [e]at hor
 obtain ⟨cvs,hd,hk1,hk2⟩:=hor
 have hK:=QGQ hk1 hk2
 obtain ⟨ep,hAt⟩:=Hk (c:=c) (a:=Xr l) (h:=QV) hd
 have hne:Xr l≠QD:=Y5 (Qz hco)
 have W:=QCU (XC:=XI) (w:=c.w) (knd:=knd XI c.w) (A:=A) Q0Y QD (Xr l) hne cvs ep
 have r1:Rel c fz Qo Λ (Yt l (.raw co)) s:=r.view (by rw [<- Q3a];exact hl) hco QA
 refine wpAny_pyIter_dict (QDd l hl) (hAt _ hco) (q _ _ ⟨QD,[QD],fun i h=>QFp QD (Xr l) i Q6j ep,QA,?_,r1.grow (tk:=Y6) (dr:=Q1G) fun b o e=>Qa _ e,(fun b hb=>by rw [Qe hb];exact Q56),Q7y,Q5N,⟨_,X2 _ QA,QA,QA⟩⟩)
 intros Q2S fz' QEV hL'
 refine {QCA:=fun i h h' ⟨o,ho,r⟩ hk=>⟨o,hk _ (.Zc _) _ ho,r⟩,QCP:=fun i h ⟨o,ho,_⟩ b hb=>by rw [Qe hb];exact ⟨o,ho⟩,fzo:=QEV,noL:=hL',YC:=?_,Q4x:=?_,go:=?_,Q1e:=?_}
 ·intros i x Za XF s' Q' E' ext r' st J hx k
  obtain ⟨o',ho',Q5K⟩:=(QFq l (QQ hl ext.1))
  rw [st]at Q5K
  cases Q5K
  rw [ext.2 l hl]at ho'
  rw [QT]at hx
  obtain ⟨p,hp,QA⟩:=(Ym hx)
  have hlt:i < Q6j:=by rw [<- QAk];exact (QX hp).1
  refine W.item i s' Q' E' hlt ⟨J,hAt _ ho'⟩ ?_;intros v h' tk hP J' hk
  obtain ⟨kk,xx,hkx,his⟩:=hP
  have Q4v:kk=p.1:=by
   have a1:(Q5j (·.1))[i]?=QB kk:=by rw [QT,hkx];rfl
   rw [hk1,QT,hp]at a1
   exact (X1 a1).Q3w
  subst Q4v
  exact k v h' tk Q3n (En his) J'.1 hk
 ·intros Za XF s' Q' E' ext r' st J k
  obtain ⟨o',ho',Q5K⟩:=(QFq l (QQ hl ext.1))
  rw [st]at Q5K
  cases Q5K
  rw [ext.2 l hl]at ho'
  rw [QK,QAk]at J
  exact QCQ s' Q' E' ⟨J,hAt _ ho'⟩ fun h' tk hk=>k h' tk Q3n hk
 ·intros i Q1q v s' Q' E' Q2T hq
  obtain ⟨o,ho,hc,hd⟩:=Q2T
  exact Cv ho hc hd (by decide) hq
 ·intros i s' Q' E' J hq
  exact Q7z J hq
theorem NE {Q:QI->QZ->Prop} (hA:AOk A) (r:Rel c fz Qo Λ σ s) {l:QH} {co:ZC} {Y4:QC (Yb×QU)} {k:QH} (hk0:k < Xh) (e0:QS k=.QBv l) (hl:l < Xh) (e:QS l=.Q01 Y4) (hco:Qc (Xr l)=QB co)
  (q:∀it s',Gb c A X0 Λ fz (Yt l (.raw co)) (Q2i fun p=>p.1.val) (fun σ=>QS l=.raw co) it s'->Q it s'):Qp (Qi XI c.w) A (Q4h (.QP (Xr k))) Q E s:=by
 injections c A X0 Λ σ fz s E Q _ _ l co Y4 k _ _ _ _ _ _
 obtain ⟨o,ho,hor⟩:=(Q36 l hl)
 rw [hco]at ho;cases ho
 rw [e]at hor
 obtain ⟨cvs,hd,hk1,hk2⟩:=hor
 have hK:=QGQ hk1 hk2
 obtain ⟨ep,hAt⟩:=Hk (c:=c) (a:=Xr l) (h:=QV) hd
 have hne:Xr l≠QD:=Y5 (Qz hco)
 have W:=QCU (XC:=XI) (w:=c.w) (knd:=knd XI c.w) (A:=A) Q0Y QD (Xr l) hne cvs ep
 have r1:Rel c fz Qo Λ (Yt l (.raw co)) s:=r.view (by rw [<- Q3a];exact hl) hco QA
 have hview:KdlKeysView QV (Xr k) (Xr l):=by
  obtain ⟨ok,hok,hork⟩:=(Q36 k hk0)
  rw [e0]at hork
  exact ⟨ok,hok,by rw [hork.2],by rw [hork.2]⟩
 refine kdl_pyIter_keys hview (hAt _ hco) (q _ _ ⟨QD,[QD],fun i h=>QFp QD (Xr l) i Q6j ep,QA,?_,r1.grow (tk:=Y6) (dr:=Q1G) fun b o e=>Qa _ e,(fun b hb=>by rw [Qe hb];exact Q56),Q7y,Q5N,⟨_,X2 _ QA,QA,QA⟩⟩)
 intros Q2S fz' QEV hL'
 refine {QCA:=fun i h h' ⟨o,ho,r⟩ hk=>⟨o,hk _ (.Zc _) _ ho,r⟩,QCP:=fun i h ⟨o,ho,_⟩ b hb=>by rw [Qe hb];exact ⟨o,ho⟩,fzo:=QEV,noL:=hL',YC:=?_,Q4x:=?_,go:=?_,Q1e:=?_}
 ·intros i x Za XF s' Q' E' ext r' st J hx k
  obtain ⟨o',ho',Q5K⟩:=(QFq l (QQ hl ext.1))
  rw [st]at Q5K
  cases Q5K
  rw [ext.2 l hl]at ho'
  rw [QT]at hx
  obtain ⟨p,hp,QA⟩:=(Ym hx)
  have hlt:i < Q6j:=by rw [<- QAk];exact (QX hp).1
  refine W.item i s' Q' E' hlt ⟨J,hAt _ ho'⟩ ?_;intros v h' tk hP J' hk
  obtain ⟨kk,xx,hkx,his⟩:=hP
  have Q4v:kk=p.1:=by
   have a1:(Q5j (·.1))[i]?=QB kk:=by rw [QT,hkx];rfl
   rw [hk1,QT,hp]at a1
   exact (X1 a1).Q3w
  subst Q4v
  exact k v h' tk Q3n (En his) J'.1 hk
 ·intros Za XF s' Q' E' ext r' st J k
  obtain ⟨o',ho',Q5K⟩:=(QFq l (QQ hl ext.1))
  rw [st]at Q5K
  cases Q5K
  rw [ext.2 l hl]at ho'
  rw [QK,QAk]at J
  exact QCQ s' Q' E' ⟨J,hAt _ ho'⟩ fun h' tk hk=>k h' tk Q3n hk
 ·intros i Q1q v s' Q' E' Q6g hq
  obtain ⟨o,ho,hc,hd⟩:=Q6g
  exact Cv ho hc hd (by decide) hq
 ·intros i s' Q' E' J hq
  exact Q7z J hq
end
end
noncomputable def C0 (o i v:Val):PT Unit:=fun σ P=>Ai o fun l=>As (σ.hp l) fun kvs=>Ad (Bn i) fun k=>kvs.length<=sizeLine/\P () (σ.upd l (.dict (Ce kvs k v)))
noncomputable def C1 (o i:Val):PT Unit:=fun σ P=>Ai o fun l=>As (σ.hp l) fun kvs=>Ad (Bn i) fun k=>kvs.length<=sizeLine/\(Ak kvs k).isSome=true/\P () (σ.upd l (.dict (EL kvs k)))
section
variable {c:Cx} {A:Around} {env:Env} {fm:Fm} {Λ:Lab} {σ:St}
mutual
theorem Iq {o i v:QU} {a b d:QI} {P:YV->St->Prop} (ho:VR Λ o a) (hi:VR Λ i b) (hv:VR Λ v d) (h:C0 o i v σ P):Zq c A X0 fm Λ (setItem a b d) UR σ P:=by
 refine Q1W h fun l ev h=>?_;subst ev
 refine Q8o h fun Y4 e h=>Q2r h fun k ek h=>?_
 ···refine Zn fun fz s ok r Q E q=>?_
    refine an3 (Q6S ho e) fun yq2K g1 yq2L=>?_;obtain QA:=yq2K;refine ew1 yq2L fun cvs yq2M=>?_;refine an2 yq2M fun hD hk=>?_;clear yq2L yq2M
    refine wpAny_setItem_pairs (knd:=knd XI c.w) (B0 ek hi) hD (fun h' hD' hs=>?_) (by rw [<- QDe];exact h.1)
    refine ew1 (QAd (c:=c) hD' (hk.set _ hv)) fun co yq2N=>?_;refine an2 yq2N fun hco hor=>?_;clear yq2N
    exact q Λ _ _ _ _ (.Q1H _) h.2 ZN (QDS (tk:=Y6+1) g1 (fun b' o' hb e'=>(hs.2 b' hb).QR e') hco hor)
theorem Iz {o i:QU} {a b:QI} {P:YV->St->Prop} (ho:VR Λ o a) (hi:VR Λ i b) (h:C1 o i σ P):Zq c A X0 fm Λ (QGx a b) UR σ P:=by
 refine Q1W h fun l ev h=>?_;subst ev
 refine Q8o h fun Y4 e h=>Q2r h fun k ek h=>?_
 ···refine Zn fun fz s ok r Q E q=>?_
    refine an3 (Q6S ho e) fun yq2O g1 yq2P=>?_;obtain QA:=yq2O;refine ew1 yq2P fun cvs yq2Q=>?_;refine an2 yq2Q fun hD hk=>?_;clear yq2P yq2Q
    have hg:=QGS k
    refine Gy (knd:=knd XI c.w) (B0 ek hi) hD ?_ (by rw [<- QDe];exact h.1) (fun h' hD' hs=>?_)
    ·cases hq:Q4O cvs k with
     | QB _=>rfl
     | QG=>rw [hq]at hg;cases hq':Ak _ k with
      | QG=>rw [hq']at h;exact Xc h.2.1 (by simp)
      | QB _=>rw [hq']at hg;exact QH0
    ·refine ew1 (QAd (c:=c) hD' (hk.del k)) fun co yq2R=>?_;refine an2 yq2R fun hco hor=>?_;clear yq2R
     exact q Λ _ _ _ _ (.Q1H _) h.2.2 ZN (QDS (tk:=Y6+1) g1 (fun b' o' hb e'=>(hs.2 b' hb).QR e') hco hor)
end
end
end Mini
end
section
open PySem PySem.W PySem.Calls PyProof.Rows
set_option maxRecDepth 8000
set_option maxHeartbeats 1000000
namespace Mini
section
variable {prog:Program} {w:World} {A:Around} {E:Value->Shared->Prop} {s:Shared}
mutual
theorem SetAt.typeIs {a:Qq} {es:XM (X3×QI)} {ep:QH} {t:Y0} (S:Q5o w QV a es ep t):Q5L (.QP a) "set":=let ⟨o,ho,hx,_⟩:=S.at';⟨o,ho,hx.1⟩
theorem SetAt.keep {a:Qq} {es:XM (X3×QI)} {ep:QH} {t:Y0} {h h':ZP} (S:Q5o w h a es ep t) (hk:∀o,Q03 a=QB o->Z7 a=QB o):Q5o w h' a es ep t:=⟨let ⟨o,ho,r⟩:=S.at';⟨o,hk _ ho,r⟩,S.fits,S.good⟩
theorem A2 {a:Qq} {es:XM (X3×QI)} {ep:QH} {t:Y0} {Q:XM (X3×QI)->QZ->Prop} (S:Q5o w QV a es ep t) (h:Q es s):Qp (Qi XC w) A (setEntries a) Q E s:=by
 exact Q9 (Au S (QF h))
theorem Ca {a:Qq} {es:XM (X3×QI)} {ep:QH} {t:Y0} {Q:QH->QZ->Prop} (S:Q5o w QV a es ep t) (h:Q ep s):Qp (Qi XC w) A (setEpoch a) Q E s:=by
 exact Q9 (Au S (QF h))
theorem JB {a:Qq} {es:XM (X3×QI)} {ep:QH} {t:Y0} {Q:QI->QZ->Prop} (hsz:Z6<=Xa) (S:Q5o w QV a es ep t)
  (hQ:∀(y:Way) I h' dr,(∀b o,Qc b=QB o->Z7 b=QB o)->Hp w a es ep t I y 0 h'->(∀b∈y.own I,QD<=b)->Q (.QP I) {s with YL:=h',Q34:=dr}) :
  Qp (Qi XC w) A (Q4h (.QP a)) Q E s:=by
 injections XC w A E s a es ep t Q _ _ _
 refine Q5u S.typeIs Q7Q (Y2 Q7Q S.typeIs F0 ?_ (PySem.F.args_set_iter_1 _))
 unfold Builtin.«frozenset.__iter__» Builtin.Frozenset.slot0 Q3B
 refine Q9 (Q9 (QF (QF ?_)))
 refine Q9 (Q9 (A2 S (QF ?_)))
 refine Q9 (Q9 (Au S ?_))
 refine Q9 (AW (QF ?_))
 show Qp _ _ (if (!Aq w&&(!Q8Q&&XV (Z6 > 1)))=QM then _ else _) _ _ _
 cases hd:(!Aq w&&(!Q8Q&&XV (Z6 > 1))) with
 | QJ =>
  rw [QN Qj]
  refine Q9 (QF ?_)
  refine Q9 (Ca S ?_)
  refine Q9 (Xk (QF ⟨_,QA,"set_iterator",_,⟨_,X2 _ QA,QA⟩,QDn,?_⟩))
  have hk:∀(o:ZC) b o',Qc b=QB o'->(XK o).QBP b=QB o':=fun o b o' e=>Qa _ e
  have e:∀x:QZ,x={x with Q34:=x.drawn}:=fun x=>QA
  cases hb:Aq w with
  | QM =>
   exact hQ (.QD4 (Q55 (Q1I a ep) es)) _ _ Q1G (hk _) ⟨⟨_,X2 _ QA,QA,QA⟩,hb,QA⟩ (fun b hb=>by rw [Qe hb];exact Qh _)
  | QJ =>
   refine hQ .Q4U _ _ Q1G (hk _) ⟨⟨_,X2 _ QA,QA,QA⟩,hb,?_⟩ (fun b hb=>by rw [Qe hb];exact Qh _)
   rw [hb]at hd
   cases hp:Q8Q with
   | QM=>exact .inl QA
   | QJ=>rw [hp]at hd;simp at hd;exact .inr hd
 | QM =>
  rw [QY QA]
  refine Q9 (ET _ _ s _ (by simp) ?_);intros ps dr hp
  simp only [Q9z]
  have hl:Zg=Z6:=by rw [QEK,Y8]
  refine Q9 (Xk ?_ (show sizeOk (.seq (Q6u (Q5O (fun (i:QH)=>Zm (i:X3)) ps)) 0) from (show (Q6u (Q5O (fun (i:QH)=>Zm (i:X3)) ps)).size<=Xa by simp [hl,hsz])))
  have S1:Q5o w (XK {cls:=.Qk "tuple",YA:=.seq (Q5O (fun (i:QH)=>Zm (i:X3)) ps).Xe}) a es ep t:=S.keep fun o e=>Qa _ e
  refine Q9 (Ca S1 ?_)
  refine Q9 (Xk (QF ⟨_,QA,"set_iterator",_,⟨_,X2 _ QA,QA⟩,QDn,?_⟩))
  simp only [X7,Z9,Xl]at hd
  refine hQ (.Q34 QD ps) _ _ dr (fun b o e=>Qa _ (Qa _ e)) ⟨⟨_,X2 _ QA,QA,QA⟩,⟨hd.1,hp⟩,_,0,Qa _ (X2 _ QA),QA⟩ (fun b hb=>?_)
  rcases XP hb with QA | hb
  ·rw [Q0u];exact Q1B _
  ·rw [Qe hb];exact Qh _
theorem Lp {a:Qq} {es:XM (X3×QI)} {ep:QH} {t:Y0} {I:Qq} {y:Way} {i:QH} {Q:QI->QZ->Prop} (hit:Hp w a es ep t I y i QV) (h:Q (.QP I) s):Qp (Qi XC w) A (Q4h (.QP I)) Q E s:=by
 obtain (⟨⟨o,ho,hc,hd⟩,_⟩):=hit
 have hT:Q5L (.QP I) "set_iterator":=⟨o,ho,hc⟩
 refine Q5u hT DO (Y2 DO hT Gv ?_ (H1 _))
 exact QF ⟨_,QA,"set_iterator",_,hT,QDn,h⟩
theorem OT {a:Qq} {es:XM (X3×QI)} {ep:QH} {t:Y0} {I:Qq} {y:Way} {i:QH} {x:QI} {Q:QW QI->QZ->Prop} (hI:I∉(y.own I).Q31) (S:Q5o w QV a es ep t) (hit:Hp w a es ep t I y i QV)
  (hx:(y.items es)[i]?=QB x) (hQ:∀h',Hp w a es ep t I y (i+1) h'->Z8 I QV h'->Q (QB x) {s with YL:=h'}):Qp (Qi XC w) A (Q3P (.QP I)) Q E s:=by
 injections XC w A E s a es ep t I y i x Q _ _ _ _ _
 obtain ⟨⟨o,ho,hc,hd⟩,hok⟩:=id hit
 have hT:Q5L (.QP I) "set_iterator":=⟨o,ho,hc⟩
 refine Q9 (Q3C (YH (Q1u:=Qb "__next__") hT AM (Y2 AM hT DA ?_ (D8 _))))
 refine Q9 (QF ?_)
 refine Q9 (Q80 ho hd ?_)
 refine Q9 (A2 S ?_)
 rw [QN (by simp)]
 refine Q9 (QF ?_)
 cases y with
 | QD4 ys =>
  injections ys zI
  obtain ⟨hb,QA⟩:=hok
  dsimp only [Q2m]
  refine Q9 (Hd S hb ?_)
  have e:(Q55 (Q1I a ep) es)[(i:X3).Q1X]?.map (fun e=>(e.2,0))=QB (x,0):=by
   simp only [Q8P,QT,Q40]at hx
   obtain ⟨p,hp,QA⟩:=(Ym hx)
   rw [ZA,hp];rfl
  rw [ZA ep,e]
  refine Q9 (Yw ho hd (by simp) ?_)
  have ho2:=XO (Q1R (·.Q1S 0 (Zm ((0:QH):X3)))) ho (Ya (XJ hd _))
  refine Q9 (Yw ho2 (XJ hd _) (by simp) ?_)
  have sb:=(XU QV I (Q1R (·.Q1S 0 (Zm ((0:QH):X3))))).QR (XU _ I (Q1R (·.Q1S 1 (Zm ((i:X3)+1)))))
  refine QF ⟨_,QA,QF (hQ _ ⟨⟨_,XO _ ho2 (Ya (XJ (XJ hd _) _)),?_,?_⟩,hb,QA⟩ sb)⟩
  ·rw [Q0U,Q0U];exact hc
  ·rw [XJ (XJ hd _)];simp [Zm,Q2m]
 | Q4U =>
  obtain ⟨hb,hpl⟩:=hok
  dsimp only [Q2m]
  have hlt:i < Z6:=by
   have:=(QX hx).1
   simpa [Q8P] using this
  refine Q9 (FJ (i:=i) S hb hpl (XD hlt) ?_)
  have e:es[i]?.map (fun e=>(e.2,Yq t (i+1)))=QB (x,Yq t (i+1)):=by
   simp only [Q8P,QT,Q40]at hx
   obtain ⟨p,hp,QA⟩:=(Ym hx)
   rw [hp];rfl
  rw [e]
  refine Q9 (Yw ho hd (by simp) ?_)
  have ho2:=XO (Q1R (·.Q1S 0 (Zm ((Yq t (i+1):QH):X3)))) ho (Ya (XJ hd _))
  refine Q9 (Yw ho2 (XJ hd _) (by simp) ?_)
  have sb:=(XU QV I (Q1R (·.Q1S 0 (Zm ((Yq t (i+1):QH):X3))))).QR (XU _ I (Q1R (·.Q1S 1 (Zm ((i:X3)+1)))))
  refine QF ⟨_,QA,QF (hQ _ ⟨⟨_,XO _ ho2 (Ya (XJ (XJ hd _) _)),?_,?_⟩,hb,hpl⟩ sb)⟩
  ·rw [Q0U,Q0U];exact hc
  ·rw [XJ (XJ hd _)];simp [Zm,Q2m]
 | Q34 tup ps =>
  injections tup ps zI
  obtain ⟨⟨hb,hpm⟩,ot,nt,hot,hdt⟩:=hok
  dsimp only [Q2m]
  refine Q9 (Yv hot hdt ?_)
  dsimp only
  simp only [Q8P,QT]at hx
  obtain ⟨p,hp,QA⟩:=(Ym hx)
  have e:(Q13 fun (p:QH)=>Q54 (p:X3) 0).Xe[(i:X3).Q1X]?=QB (.Qm (p:X3) 0):=by
   rw [ZA];simp [hp]
  rw [e]
  dsimp only
  have hpl:p < Z6:=by
   have:p∈X5 Z6:=hpm.mem_iff.mp (XE hp)
   simpa using this
  refine Q9 (JJ (p:=p) (x:=(Q39 (·.2)).Q4f p .QG) S (by simp [hpl]) ?_)
  refine Q9 (Yw ho hd (by simp) ?_)
  have hne:tup≠I:=fun q=>hI (by rw [q];exact .Zc _)
  have sb:=XU QV I (Q1R (·.Q1S 1 (Zm ((i:X3)+1))))
  refine QF ⟨_,QA,QF (hQ _ ⟨⟨_,XO _ ho (Ya (XJ hd _)),?_,?_⟩,⟨hb,hpm⟩,ot,nt,?_,hdt⟩ sb)⟩
  ·rw [Q0U];exact hc
  ·rw [XJ hd];simp [Zm,Q2m]
  ·exact (sb.2 _ hne).QR hot
theorem TH {a:Qq} {es:XM (X3×QI)} {ep:QH} {t:Y0} {I:Qq} {y:Way} {Q:QW QI->QZ->Prop} (hh:Q4G=QG) (S:Q5o w QV a es ep t) (hit:Hp w a es ep t I y Z6 QV)
  (hQ:∀h',Q0k I QV h'->Q QG {s with YL:=h'}):Qp (Qi XC w) A (Q3P (.QP I)) Q E s:=by
 injections XC w A E s a es ep t I y Q _ _ _ _
 have stop:∀ {s':QZ},Q0k I QV Q4S->(∀h',Q0k I QV h'->Q QG {s' with YL:=h'})->Qp (Qi XC w) Q8u (do QA0 (<- QCL (.Qk "StopIteration") []):Sem Q2n) (fun _ _=>Yk) (fun e s1=>Qp (Qi XC w) A (Zw e (.Qk "StopIteration")) (fun b s2=>b=QM/\Q QG s2) E s1) s':=by
  intros s' hx hq
  refine Q9 ?_
  simp only [QCL,Q9z]
  refine Q9 (Xk ?_ (by size_fits))
  refine Q9 (m:=Q2X _ _) (Zi (a:=Zv) (by first | rfl | (simp only [Q2X];rfl)) ?_)
  refine Xk ?_ (by size_fits)
  simp only [QA0]
  refine Q9 (Q8v ?_)
  rw [show Q8w=QG from hh]
  refine Q9 (QF (QBJ ?_))
  refine Q2o (T:="StopIteration") (b:=QM) ⟨_,X2 _ QA,QA⟩ Q7v ?_
  exact ⟨QA,hq _ ((hx.push _).Q65 _)⟩
 have stop':∀ {s':QZ} {Z:Q2n->QZ->Prop} {Z':QI->QZ->Prop},Q0k I QV Q4S->(∀h',Q0k I QV h'->Q QG {s' with YL:=h'})->(∀e s1,Qp (Qi XC w) A (Zw e (.Qk "StopIteration")) (fun b s2=>b=QM/\Q QG s2) E s1->Z' e s1)->Qp (Qi XC w) Q8u (do QA0 (<- QCL (.Qk "StopIteration") []):Sem Q2n) Z Z' s' :=
  fun hx hq hz=>YX (stop hx hq) (fun _ _ h=>Qy) fun e s1 h=>hz e s1 h
 obtain ⟨⟨o,ho,hc,hd⟩,hok⟩:=id hit
 have hT:Q5L (.QP I) "set_iterator":=⟨o,ho,hc⟩
 refine Q9 (Q3C (YH (Q1u:=Qb "__next__") hT AM (Y2 AM hT DA ?_ (D8 _))))
 have Q31:∀e s1,Qp (Qi XC w) A (Zw e (.Qk "StopIteration")) (fun b s2=>b=QM/\Q QG s2) E s1->Qp (Qi XC w) A (do if <- Zw e (.Qk "StopIteration") then ZU QG else throw e:Sem (QW QI)) Q E s1:=fun e s1 h =>
  Q9 (YX h (fun b s2 ⟨hb,hq⟩=>by subst hb;exact QF hq) fun _ _ h=>h)
 refine Q9 (QF ?_)
 refine Q9 (Q80 ho hd ?_)
 refine Q9 (A2 S ?_)
 rw [QN (by simp)]
 refine Q9 (QF ?_)
 cases y with
 | QD4 ys =>
  injections ys zI
  obtain ⟨hb,QA⟩:=hok
  dsimp only [Q2m]
  refine Q9 (Hd S hb ?_)
  have e:(Q55 (Q1I a ep) es)[(Z6:X3).Q1X]?.map (fun e=>(e.2,0))=QG:=by
   rw [ZA,Q1z (by have:=(CY (Q1I a ep) es).length_eq;simp at this;exact Mb this)];rfl
  rw [ZA ep,e]
  refine Q9 (Yw ho hd (by simp) ?_)
  exact stop' (XU ..).QCO hQ Q31
 | Q4U =>
  obtain ⟨hb,hpl⟩:=hok
  dsimp only [Q2m]
  refine Q9 (FJ (i:=Z6) S hb hpl (Qh _) ?_)
  rw [Q1z (Qh _)]
  dsimp only [Q97]
  refine Q9 (Yw ho hd (by simp) ?_)
  exact stop' (XU ..).QCO hQ Q31
 | Q34 tup ps =>
  injections tup ps zI
  obtain ⟨⟨hb,hpm⟩,ot,nt,hot,hdt⟩:=hok
  dsimp only [Q2m]
  refine Q9 (Yv hot hdt ?_)
  dsimp only
  have e:(Q13 fun (p:QH)=>Q54 (p:X3) 0).Xe[(Z6:X3).Q1X]?=QG:=by
   rw [ZA];exact Q1z (by have:=hpm.length_eq;simp at this ⊢;exact Mb this)
  rw [e]
  dsimp only
  refine Q9 (Yw ho hd (by simp) ?_)
  have ho2:=XO (Q1R (·.Q1S 0 (Zm 0))) ho (Ya (XJ hd _))
  refine Q9 (Yw ho2 (XJ hd _) (by simp) ?_)
  exact stop' ((XU ..).QR (XU ..)).QCO hQ Q31
end
end
end Mini
end
section
open PySem PySem.W PySem.Calls PyProof.Rows
namespace Mini
mutual
theorem EE:∀ {xs l:QC Yb},Q9h->(∀x∈xs,x∈l)->ZF<=Qn->l.Perm xs
 | [],l,_,_,h=>by rw [Zu (Q7q h)]
 | x::r,l,hn,hs,h=>by
  have hx:=hs x (.Zc _)
  rw [QBS]at hn
  refine (List.perm_cons_erase hx).QR (Q5G x (EE hn.2 (fun y hy=>?_) ?_))
  ·exact (List.mem_erase_of_ne fun q=>hn.1 (by rw [<- q];exact hy)).mpr (hs y (.Q31 _ hy))
  ·rw [List.length_erase_of_mem hx];simp only [XZ]at h;exact adq h
def kf:QI->Yb
 | .Qm n _=>.i n
 | .Xs x _=>.s x
 | _=>.i 0
theorem Tc {k:Yb} {v:QI} (h:EM k v=QM):kf v=k:=by
 cases k
 ·obtain (⟨t,QA⟩):=Q1C h;rfl
 ·obtain (⟨t,QA⟩):=Q2u h;rfl
end
section
variable {c:Cx} {A:Around} {env:Env} {fm:Fm} {Λ:Lab} {σ:St} {fz:Addr->Option Obj} {s:Shared} {E:Value->Shared->Prop}
theorem T6 {Q:Value->Shared->Prop} (hA:AOk A) (r:Rel c fz env.locals Λ σ s) {l:Nat} {co:Obj} {xs:List Key} (hl:l < Λ.n) (e:σ.hp l=.set xs) (hco:s.heap.get? (Λ.f l)=some co)
  (q:∀it s' (ys:List Key),ys.Perm xs->Gb c A env Λ fz (σ.upd l (.raw co)) (ys.map Key.val) (fun σ=>σ.hp l=.raw co) it s'->Q it s'):wpAny (model c.prog c.w) A (pyIter (.ref (Λ.f l))) Q E s:=by
 injections c A env Λ σ fz s E Q _ _ l co xs _ _ _ _
 obtain ⟨o,ho,hor⟩:=(r.ob l hl)
 rw [hco]at ho;cases ho
 rw [e]at hor
 obtain ⟨hn,es,ep,t,hx1,hx2,hel,hmem,hb,hf,hsz,hg⟩:=hor
 have S:SetAt c.w s.heap (Λ.f l) es ep t:=⟨⟨co,hco,hx1,hx2⟩,hf,hg⟩
 have r1:Rel c fz env.locals Λ (σ.upd l (.raw co)) s:=r.view (by rw [<- r.nn];exact hl) hco rfl
 refine JB (fits_of_scanBound hb) S ?_;intros y I h' dr hk hit hown
 have hperm:=y.items_perm hit.2
 have hkeys:(((y.items es).map kf).Perm xs):=by
  refine (hperm.map kf).trans (EE hn ?_ (by simp [hsz]));intros k hk
  obtain ⟨e,he,hke⟩:=((hmem k).mp hk)
  rw [<- Tc hke]
  exact List.mem_map.mpr ⟨e.2,List.mem_map.mpr ⟨e,he,rfl⟩,rfl⟩
 have hfz:∀b∈y.own I,fz b=none:=by
  intros b hb
  cases q:fz b with
  | none=>rfl
  | some o=>exact absurd (Heap.lt_size (r.keep _ _ q)) (Nat.not_lt.mpr (hown b hb))
 have hL:env.locals∉y.own I:=fun hb=>absurd r.Llt (Nat.not_lt.mpr (hown _ hb))
 have hlab:∀l,l < Λ.n->Λ.f l∉y.own I:=by
  intros l hl hb
  obtain ⟨o,ho,_⟩:=(r.ob l hl)
  exact absurd (Heap.lt_size ho) (Nat.not_lt.mpr (hown _ hb))
 have hIm:I∈y.own I:=by cases y <;> exact .head _
 have hIt:I∉(y.own I).tail:=by
  cases y with
  | text ys=>simp [Way.own]
  | plain=>simp [Way.own]
  | drawn tup ps =>
   intros q
   have q:I=tup:=by simpa [Way.own] using q
   obtain ⟨⟨o1,h1,_,h3⟩,_,o2,n2,h4,h5⟩:=hit
   rw [q,h4]at h1;cases h1;rw [h5]at h3;cases h3
 refine q _ _ ((y.items es).map kf) hkeys ⟨I,y.own I,Hp c.w (Λ.f l) es ep t I y,rfl,?_,r1.grow (tk:=s.toks) (dr:=dr) hk,hfz,hL,hlab,hit⟩
 intros env' fz' hfz' hL'
 have hke:∀x∈y.items es,EM (kf x) x=true:=by
  intros x hx
  have:x∈es.toList.map (·.2):=hperm.mem_iff.mp hx
  obtain ⟨e,he,rfl⟩:=(List.mem_map.mp this)
  obtain ⟨⟨k,hk,_⟩,_⟩:=(hel e he)
  have hk':EM k e.2=true:=hk
  rw [Tc hk'];exact hk'
 refine {frame:=fun i h h' J hk=>?_,there:=fun i h J b hb=>?_,fzo:=hfz',noL:=hL',next:=?_,done:=?_,go:=?_,self:=?_}
 ·obtain ⟨⟨o,ho,r1⟩,hok⟩:=J
  refine ⟨⟨o,hk _ hIm _ ho,r1⟩,?_⟩
  cases y with
  | text ys=>exact hok
  | plain=>exact hok
  | drawn tup ps=>obtain ⟨h1,o,n,h2,h3⟩:=hok;exact ⟨h1,o,n,hk _ (.tail _ (.head _)) _ h2,h3⟩
 ·obtain ⟨⟨o,ho,r1⟩,hok⟩:=J
  cases y with
  | text ys=>rw [List.mem_singleton.mp hb];exact ⟨o,ho⟩
  | plain=>rw [List.mem_singleton.mp hb];exact ⟨o,ho⟩
  | drawn tup ps =>
   rcases List.mem_cons.mp hb with rfl | hb
   ·exact ⟨o,ho⟩
   ·obtain ⟨h1,o,n,h2,h3⟩:=hok;rw [List.mem_singleton.mp hb];exact ⟨o,h2⟩
 ·intros i x Λ' σ' s' Q' E' ext r' st J hx k
  obtain ⟨o',ho',hor'⟩:=(r'.ob l (Nat.lt_of_lt_of_le hl ext.1))
  rw [st]at hor'
  cases hor'
  rw [ext.2 l hl]at ho'
  rw [List.getElem?_map]at hx
  obtain ⟨kx,hkx,rfl⟩:=(Option.map_eq_some_iff.mp hx)
  rw [List.getElem?_map]at hkx
  obtain ⟨v,hv,rfl⟩:=(Option.map_eq_some_iff.mp hkx)
  refine OT hIt ⟨⟨_,ho',hx1,hx2⟩,hf,hg⟩ J hv ?_;intros h' J' hs
  exact k v h' s'.toks s'.drawn (En (hke v (List.mem_of_getElem? hv))) J' fun b o hb e=>(hs.2 b fun q=>hb (by rw [q];exact hIm)).trans e
 ·intros Λ' σ' s' Q' E' ext r' st J k
  obtain ⟨o',ho',hor'⟩:=(r'.ob l (Nat.lt_of_lt_of_le hl ext.1))
  rw [st]at hor'
  cases hor'
  rw [ext.2 l hl]at ho'
  rw [List.length_map,List.length_map,hperm.length_eq,List.length_map,Array.length_toList]at J
  exact TH hA.handled ⟨⟨_,ho',hx1,hx2⟩,hf,hg⟩ J fun h' he=>k h' s'.toks s'.drawn fun b o hb e=>he b o (fun q=>hb (by rw [q];exact hIm)) e
 ·intros i target v s' Q' E' xq01 hq
  obtain ⟨⟨o,ho,hc,hd⟩,_⟩:=xq01
  exact Cv ho hc hd (by decide) hq
 ·intros i s' Q' E' J hq
  exact Lp J hq
end
end Mini
end
section
open PySem PySem.W PySem.Calls PyProof.Rows
set_option genInjectivity false
set_option genSizeOf false
namespace Mini
mutual
structure Pg where
 K:Q1A
 gl:X6->QW QI
instance:Q25 Pg:=⟨⟨Zs,fun _=>QG⟩⟩
abbrev Av:=QU->QC QU->PT QU
def JH (k:Const):PT QU:=fun σ P=>match k with
 | .QG=>P .QG σ
 | .Yn b=>P (.Yn b) σ
 | .Qm i=>P (.Qm i) σ
 | .Xs x=>P (.Xs x) σ
 | _=>Yk
def Ng {α β:Type} {γ:Type} (a:QC α) (b:QC β) (x y:γ):γ:=match a,b with | [],[]=>x | _,_=>y
def afn {α β:Type} {γ:Type} (a:QC α) (b:QC β) (f:α->β->γ) (d:γ):γ:=match a,b with | [x],[y]=>f x y | _,_=>d
def Hc {α γ:Type} (a:QC α) (x y:γ):γ:=match a with | []=>x | _=>y
def QAl {α γ:Type} (a:QC α) (f:α->QC α->γ) (d:γ):γ:=match a with | []=>d | x::r=>f x r
def BY (e:Qf):Qu:=QH9 e (fun g as ks _=>B9 g (fun _ _=>Ng as ks QJ QM) QM) QM
def Dl (e:Qf):QW Qf:=QH9 e (fun g as ks _=>B9 g (fun f _=>QAl as (fun x r=>Ng r ks (if f="enumerate" then QB x else QG) QG) QG) QG) QG
theorem Mo {α:Type} {e:Qf} {f:Qf->QC Qf->QC QEW->Pos->α} {d:α}:ZD≠16->QH9 e f d=d:=by
 apply @Q1K (fun e=>ZD≠16->QH9 e f d=d) e
 case QAm=>exact fun _ _ _ _ n=>Xc QA n
 all_goals ((repeat intro a);exact QA)
theorem Mn {α:Type} (e:Qf) (f:Qf->QC Qf->QC QEW->Pos->α) (d:α):(∃g as ks p,e=.QAm g as ks p)\/QH9 e f d=d :=
 if q:ZD=16 then .inl (Expr.Call.elim (Q4Y:=fun e=>∃g as ks p,e=.QAm g as ks p) e q fun a b c p=>⟨a,b,c,p,QA⟩) else .inr (Mo q)
theorem Ml {α:Type} {e:Qf} {f:X6->Pos->α} {d:α}:ZD≠23->B9 e f d=d:=by
 apply @Q1K (fun e=>ZD≠23->B9 e f d=d) e
 case Q0v=>exact fun _ _ n=>Xc QA n
 all_goals ((repeat intro a);exact QA)
theorem Mj {α:Type} (e:Qf) (f:X6->Pos->α) (d:α):(∃x p,e=.Q0v x p)\/B9 e f d=d :=
 if q:ZD=23 then .inl (QCV (Q4Y:=fun e=>∃x p,e=.Q0v x p) e q fun a b=>⟨a,b,QA⟩) else .inr (Ml q)
theorem JV {e x:Qf} (h:Dl e=QB x):∃p q,e=.QAm (.Q0v "enumerate" p) [x] [] q:=by
 rcases Mn e (fun g as ks _=>B9 g (fun f _=>QAl as (fun x r=>Ng r ks (if f="enumerate" then QB x else QG) QG) QG) QG) QG with ⟨g,as,ks,q,QA⟩ | k
 ·rcases Mj g (fun f _=>QAl as (fun x r=>Ng r ks (if f="enumerate" then QB x else QG) QG) QG) QG with ⟨f,p,QA⟩ | k
  ·rcases as with _ | ⟨a,_ | ⟨b,as⟩⟩
   ·exact (nomatch (show QG=QB x from h))
   ·rcases ks with _ | ⟨k,kw⟩
    ·by_cases hf:f="enumerate"
     ·have:QB a=QB x:=(QY hf).QCW h
      cases this;subst hf;exact ⟨p,q,QA⟩
     ·exact (nomatch (QN hf).QCW h)
    ·exact (nomatch (show QG=QB x from h))
   ·exact (nomatch (show QG=QB x from h))
  ·exact (nomatch QEX (show B9 g _ QG=QB x from h))
 ·exact (nomatch QEX h)
def BL (t:Qf->PT Qu) (op:QEY):QC Qf->PT Qu
 | [],σ,P=>P (op == .And) σ
 | x::r,σ,P=>t x σ fun b σ=>match op,b with
   | .And,QJ=>P QJ σ
   | .Or,QM=>P QM σ
   | _,_=>BL t op r σ P
def EY (t:Qf->PT QU):QW Qf->PT QU
 | QG,σ,P=>P .QG σ
 | QB e,σ,P=>t e σ P
def EH (a:Qf->QU->PT YV):QC Qf->QC QU->PT YV
 | [],_,σ,P=>P () σ
 | t::ts,v::vs,σ,P=>a t v σ fun _ σ=>EH a ts vs σ P
 | _::_,[],σ,P=>P () σ
def A7 (a:Qf->QU->PT YV) (v:QU):QC Qf->PT YV
 | [],σ,P=>P () σ
 | t::ts,σ,P=>a t v σ fun _ σ=>A7 a v ts σ P
def AH (fm:Fm):QC X6->QC QU->PT YV
 | x::xs,v::vs,σ,P=>Br fm x v σ fun _ σ=>AH fm xs vs σ P
 | _,_,σ,P=>P () σ
def xTL {α:Type} (e:Qf) (f:QC Qf->α) (d:α):α:=by apply @Q1K (fun _=>α) e;(case Zp=>exact fun ts _ _=>f ts);(case QC=>exact fun ts _=>f ts);all_goals ((repeat intro a);exact d)
def S4 (QBi:QC Qf) (Q8t:Qf):QW (QC Qf×QC Qf) :=
 QAl QBi (fun t r=>Hc r (xTL t (fun ts=>To Q8t (fun vs=>QB (ts,vs)) QG) QG) QG) QG
def BV (sc:Q0J) (QBi:QC Qf) (Q8t:Qf):QW (QC X6) :=
 match S4 QBi Q8t with
 | QG=>QG
 | QB (ts,vs) =>
  if !(Q2p == 2 || Q2p == 3) || Q0Q != Q2p || sc.kind != .Q35 then QG
  else if vs.any B2 then QG
  else
   let line:=(ts.head?.map (·.Q0w)).Q4f 0
   let Q41:=Q4z fun e=>B9 e (fun id XH=>if Q18 id == QB .Q5v&&Q0w == line then QB id else QG) QG
   if Q2q != Q2p || names.eraseDups.length != Q2q then QG
   else if QEZ (Q69 8) then QG else QB Q41
def Bg (QBi:QC Qf) (Q8t:Qf):Qu:=To Q8t (fun vs=>QEZ (Q81 8)&&!QEZ (Q69 8)) QJ
inductive Src where
 | seq (l:QH)
 | enum (l:QH)
instance:Q25 Src:=⟨.seq 0⟩
def Tu (P:Src->St->Prop):QU->St->Prop:=fun v σ=>Ai v fun l=>P (.seq l) σ
def Tv (P:Src->St->Prop):QU->St->Prop:=fun v σ=>Ai v fun l=>P (.enum l) σ
def IJ (gl:X6->QW QI) (fm:Fm) (t:Qf->PT QU) (e:Qf):PT Src:=fun σ P=>match Dl e with
 | QB x=>B2 x=QJ/\BI gl fm "enumerate" σ fun fv σ=>fv=.imm (.Qk "enumerate")/\t x σ (Tv P)
 | QG=>Bv e=QJ/\t e σ (Tu P)
def Nf (asg:QU->PT YV) (bod:PT Fl) (l:QH) (Y4:QC (Yb×QU)):PT Fl:=fun σ P =>
 ∀co,AS (fun σ=>QS l=.raw co) (fun x σ P=>asg x σ fun _ σ=>bod σ P) (Q2i fun p=>p.1.val) (Yt l (.raw co)) fun fl XF=>X4 l=.raw co/\P fl (QEa l (.Q01 Y4))
def S9 (asg:QU->PT YV) (bod:PT Fl) (l:QH) (xs:QC Yb):PT Fl:=fun σ P =>
 ∀co (ys:QC Yb),ys.Perm xs->AS (fun σ=>QS l=.raw co) (fun x σ P=>asg x σ fun _ σ=>bod σ P) (ys.map Q10) (Yt l (.raw co)) fun fl XF=>X4 l=.raw co/\P fl (QEa l (.set xs))
def Gl (asg:QU->PT YV) (bod:PT Fl) (Q1q:Qf) (src:Src):PT Fl:=fun σ P=>match src with
 | .seq l=>(Af (QS l) fun xs=>AS (fun σ=>QS l=.Qs xs) (fun x σ P=>asg x σ fun _ σ=>bod σ P) xs σ P) \/
   (Cp (QS l) fun xs=>AS (fun σ=>QS l=.YJ xs) (fun x σ P=>asg x σ fun _ σ=>bod σ P) xs σ P) \/
   (By (QS l) fun a b k=>Q0b a b k=QM/\0<=XG a b k/\AS (fun _=>Q3x) (fun x σ P=>asg x σ fun _ σ=>bod σ P) ((Ay a b k).map .Qm) σ P) \/
   (As (QS l) fun Y4=>Nf asg bod l Y4 σ P)\/(Bh (QS l) fun xs=>S9 asg bod l xs σ P) \/
   (CD (QS l) fun d=>d < QO/\As (QS d) fun Y4=>Nf asg bod d Y4 σ P)
 | .enum l=>Af (QS l) fun xs=>Td Q1q=QM/\AS (fun σ=>QS l=.Qs xs) (fun (p:QH×QU) σ P=>asg (.QP QO) (Qw (.YJ [.Qm p.1,p.2])) fun _ σ=>bod σ P) (Cw xs) σ P
def CZ (t:PT Qu) (b:PT Fl):QH->PT Fl
 | 0,_,_=>Yk
 | k+1,σ,P=>t σ fun c σ=>(c=QM->b σ fun fl σ=>match fl with
   | .YC=>CZ t b k σ P
   | .QAh=>CZ t b k σ P
   | .brk=>P .YC σ
   | .ret v=>P (.ret v) σ)/\(c=QJ->P .YC σ)
def Oj (fm:Fm) (x:X6) (op:Q6P) (P:Fl->St->Prop) (a b:QU) (σ:St):Prop:=Bi a fun i=>Bi b fun j=>op=.Add/\Br fm x (.Qm (i+j)) σ fun _ σ=>P .YC σ
def Cn (v:QU) (σ:St) (p:QC QU×(St->Prop)):Prop:=∃l,v=.QP l/\((∃xs,QS l=.Qs xs/\(xs,fun σ:St=>QS l=.Qs xs)=p)\/(∃xs,QS l=.YJ xs/\(xs,fun σ:St=>QS l=.YJ xs)=p) \/
  ∃a b k,QS l=.Q7A a b k/\(Q0b a b k=QM/\0<=XG a b k)/\((Ay a b k).map .Qm,fun _:St=>Q3x)=p)
theorem QEb {l:QH} {σ:St} {xs:QC QU} (h:QS l=.Qs xs):Cn (.QP l) σ (xs,fun σ=>QS l=.Qs xs):=⟨l,QA,.inl ⟨xs,h,QA⟩⟩
def CO (f:Qf->PT QU) (t:Qf->PT Qu) (a:Qf->QU->PT YV) (acc:QH) (elt:Qf):QC Qx->QC QU->(St->Prop)->PT YV
 | [],_,_=>fun _ _=>Yk
 | g::gs,Xq,Q3D=>fun σ P=>AS Q3D (fun x σ P=>a Q3E x σ fun _ σ=>BL t .And QBL σ fun ok σ =>
   (ok=QJ->P .YC σ)/\(ok=QM->match gs with
    | []=>f elt σ fun v σ=>Bx [.QP acc,v] σ fun _ σ=>P .YC σ
    | g'::_=>Bv Q50=QJ/\f Q50 σ fun v σ=>∃its st,Cn v σ (its,st)/\CO f t a acc elt gs its st σ fun _ σ=>P .YC σ)) Xq σ fun _ σ=>P () σ
def Ev (cl:QC (X6×QH)):QC (X6×Q2Z)->QC (X6×QH)->QW (QC (X6×QH))
 | [],acc=>QB acc
 | (n,k)::r,acc=>if k == .QFr then (match QAn n with | QB l=>Ev cl r ((n,l)::acc) | QG=>QG) else Ev cl r acc
def Aj (Qv sc:Q0J):Q0J :=
 {Qv with Q41:=scope.names.map fun (n,k)=>if (k == .QFr&&sc.kind == .Q35&&Q18 n == QB .YQ) then (n,.YQ) else (n,k)}
def Eu (Qv:Q0J) (Q0L:QC Qx):Qu :=
 (match Q9O with | .Q35=>QM | _=>QJ)&&Q4i (fun x=>x.2 != .YQ)&&Q4i (fun x=>x.2 != .Q5v || Q9P x.1 == QB .Q5v)&&gens.all fun g=>Q6v == 0&&!Bv Q6A
def Hb (fm:Fm) (Qv:Q0J) (cl:QC (X6×QH)) (f0 f:Qf->PT QU) (t:Qf->PT Qu) (a:Qf->QU->PT YV) (elt:Qf) (g:Qx) (gs:QC Qx):PT QU:=fun σ P =>
 Ev Q8x Q1L []=QB cl/\Eu Qv (g::gs)=QM/\f0 Q6A σ fun v σ=>∃its st,Cn v σ (its,st) /\
  CO f t a QO elt (g::gs) its st {Qw (.Qs []) with loc:=fun _=>QG} fun _ XF=>P (.QP QO) {XF with loc:=Xv}
def QFs (K:Q1A) (c P:Qq):Prop:=∃o,Q9n c=QB o/\∀h:ZP,Q03 c=QB o->CodeHd h c P
theorem codeHdIn.hd {K:Q1A} {c P:Qq} {h:ZP} (x:QFs K c P) (X:QAf h):CodeHd h c P:=x.elim fun o r=>r.2 h (X _ _ r.1)
def AG (XH:Pos):QC (QH×QH×QH)->QW QH
 | []=>QG
 | e::r=>if (e.1:X3) == Q0w&&(e.2.1:X3) == Q51 then QB e.2.2 else AG XH r
def C9 (q:X6) (o:ZC):Prop:=∃vs t,Q1v=.Xo vs/\vs[1]?=QB (.Xs q t)
def Dz (Xb:Q53) (YZ:Qf) (Qv:Q0J) (Q9Q:X6) (pm ctv:QI):Qq->ZC:=fun c'=>kla_obj "<lambda>" Q9Q Xb YZ Qv [] pm c' ctv
def TS (K:Q1A) (fm:Fm) (Xb:Q53) (YZ:Qf) (Qv:Q0J) (XH:Pos):PT QU:=fun σ P =>
 (QDC=[]/\QAo=[]/\(Q4i fun x=>x.2 != .QFr)=QM)/\∃c0 Pt l es,Q2M=.QP c0/\Q2N=QB (Pt,l)/\QFs K c0 Pt/\QS l=.tab es /\
  (match AG XH es with
  | QB lc=>∀Q9Q pm ctv,P (.QP QO) (Qw (.lam (Dz Xb YZ Qv Q9Q pm ctv) lc))
  | QG=>∀oc q Q9Q pm ctv,C9 q oc->P (.QP (QO+1)) (((Yt l (.tab (es++[(Q0w,Q51,QO)]))).Q8y (.raw oc)).Q8y (.lam (Dz Xb YZ Qv Q9Q pm ctv) QO)))
def Fx (k:PT Fl) (P:Fl->St->Prop):Fl->St->Prop:=fun fl σ=>match fl with
 | .YC=>k σ P
 | fl=>P fl σ
def afm (op:QEc) (p:Prop):Prop:=match op with | .Not=>p | _=>Yk
def xLC {α:Type} (e:Qf) (f:Qf->QC Qx->Q0J->α) (d:α):α:=by apply @Q1K (fun _=>α) e;(case ZB=>exact fun a b c _=>f a b c);all_goals ((repeat intro a);exact d)
def TV {α:Type} (ts:QC Qf) (e:Qf) (f:Qf->Qf->Qx->QC Qx->Q0J->α) (d:α):α :=
 QAl ts (fun tg r=>Hc r (xLC e (fun elt Q0L Qv=>QAl Q0L (fun g gs=>f tg elt g gs Qv) d) d) d) d
end
mutual
noncomputable def ev (G:Pg) (cal:Av) (n:Nat) (fm:Fm) (e:Expr):PT Val:=match n with
 | 0=>fun _ _=>False
 | n+1=>fun σ P=>by
  apply @Expr.casesOn (fun _=>Prop) e
  case Constant=>exact fun k _ _=>JH k σ P
  case Name=>exact fun x _=>(x == ("__debug__":Str))=false/\(x == ("__classdict__":Str))=false/\BI G.gl fm x σ P
  case BinOp=>exact fun l op r _=>ev G cal n fm l σ fun a σ=>ev G cal n fm r σ fun b σ=>CP op a b σ P
  case IfExp=>exact fun t b o _=>tst G cal n fm t σ fun c σ=>(c=true->ev G cal n fm b σ P)/\(c=false->ev G cal n fm o σ P)
  case Compare=>exact fun l ops rs _=>afn ops rs (fun op r=>behindInMarks op r=false/\ev G cal n fm l σ fun a σ=>ev G cal n fm r σ fun b σ=>BK op a b σ P) False
  case Tuple=>exact fun es _ _=>Am es=true/\A6 (ev G cal n fm) es σ fun vs σ=>vs.length<=sizeLine/\P (.ref σ.nx) (σ.alloc (.tuple vs))
  case List=>exact fun es _=>Am es=true/\A6 (ev G cal n fm) es σ fun vs σ=>vs.length<=sizeLine/\P (.ref σ.nx) (σ.alloc (.list vs))
  case Dict=>exact fun ks vs _=>Ng ks vs (P (.ref σ.nx) (σ.alloc (.dict []))) False
  case Lambda=>exact fun args body scope pos=>TS G.K fm args body scope pos σ P
  case ListComp=>exact fun elt gens scope _=>onCons gens (fun g gs=>∃cl,Hb fm scope cl (ev G cal n fm) (ev G cal n ⟨Aj scope fm.sc,cl,fm.cd,fm.tb⟩) (tst G cal n ⟨Aj scope fm.sc,cl,fm.cd,fm.tb⟩) (asg G cal n ⟨Aj scope fm.sc,cl,fm.cd,fm.tb⟩) elt g gs σ P) False
  case Subscript=>exact fun v i _=>Ed i (fun lo hi st=>ev G cal n fm v σ fun a σ=>EY (ev G cal n fm) lo σ fun x σ=>EY (ev G cal n fm) hi σ fun y σ=>EY (ev G cal n fm) st σ fun z σ=>Bs a x y z σ P) (Cf i=false/\ev G cal n fm v σ fun a σ=>ev G cal n fm i σ fun b σ=>FF a b σ P)
  case Attribute=>exact fun o a _=>BY o=true/\ev G cal n fm o σ fun v σ=>BB G.K v a σ P
  case Call=>exact fun f args ks pos=>Hc ks (Fg f (fun o name apos=>(BY o=true/\Am args=true/\args.length < 30/\(apos.endLine == pos.line)=true)/\ev G cal n fm o σ fun v σ=>DW G.K v name σ fun p σ=>A6 (ev G cal n fm) args σ fun vs σ=>Bw G.K σ p.1/\cal p.1 (p.2++vs) σ P) (Am args=true/\ev G cal n fm f σ fun v σ=>A6 (ev G cal n fm) args σ fun vs σ=>Bw G.K σ v/\cal v vs σ P)) False
  all_goals ((repeat intro a);exact False)
noncomputable def tst (G:Pg) (cal:Av) (n:Nat) (fm:Fm) (e:Expr):PT Bool:=match n with
 | 0=>fun _ _=>False
 | n+1=>fun σ P=>by
  apply @Expr.casesOn (fun _=>Prop) e
  case UnaryOp=>exact fun op x _=>afm op (tst G cal n fm x σ fun b σ=>P (!b) σ)
  case BoolOp=>exact fun op vs _=>BL (tst G cal n fm) op vs σ P
  case Compare=>exact fun l ops rs _=>afn ops rs (fun op r=>behindInMarks op r=false/\ev G cal n fm l σ fun a σ=>ev G cal n fm r σ fun b σ=>BK op a b σ fun v σ=>AC G.K v σ P) False
  case Name=>exact fun x p=>ev G cal n fm (.Name x p) σ fun v σ=>AC G.K v σ P
  case Call=>exact fun f args kw p=>ev G cal n fm (.Call f args kw p) σ fun v σ=>AC G.K v σ P
  case Attribute=>exact fun o a p=>ev G cal n fm (.Attribute o a p) σ fun v σ=>AC G.K v σ P
  case Constant=>exact fun k u p=>ev G cal n fm (.Constant k u p) σ fun v σ=>AC G.K v σ P
  all_goals ((repeat intro a);exact False)
noncomputable def asg (G:Pg) (cal:Av) (n:Nat) (fm:Fm) (t:Expr) (v:Val):PT Unit:=match n with
 | 0=>fun _ _=>False
 | n+1=>fun σ P=>by
  apply @Expr.casesOn (fun _=>Prop) t
  case Name=>exact fun x _=>Br fm x v σ P
  case Tuple=>exact fun es _ _=>Am es=true/\AR G.K v es.length σ fun vs σ=>EH (asg G cal n fm) es vs σ P
  case Attribute=>exact fun o a _=>ev G cal n fm o σ fun ov σ=>Co G.K ov a v σ P
  case Subscript=>exact fun o i _=>ev G cal n fm o σ fun ov σ=>ev G cal n fm i σ fun iv σ=>C0 ov iv v σ P
  all_goals ((repeat intro a);exact False)
noncomputable def exs (G:Pg) (cal:Av) (n:Nat) (fm:Fm) (ss:List Stmt):PT Fl:=match n with
 | 0=>fun _ _=>False
 | n+1=>fun σ P=>match ss with
  | []=>P .next σ
  | s::rest=>ex1 G cal n fm s σ (Fx (exs G cal n fm rest) P)
noncomputable def ex1 (G:Pg) (cal:Av) (n:Nat) (fm:Fm) (s:Stmt):PT Fl:=match n with
 | 0=>fun _ _=>False
 | n+1=>fun σ P=>by
  apply @Stmt.casesOn (fun _=>Prop) s
  case Expr=>exact fun v _=>A3 v=false/\ev G cal n fm v σ fun _ σ=>P .next σ
  case Pass=>exact fun _=>P .next σ
  case Break=>exact fun _=>P .brk σ
  case Continue=>exact fun _=>P .cont σ
  case Return=>exact fun e _=>match e with | none=>P (.ret .none) σ | some e=>ev G cal n fm e σ fun v σ=>P (.ret v) σ
  case Assign=>exact fun ts e _=>TV ts e (fun tg elt g gs scope=>B2 tg=false/\∃cl,Hb fm scope cl (ev G cal n fm) (ev G cal n ⟨Aj scope fm.sc,cl,fm.cd,fm.tb⟩) (tst G cal n ⟨Aj scope fm.sc,cl,fm.cd,fm.tb⟩) (asg G cal n ⟨Aj scope fm.sc,cl,fm.cd,fm.tb⟩) elt g gs σ fun v σ=>asg G cal n fm tg v σ fun _ σ=>P .next σ) ((A3 e=false/\Am ts=true/\Bg ts e=false)/\ev G cal n fm e σ fun v σ=>(match BV fm.sc ts e with | some names=>AR G.K v names.length σ fun vs σ=>AH fm names.reverse vs.reverse σ fun _ σ=>P .next σ | none=>A7 (asg G cal n fm) v ts σ fun _ σ=>P .next σ))
  case AugAssign=>exact fun t op e _=>B9 t (fun x _=>(x == ("__classdict__":Str))=false/\BI G.gl fm x σ fun a σ=>ev G cal n fm e σ fun b σ=>Oj fm x op P a b σ) False
  case If=>exact fun t b o _=>tst G cal n fm t σ fun c σ=>(c=true->exs G cal n fm b σ P)/\(c=false->exs G cal n fm o σ P)
  case While=>exact fun t b o _=>Hc o (∃k,CZ (tst G cal n fm t) (exs G cal n fm b) k σ P) False
  case For=>exact fun t it b o _=>Hc o (IJ G.gl fm (ev G cal n fm) it σ fun src σ=>Gl (asg G cal n fm t) (exs G cal n fm b) t src σ P) False
  case Delete=>exact fun ts _=>onCons ts (fun t r=>Hc r (Mi t (fun o i=>ev G cal n fm o σ fun ov σ=>ev G cal n fm i σ fun iv σ=>C1 ov iv σ fun _ σ=>P .next σ) False) False) False
  all_goals ((repeat intro a);exact False)
end
end Mini
end
section
open PySem PySem.W PySem.Calls PyProof.Rows
namespace Mini
noncomputable abbrev Bd (c:Cx) (A:Around) (env:Env) (fm:Fm) (f:Expr->PT Val):Prop:=∀e Λ σ P,f e σ P->Sim c A env fm Λ (eval e env) VR σ P
noncomputable abbrev GD (c:Cx) (A:Around) (env:Env) (fm:Fm) (t:Expr->PT Bool):Prop:=∀e Λ σ P,t e σ P->Sim c A env fm Λ (isTrue e env (eval e env)) ER σ P
noncomputable abbrev E5 (c:Cx) (A:Around) (env:Env) (fm:Fm) (a:Expr->Val->PT Unit):Prop:=∀e v x Λ σ P,VR Λ v x->a e v σ P->Sim c A env fm Λ (assign e env x) UR σ P
noncomputable abbrev LO (c:Cx) (A:Around) (env:Env) (fm:Fm) (b:List Stmt->PT Fl):Prop:=∀ss Λ σ P,b ss σ P->Sim c A env fm Λ (execs ss env) FR σ P
noncomputable abbrev age (c:Cx) (A:Around) (env:Env) (fm:Fm) (b:Stmt->PT Fl):Prop:=∀s Λ σ P,b s σ P->Sim c A env fm Λ (exec s env) FR σ P
section
variable {c:Cx} {A:Around} {env:Env} {fm:Fm} {Λ:Lab} {σ:St} {f:Expr->PT Val} {t:Expr->PT Bool} {gl:Str->Option Value}
mutual
theorem Oi {k:Const} {u:QH} {XH:Pos} {P:QU->St->Prop} (h:JH k σ P):Zq c A X0 fm Λ (Q2j (.Q4a k u XH) X0) VR σ P:=by
 cases k
 case QG=>exact Xj h fun fz s Q E r q=>wpAny_Constant_none (q _ Y6 QA)
 case Yn=>exact Xj h fun fz s Q E r q=>wpAny_Constant_bool (q _ Y6 QA)
 case Qm=>exact Xj h fun fz s Q E r q=>wpAny_Constant_int (q _ (Y6+1) ⟨_,QA⟩)
 case Xs=>exact Xj h fun fz s Q E r q=>wpAny_Constant_str (q _ (Y6+1) ⟨_,QA⟩)
 all_goals exact Q1P h
theorem PC {x:X6} {XH:Pos} {P:QU->St->Prop} (hc:Q3M) (hg:GlOk c gl) (h1:(x == ("__debug__":X6))=QJ) (h2:(x == ("__classdict__":X6))=QJ) (h:BI gl fm x σ P):Zq c A X0 fm Λ (Q2j (.Q0v x XH) X0) VR σ P :=
 fun fz s Q E ok r q=>wpAny_Name (Fv hc hg h2 h fz s Q E ok r q) h1
theorem UB {l r:Qf} {op:Q6P} {XH:Pos} {P:QU->St->Prop} (hf:Bd c A X0 fm f) (h:f l σ fun a σ=>f r σ fun b σ=>CP op a b σ P):Zq c A X0 fm Λ (Q2j (.BinOp l op r XH) X0) VR σ P:=by
 rw [arm_eval_BinOp]
 exact YK (hf l Λ σ _ h) fun Λ1 a x σ1 e1 p1 hx=>YK (ZG (hf r Λ1 σ1 _ p1)) fun Λ2 b y σ2 e2 p2 hy=>Q0C (QBE (OQ (Q7n e2) hy p2))
theorem Og {x b o:Qf} {XH:Pos} {P:QU->St->Prop} (hf:Bd c A X0 fm f) (ht:GD c A X0 fm t) (h:t x σ fun d σ=>(d=QM->f b σ P)/\(d=QJ->f o σ P)):Zq c A X0 fm Λ (Q2j (.IfExp x b o XH) X0) VR σ P:=by
 rw [arm_eval_IfExp]
 refine YK (ht x Λ σ _ h) fun Λ1 a x σ1 e1 p1 hx=>?_
 cases hx
 cases a with
 | QM=>exact hf b Λ1 σ1 _ (p1.1 QA)
 | QJ=>exact hf o Λ1 σ1 _ (p1.2 QA)
theorem UA {l r:Qf} {op:QGu} {XH:Pos} {P:QU->St->Prop} (hA:AOk A) (hf:Bd c A X0 fm f) (hm:Q6B op r=QJ) (h:f l σ fun a σ=>f r σ fun b σ=>BK op a b σ P):Zq c A X0 fm Λ (Q2j (.Q8S l [op] [r] XH) X0) VR σ P :=
 fun fz s Q E ok rr q=>wpAny_Compare1 (hf l Λ σ _ h fz s _ E ok rr fun Λ1 s1 a x σ1 e1 p1 hx r1=>hf r Λ1 σ1 _ p1 fz s1 _ E (Yl e1) r1 fun Λ2 s2 b y σ2 e2 p2 hy r2=>KB hA (Q7n e2) hy p2 fz s2 Q E ((Yl e1).ext e2) r2 fun Λ3 s3 d z σ3 e3 p3 hz r3=>q Λ3 s3 d z σ3 ((YY e2).QR e3) p3 hz r3) hm
theorem spl (hf:Bd c A X0 fm f) {es:QC Qf} {XH:Pos} {P:QC QU->St->Prop} (hs:Am es=QM) (h:A6 f es σ P):Zq c A X0 fm Λ (spliced (Q7l XH (Q37 es X0))) VRs σ P:=by
 rw [AN hs];exact CV hf es Λ σ P h
theorem Oe {es:QC Qf} {u:QH} {XH:Pos} {P:QU->St->Prop} (hf:Bd c A X0 fm f) (hs:Am es=QM) (h:A6 f es σ fun vs σ=>Q0Q<=Xa/\P (.QP QO) (Qw (.YJ vs))):Zq c A X0 fm Λ (Q2j (.Zp es u XH) X0) VR σ P:=by
 rw [arm_eval_Tuple]
 refine Q0C (YK (spl hf hs h) fun Λ1 vs as σ1 e1 p1 hv=>?_)
 exact Q9A (o:=.YJ vs) (show QBT<=Xa by rw [XS,<- QAp];exact p1.1) (fun Za e=>⟨as,0,QA,QAZ e⟩) QA p1.2
theorem PE {es:QC Qf} {XH:Pos} {P:QU->St->Prop} (hf:Bd c A X0 fm f) (hs:Am es=QM) (h:A6 f es σ fun vs σ=>Q0Q<=Xa/\P (.QP QO) (Qw (.Qs vs))):Zq c A X0 fm Λ (Q2j (.QC es XH) X0) VR σ P:=by
 rw [arm_eval_List]
 refine Q0C (YK (spl hf hs h) fun Λ1 vs as σ1 e1 p1 hv=>?_)
 exact Q9A (o:=.Qs vs) (show QBT<=Xa by rw [XS,<- QAp];exact p1.1) (fun Za e=>⟨as,0,QA,QAZ e⟩) QA p1.2
theorem Oh {XH:Pos} {P:QU->St->Prop} (h:P (.QP QO) (Qw (.Q01 []))):Zq c A X0 fm Λ (Q2j (.Dict [] [] XH) X0) VR σ P:=by
 rw [eval_Dict_empty]
 refine Q0C ?_
 refine Q9A (o:=.Q01 []) (show (0:QH)<=_ from XT _) (fun Za e=>⟨[],?_,QA,.Zl⟩) QA h
 refine ew1 (Q9I (Heap.DictOf.new (knd:=knd XI c.w) c.g)) fun o yq2Y=>?_;refine an2 yq2Y fun ho hd=>?_;clear yq2Y
 rw [X2 _ QA]at ho
 exact (X1 ho)▸hd
theorem FD (hf:Bd c A X0 fm f) {x:QW Qf} {P:QU->St->Prop} (h:EY f x σ P):Zq c A X0 fm Λ (evalPart x X0) VR σ P:=by
 cases x with
 | QG=>exact Ze (b:=Val.none) (show P Val.none σ from h) QA
 | QB e=>exact hf e Λ σ P h
theorem Of {v:Qf} {lo hi st:QW Qf} {p XH:Pos} {P:QU->St->Prop} (hf:Bd c A X0 fm f)
  (h:f v σ fun a σ=>EY f lo σ fun x σ=>EY f hi σ fun y σ=>EY f st σ fun z σ=>Bs a x y z σ P):Zq c A X0 fm Λ (Q2j (.Q2E v (.QBG lo hi st p) XH) X0) VR σ P :=
 fun fz s Q E ok r q=>Subscript_ (hf v Λ σ _ h fz s _ E ok r fun Λ1 s1 a x σ1 e1 p1 hx r1=>wpAny_Slice (FD hf p1 fz s1 _ E (Yl e1) r1 fun Λ2 s2 b y σ2 e2 p2 hy r2=>FD hf p2 fz s2 _ E ((Yl e1).ext e2) r2 fun Λ3 s3 d z σ3 e3 p3 hz r3 =>
  FD hf p3 fz s3 _ E (((Yl e1).ext e2).ext e3) r3 fun Λ4 s4 g u σ4 e4 p4 hu r4=>OP r4 (((Q7n e2).ext e3).ext e4) ((hy.ext e3).ext e4) (hz.ext e4) hu p4 fun Λ5 s5 k w σ5 e5 p5 hw r5=>q Λ5 s5 k w σ5 ((((YY e2).QR e3).QR e4).QR e5) p5 hw r5))
theorem PF {v i:Qf} {XH:Pos} {P:QU->St->Prop} (hf:Bd c A X0 fm f) (hs:Cf i=QJ) (h:f v σ fun a σ=>f i σ fun b σ=>FF a b σ P):Zq c A X0 fm Λ (Q2j (.Q2E v i XH) X0) VR σ P :=
 fun fz s Q E ok r q=>Subscript_ (hf v Λ σ _ h fz s _ E ok r fun Λ1 s1 a x σ1 e1 p1 hx r1=>hf i Λ1 σ1 _ p1 fz s1 _ E (Yl e1) r1 fun Λ2 s2 b y σ2 e2 p2 hy r2 =>
  MW hs (Q7n e2) hy p2 fz s2 Q E ((Yl e1).ext e2) r2 fun Λ3 s3 d z σ3 e3 p3 hz r3=>q Λ3 s3 d z σ3 ((YY e2).QR e3) p3 hz r3)
theorem F6 {o:Qf} {attr:X6} {whole:Sem QI} (h:BY o=QM):attributeBase o attr X0 whole=whole:=by
 cases o
 case QAm f as kw p =>
  cases f
  case Q0v x q =>
   rcases as with _ | ⟨a,as⟩
   ·rcases kw with _ | ⟨k,kw⟩
    ·exact Xc h Qj
    ·rfl
   ·rfl
  all_goals rfl
 all_goals rfl
theorem PH {o:Qf} {attr:X6} {XH:Pos} {P:QU->St->Prop} (hc:Q3M) (hf:Bd c A X0 fm f) (hn:BY o=QM) (h:f o σ fun v σ=>BB c.K v attr σ P):Zq c A X0 fm Λ (Q2j (.Q1r o attr XH) X0) VR σ P :=
 fun fz s Q E ok r q=>Attribute_any_ (hf o Λ σ _ h fz s _ E ok r fun Λ1 s1 a x σ1 e1 p1 hx r1=>Ix hc hx p1 fz s1 Q E (Yl e1) r1 fun Λ2 s2 b y σ2 e2 p2 hy r2=>q Λ2 s2 b y σ2 (YY e2) p2 hy r2) (by rw [arm_eval_Attribute,F6 hn])
theorem Nu {XH:Pos} {es:QC Qf} (hs:Am es=QM):((Q7l XH (Q37 es X0)).all fun p=>!p.1)=QM:=by
 rw [AN hs];simp
theorem PD {o:Qf} {Q1u:X6} {apos XH:Pos} {Xb:QC Qf} {YR:QU->QC QU->PT QU} {P:QU->St->Prop} (hc:Q3M) (hf:Bd c A X0 fm f)
  (hcal:∀fv Λ σ P vs as x,VR Λ fv x->VRs Λ vs as->YR fv vs σ P->Zq c A X0 fm Λ (Q0M x as) VR σ P)
  (h1:BY o=QM/\Am Xb=QM/\Q4b < 30/\(QEd == Q0w)=QM)
  (h:f o σ fun v σ=>DW c.K v Q1u σ fun p σ=>A6 f Xb σ fun vs σ=>Bw c.K σ p.1/\YR p.1 (p.2++vs) σ P):Zq c A X0 fm Λ (Q2j (.QAm (.Q1r o Q1u apos) Xb [] XH) X0) VR σ P :=
 fun fz s Q E ok r q=>MethodCall_ (pl:=do return (<- importBound o X0).Q4f QM) (hf o Λ σ _ h fz s _ E ok r fun Λ1 s1 a x σ1 e1 p1 hx r1=>MU hc hx p1 fz s1 _ E (Yl e1) r1 fun Λ2 s2 b y σ2 e2 p2 hy r2 =>
   DP hc hf (hcal b.1) hy.1 hy.2 h1.2.1 p2 fz s2 Q E ((Yl e1).ext e2) r2 fun Λ3 s3 d z σ3 e3 p3 hz r3=>q Λ3 s3 d z σ3 ((YY e2).QR e3) p3 hz r3)
  (by
   have hform:QCX (Q4b+([]:QC QEW).ZT) (Q7l XH (Q37 Xb X0)) (backToKw XH (keywordEach [] X0))=QM:=by
    unfold QCX
    rw [Nu h1.2.1]
    have:=h1.2.2.1
    exact Yu this
   rw [arm_eval_Call,F6 h1.1]
   unfold methodCall methodCallPos
   rw [hform,h1.2.2.2]
   rfl)
def E9 (e:Qf):Qu:=Fg e (fun _ _ _=>QJ) QM
theorem PG {g:Qf} {XH:Pos} {Xb:QC Qf} {YR:QU->QC QU->PT QU} {P:QU->St->Prop} (hc:Q3M) (hf:Bd c A X0 fm f) (hn:E9 g=QM)
  (hcal:∀fv Λ σ P vs as x,VR Λ fv x->VRs Λ vs as->YR fv vs σ P->Zq c A X0 fm Λ (Q0M x as) VR σ P) (hs:Am Xb=QM)
  (h:f g σ fun v σ=>A6 f Xb σ fun vs σ=>Bw c.K σ v/\YR v vs σ P):Zq c A X0 fm Λ (Q2j (.QAm g Xb [] XH) X0) VR σ P :=
 fun fz s Q E ok r q=>Call_ (hf g Λ σ _ h fz s _ E ok r fun Λ1 s1 a x σ1 e1 p1 hx r1=>DP hc hf (hcal a) hx .Zl hs p1 fz s1 Q E (Yl e1) r1 fun Λ2 s2 b y σ2 e2 p2 hy r2=>q Λ2 s2 b y σ2 (YY e2) p2 hy r2)
  (by cases g <;> first | rfl | exact Xc hn Qj)
end
end
end Mini
end
section
open PySem PySem.W PySem.Calls PyProof.Rows
namespace Mini
section
variable {c:Cx} {A:Around} {env:Env} {fm:Fm} {Λ:Lab} {σ:St} {f:Expr->PT Val} {t:Expr->PT Bool} {a:Expr->Val->PT Unit} {b:List Stmt->PT Fl} {gl:Str->Option Value}
mutual
theorem UD {x:Qf} {XH:Pos} {P:Qu->St->Prop} (ht:GD c A X0 fm t) (h:t x σ fun b σ=>P (!b) σ):Zq c A X0 fm Λ (Q7V (.QEc .Not x XH) X0 (Q2j (.QEc .Not x XH) X0)) ER σ P:=by
 rw [arm_isTrue_UnaryOp]
 refine YK (ht x Λ σ _ h) fun Λ1 d y σ1 e1 p1 hx=>?_
 cases hx
 exact Ze (b:=!d) p1 QA
theorem Kb (ht:GD c A X0 fm t) {op:QEY}:∀ {es:QC Qf} {Λ:Lab} {σ:St} {P:Qu->St->Prop},BL t op es σ P->Zq c A X0 fm Λ (allTrue op es X0) ER σ P
 | [],Λ,σ,P,h=>Ze (b:=op == .And) h QA
 | x::r,Λ,σ,P,h=>by
  rw [arm_allTrue_cons]
  refine YK (ht x Λ σ _ h) fun Λ1 d y σ1 e1 p1 hx=>?_
  cases hx
  cases op <;> cases d
  ·exact Ze (b:=QJ) p1 QA
  ·exact Kb ht p1
  ·exact Kb ht p1
  ·exact Ze (b:=QM) p1 QA
theorem UE {l r:Qf} {op:QGu} {XH:Pos} {P:Qu->St->Prop} (hc:Q3M) (hA:AOk A) (hf:Bd c A X0 fm f) (hm:Q6B op r=QJ) (h:f l σ fun a σ=>f r σ fun b σ=>BK op a b σ fun v σ=>AC c.K v σ P):Zq c A X0 fm Λ (Q7V (.Q8S l [op] [r] XH) X0 (Q2j (.Q8S l [op] [r] XH) X0)) ER σ P :=
 fun fz s Q E ok rr q=>wpAny_isTrue_Compare1 (hf l Λ σ _ h fz s _ E ok rr fun Λ1 s1 a x σ1 e1 p1 hx r1=>hf r Λ1 σ1 _ p1 fz s1 _ E (Yl e1) r1 fun Λ2 s2 b y σ2 e2 p2 hy r2=>KB hA (Q7n e2) hy p2 fz s2 _ E ((Yl e1).ext e2) r2 fun Λ3 s3 d z σ3 e3 p3 hz r3 =>
  Ft hc hz p3 fz s3 Q E (((Yl e1).ext e2).ext e3) r3 fun Λ4 s4 g u σ4 e4 p4 hu r4=>q Λ4 s4 g u σ4 (((YY e2).QR e3).QR e4) p4 hu r4) hm
theorem D7 {e:Qf} {P:Qu->St->Prop} (hc:Q3M) (hf:Bd c A X0 fm f) (he:Q7V e X0 (Q2j e X0)=(do let v <- Q2j e X0;QGr e.pos;holding [v] (QEH v))) (h:f e σ fun v σ=>AC c.K v σ P):Zq c A X0 fm Λ (Q7V e X0 (Q2j e X0)) ER σ P:=by
 rw [he]
 exact YK (hf e Λ σ _ h) fun Λ1 d y σ1 e1 p1 hx=>Q0C (ZG (Ft hc hx p1))
theorem QCY {m:Sem YV} {vs ks:QC QI} {P:YV->St->Prop} (h:Zq c A X0 fm Λ m UR σ P):Zq c A X0 fm Λ (m >>= fun _=>release vs ks) UR σ P :=
 YK h fun Λ1 d y σ1 e1 p1 hx fz s Q E ok r q=>wpAny_release' (q Λ1 s () () σ1 (.Q1H _) p1 ZN r)
theorem PI {x:X6} {XH:Pos} {v:QU} {y:QI} {P:YV->St->Prop} (hv:VR Λ v y) (h:Br fm x v σ P):Zq c A X0 fm Λ (Q2J (.Q0v x XH) X0 y) UR σ P:=by
 rw [arm_assign_Name];exact Q0C (Ef hv h)
theorem A1:∀ {es:QC Qf},Am es=QM->QCZ es X0=QEJ fun e=>(QJ,Q2J e X0)
 | [],_=>QA
 | e::es,h=>by
  simp only [Am,QD2,X7,Z9]at h
  have:QCZ (e::es) X0=(QJ,Q2J e X0)::QCZ es X0:=by
   have h1:=h.1
   cases e <;> first | rfl | (cases h1)
  rw [this,A1 (show Am es=QM from h.2)];rfl
theorem I1 (ha:E5 c A X0 fm a):∀ {es:QC Qf} {vs:QC QU} {as:QC QI} {Λ:Lab} {σ:St} {P:YV->St->Prop},VRs Λ vs as->EH a es vs σ P->Zq c A X0 fm Λ (QDD (QEJ fun e=>Q2J e X0) as) UR σ P
 | [],vs,as,Λ,σ,P,hv,h=>by
  cases hv <;> exact Ze (b:=()) h ZN
 | e::es,[],as,Λ,σ,P,hv,h=>by
  cases hv;exact Ze (b:=()) h ZN
 | e::es,v::vs,as,Λ,σ,P,hv,h=>by
  cases hv with | Xu h1 h2 =>
  exact YK (ZG (ha e v _ Λ σ _ h1 h)) fun Λ1 d y σ1 e1 p1 hx=>I1 ha (QEF e1) p1
theorem Ol {es:QC Qf} {k:QH} {XH:Pos} {v:QU} {y:QI} {P:YV->St->Prop} (hc:Q3M) (hA:AOk A) (ha:E5 c A X0 fm a) (hs:Am es=QM) (hv:VR Λ v y) (h:AR c.K v QAc σ fun vs σ=>EH a es vs σ P):Zq c A X0 fm Λ (Q2J (.Zp es k XH) X0 y) UR σ P:=by
 rw [arm_assign_Tuple]
 refine Q0C ?_
 unfold unpack
 rw [A1 hs]
 have e1:(Q5O (fun e=>(QJ,Q2J e X0)) es).ZT=QAc:=by simp
 have e2:(Q5O (fun e=>(QJ,Q2J e X0)) es).findIdx? (·.1)=QG:=by
  rw [List.findIdx?_eq_none_iff];simp
 have e3:(Q5O (fun e=>(QJ,Q2J e X0)) es).map (·.2)=QEJ fun e=>Q2J e X0:=by simp
 rw [e1,e2,e3]
 exact YK (ZG (Fs hc hA hv h)) fun Λ1 vs as σ1 e1 p1 hx=>I1 ha hx p1
theorem PJ {o:Qf} {attr:X6} {XH:Pos} {v:QU} {y:QI} {P:YV->St->Prop} (hc:Q3M) (hf:Bd c A X0 fm f) (hv:VR Λ v y) (h:f o σ fun ov σ=>Co c.K ov attr v σ P):Zq c A X0 fm Λ (Q2J (.Q1r o attr XH) X0 y) UR σ P:=by
 rw [arm_assign_Attribute]
 exact YK (ZG (hf o Λ σ _ h)) fun Λ1 d z σ1 e1 p1 hx=>Q0C (QCY (ZG (Iu hc hx (QAZ e1) p1)))
theorem UF {o i:Qf} {XH:Pos} {v:QU} {y:QI} {P:YV->St->Prop} (hf:Bd c A X0 fm f) (hv:VR Λ v y) (h:f o σ fun ov σ=>f i σ fun iv σ=>C0 ov iv v σ P):Zq c A X0 fm Λ (Q2J (.Q2E o i XH) X0 y) UR σ P:=by
 rw [arm_assign_Subscript]
 exact YK (ZG (hf o Λ σ _ h)) fun Λ1 d z σ1 e1 p1 hx=>YK (ZG (hf i Λ1 σ1 _ p1)) fun Λ2 g u σ2 e2 p2 hu=>Q0C (QCY (ZG (Iq (Q7n e2) hu ((QAZ e1).ext e2) p2)))
theorem Uw {s:YW} {ss:QC YW} {b1:YW->PT Fl} {P:Fl->St->Prop} (h1:age c A X0 fm b1) (h2:LO c A X0 fm b) (h:b1 s σ (Fx (b ss) P)):Zq c A X0 fm Λ (QFj (s::ss) X0) FR σ P:=by
 rw [arm_execs_cons]
 refine YK (h1 s Λ σ _ h) fun Λ1 d y σ1 e1 p1 hx=>?_
 cases d with
 | YC=>cases hx;exact h2 ss Λ1 σ1 P p1
 | brk=>cases hx;exact Ze (b:=Fl.brk) p1 QA
 | QAh=>cases hx;exact Ze (b:=Fl.cont) p1 QA
 | ret v=>obtain (⟨cv,QA,hv⟩):=hx;exact Ze (b:=Fl.ret v) p1 ⟨cv,QA,hv⟩
theorem NG (ok:Q4q X0 fm Λ):QFt X0=QJ:=by
 unfold QFt;rw [QC3,ok.kd];rfl
theorem Il {e:Qf} {t:QW Qf} {n:QH} (h:A3 e=QJ):swapsWith e t n X0=ZU QJ:=by
 cases e <;> first | rfl | (cases h)
theorem HE {e:Qf} {ts:QC Qf} {n:QH} (h:A3 e=QJ):Q8z ts e n X0=ZU QJ:=by
 rcases ts with _ | ⟨t,_ | ⟨u,r⟩⟩
 ·rfl
 ·exact Il h
 ·rfl
theorem PA {e:Qf} {XH:Pos} {P:Fl->St->Prop} (hf:Bd c A X0 fm f) (hn:A3 e=QJ) (h:f e σ fun _ σ=>P .YC σ):Zq c A X0 fm Λ (QFu (.Qf e XH) X0) FR σ P:=by
 refine Zn fun fz s ok r Q E q=>?_
 rw [arm_exec_Expr,NG ok,Il hn]
 simp only [XQ,Zf,Q4I]
 exact Q9 (Q0j (Q9 (hf e Λ σ _ h fz s _ E ok r fun Λ1 s1 d y σ1 e1 p1 hx r1=>wpAny_dropValue (q Λ1 s1 .YC .YC σ1 e1 p1 QA r1))))
theorem D2 {b:Qu} {x y:Sem (QW (QC X6))} {x' y':QW (QC X6)} (hx:x=ZU x') (hy:b=QJ->y=ZU y'):(if b=QM then x else y)=ZU (if b=QM then x' else y'):=by
 cases b with
 | QM=>exact hx
 | QJ=>exact hy QA
def Im (X0:Env) (st:Qf->Qu) (nm:Qf->QW X6) (ts vs:QC Qf):Sem (QW (QC X6)) :=
 if (!(Q2p == 2 || Q2p == 3) || Q0Q != Q2p || QDE != .Q35)=QM then ZU QG
 else if vs.any st=QM then ZU QG
 else if ((Q4z nm).ZT != Q2p || (Q4z nm).eraseDups.length != (Q4z nm).ZT)=QM then ZU QG
 else if QEZ (Q69 8)=QM then ZU QG
 else if QEZ (Q81 8)=QM then unsupported "assign.tuple-of-constant-expressions:order-of-the-stores" else ZU (QB (Q4z nm))
theorem MC {X0:Env} {s s':Qf->Qu} {n n':Qf->QW X6} {ts vs:QC Qf} (h1:∀x,s x=s' x) (h2:∀x,n x=n' x):Im X0 s n ts vs=Im X0 s' n' ts vs:=by
 rw [funext h1,funext h2]
theorem Fo (ok:Q4q X0 fm Λ) {ts' vs':QC Qf} {k1 k2:QH} {p1 p2:Pos} (hb:(vs'.all (Q81 8)&&!vs'.all (Q69 8))=QJ):Q90 [.Zp ts' k1 p1] (.Zp vs' k2 p2) X0=ZU (BV Zo [.Zp ts' k1 p1] (.Zp vs' k2 p2)):=by
 have hk:QDE=fm.sc.kind:=by unfold QCz;rw [QC3,ok.kd];rfl
 have hko:Q6f=fun x=>ZH x:=funext fun x=>by unfold Q9C;rw [QC3]
 have e1:Q90 [.Zp ts' k1 p1] (.Zp vs' k2 p2) X0=Im X0 B2 (fun e=>B9 e (fun id XH=>if Q6f id == QB .Q5v&&Q0w == (ts'.head?.map (·.Q0w)).Q4f 0 then QB id else QG) QG) ts' vs' :=
  (show _=Im X0 _ _ ts' vs' from QA).QR (MC (fun x=>by cases x <;> rfl) fun x=>by cases x <;> rfl)
 rw [e1]
 delta Im
 rw [hk,hko]
 refine D2 QA fun _=>D2 QA fun _=>D2 QA fun _=>D2 QA fun h=>?_
 rw [h,Q82,Bool.and_true]at hb
 rw [hb]
 rfl
theorem G8 (ok:Q4q X0 fm Λ) {ts:QC Qf} {e:Qf} (h:Bg ts e=QJ):Q90 ts e X0=ZU (BV Zo ts e):=by
 rcases ts with _ | ⟨t,_ | ⟨u,r⟩⟩
 ·rfl
 ·cases t
  case Zp ts' k p =>
   cases e
   case Zp=>exact Fo ok h
   all_goals rfl
  case QC ts' p =>
   cases e
   case Zp=>exact Fo (ts':=ts') (k1:=0) (k2:=0) (p1:=p) (p2:=p) ok h
   all_goals rfl
  all_goals rfl
 ·cases t <;> rfl
end
end
end Mini
end
section
open PySem PySem.W PySem.Calls PyProof.Rows
namespace Mini
section
variable {c:Cx} {A:Around} {env:Env} {fm:Fm} {Λ:Lab} {σ:St} {f:Expr->PT Val} {t:Expr->PT Bool} {a:Expr->Val->PT Unit} {b:List Stmt->PT Fl} {gl:Str->Option Value}
mutual
theorem Lc (ha:E5 c A X0 fm a) {v:QU}:∀ {ts:QC Qf} {x:QI} {Λ:Lab} {σ:St} {P:YV->St->Prop},VR Λ v x->A7 a v ts σ P->Zq c A X0 fm Λ (assignAll x (QCa fun e=>Q2J e X0)) UR σ P
 | [],x,Λ,σ,P,hv,h=>Ze (b:=()) h ZN
 | [t],x,Λ,σ,P,hv,h=>ha t v x Λ σ _ hv h
 | t::u::r,x,Λ,σ,P,hv,h =>
  YK (ZG (ha t v x Λ σ _ hv h)) fun Λ1 d y σ1 e1 p1 hx=>Lc ha (QAZ e1) p1
theorem Fp:∀ {xs:QC X6} {vs:QC QU} {as:QC QI} {Λ:Lab} {σ:St} {P:YV->St->Prop},VRs Λ vs as->AH fm xs vs σ P->Zq c A X0 fm Λ (QDD (QAq fun n=>bindName X0 n) as) UR σ P
 | [],vs,as,Λ,σ,P,hv,h=>by
  cases hv <;> exact Ze (b:=()) h ZN
 | x::xs,[],as,Λ,σ,P,hv,h=>by
  cases hv;exact Ze (b:=()) h ZN
 | x::xs,v::vs,as,Λ,σ,P,hv,h=>by
  cases hv with | Xu h1 h2 =>
  exact YK (ZG (Ef h1 h)) fun Λ1 d y σ1 e1 p1 hx=>Fp (QEF e1) p1
theorem VRs.rev {Λ:Lab} {xs:QC QU} {vs:QC QI} (h:VRs Λ xs vs):VRs Λ xs.reverse Q3R:=by
 induction h with
 | Zl=>exact .Zl
 | Xu h _ ih=>rw [Q0V,Q0V];exact ih.append (.Xu h .Zl)
theorem Do {ts:QC Qf} {e:Qf} {XH:Pos} {P:Fl->St->Prop} (hc:Q3M) (hA:AOk A) (hf:Bd c A X0 fm f) (ha:E5 c A X0 fm a) (hn:A3 e=QJ/\Am ts=QM/\Bg ts e=QJ)
  (h:f e σ fun v σ=>(match BV Zo ts e with
    | QB Q41=>AR c.K v Q2q σ fun vs σ=>AH fm Q4T Q3R σ fun _ σ=>P .YC σ
    | QG=>A7 a v ts σ fun _ σ=>P .YC σ)):Zq c A X0 fm Λ (QFu (.Q6w ts e XH) X0) FR σ P:=by
 injections c A X0 fm Λ σ f a ts e XH P _ _ _ _ _ _
 refine Zn ?_;intros fz s ok r Q E q
 rw [QBU,HE hn.1,G8 ok hn.2.2,A1 hn.2.1]
 have e3:(Q5O (fun e=>(QJ,Q2J e X0)) ts).map (·.2)=QCa fun e=>Q2J e X0:=by simp
 simp only [XQ,Zf,Q4I,e3]
 refine Q9 (Q0j (Q9 (hf e Λ σ _ h fz s _ E ok r ?_)));intros Λ1 s1 d y σ1 e1 p1 hx r1
 cases hq:BV Zo ts e with
 | QB Q41 =>
  injections Q41 zI
  rw [hq]at p1
  refine Q9 (Q0X (Q9 (Fs hc hA hx p1 fz s1 _ E (Yl e1) r1 fun Λ2 s2 vs as σ2 e2 p2 hvs r2=>Q9 (Fp hvs.rev p2 fz s2 _ E ((Yl e1).ext e2) r2 fun Λ3 s3 _ _ σ3 e3 p3 _ r3=>QF (q Λ3 s3 .YC .YC σ3 ((YY e2).QR e3) p3 QA r3)))))
 | QG =>
  rw [hq]at p1
  exact Q9 (Lc ha hx p1 fz s1 _ E (Yl e1) r1 fun Λ2 s2 _ _ σ2 e2 p2 _ r2=>QF (q Λ2 s2 .YC .YC σ2 (YY e2) p2 QA r2))
theorem Uy {x:X6} {p XH:Pos} {op:Q6P} {e:Qf} {P:Fl->St->Prop} (hc:Q3M) (hg:GlOk c gl) (hf:Bd c A X0 fm f) (hx:(x == ("__classdict__":X6))=QJ)
  (h:BI gl fm x σ fun a σ=>f e σ fun b σ=>Oj fm x op P a b σ):Zq c A X0 fm Λ (QFu (.QDo (.Q0v x p) op e XH) X0) FR σ P:=by
 rw [arm_exec_AugAssign]
 refine Q0C (YK (Fv hc hg hx h) fun Λ1 d y σ1 e1 p1 hy=>YK (ZG (hf e Λ1 σ1 _ p1)) fun Λ2 g z σ2 e2 p2 hz=>Q0C ?_)
 ·refine QBD p2 fun i ed q2=>QBD q2 fun j eg k2=>?_
  obtain (⟨eo,k2⟩):=k2
  clear q2 p2
  subst ed eg eo
  ·obtain (⟨t1,QA⟩):=hy;obtain (⟨t2,QA⟩):=hz
   refine YK (R:=VR) (P:=fun v s=>v=.Qm (i+j)/\s=σ2) (QBE (Xj (b:=.Qm (i+j)) ⟨QA,QA⟩ fun fz s Q E r q=>AutoIntOps.iadd_0 (q _ (Y6+1) ⟨_,QA⟩))) fun Λ3 g z σ3 e3 p3 hz=>Q0C ?_
   obtain (⟨QA,QA⟩):=p3
   exact YK (Ef hz k2) fun Λ4 g z σ4 e4 p4 hz=>Ze (b:=Fl.next) p4 QA
theorem aga {x:Qf} {b1 b2:QC YW} {XH:Pos} {P:Fl->St->Prop} (ht:GD c A X0 fm t) (hb:LO c A X0 fm b) (h:t x σ fun d σ=>(d=QM->b b1 σ P)/\(d=QJ->b b2 σ P)):Zq c A X0 fm Λ (QFu (.If x b1 b2 XH) X0) FR σ P:=by
 rw [arm_exec_If]
 refine Q0C (YK (ht x Λ σ _ h) fun Λ1 d y σ1 e1 p1 hx=>?_)
 cases hx
 cases d with
 | QM=>exact hb b1 Λ1 σ1 _ (p1.1 QA)
 | QJ=>exact hb b2 Λ1 σ1 _ (p1.2 QA)
theorem Od {x:Qf} {bo:QC YW} {XH:Pos} {P:Fl->St->Prop} (ht:GD c A X0 fm t) (hb:LO c A X0 fm b) {k:QH} (h:CZ (t x) (b bo) k σ P):Zq c A X0 fm Λ (QFu (.While x bo [] XH) X0) FR σ P:=by
 injections c A X0 fm Λ σ t b x bo XH P _ _ k _
 refine Zn ?_;intros fz s ok r Q E q;refine wpAny_While (codeAny_whileLoop (fun n s'=>∃Za XF,Q0A Za/\Rel c fz Qo Za XF s'/\CZ (t x) (b bo) n XF P) ?_ k ⟨Λ,σ,.Q1H _,r,h⟩)
 intros n s1 Q2T
 obtain ⟨Λ1,σ1,e1,r1,h1⟩:=Q2T
 cases n with
 | Q2Q=>exact h1.elim
 | Q2R n =>
  injections n zI
  refine ht x Λ1 σ1 _ h1 fz s1 _ _ (Yl e1) r1 ?_;intros Λ2 s2 d y σ2 e2 p2 hx r2
  cases hx
  cases d with
  | QM =>
   refine hb bo Λ2 σ2 _ (p2.1 QA) fz s2 _ _ ((Yl e1).ext e2) r2 ?_;intros Λ3 s3 g z σ3 e3 p3 hz r3
   cases g with
   | YC=>cases hz;exact ⟨n,Xx _,Λ3,σ3,(YY e2).QR e3,r3,p3⟩
   | QAh=>cases hz;exact ⟨n,Xx _,Λ3,σ3,(YY e2).QR e3,r3,p3⟩
   | brk=>cases hz;exact q Λ3 s3 .YC .YC σ3 ((YY e2).QR e3) p3 QA r3
   | ret v=>obtain ⟨cv,QA,hv⟩:=hz;exact q Λ3 s3 (.ret v) (.ret cv) σ3 ((YY e2).QR e3) p3 ⟨cv,QA,hv⟩ r3
  | QJ=>exact Q7I (q Λ2 s2 .YC .YC σ2 (YY e2) (p2.2 QA) QA r2)
theorem Ux {o i:Qf} {p XH:Pos} {P:Fl->St->Prop} (hf:Bd c A X0 fm f) (h:f o σ fun ov σ=>f i σ fun iv σ=>C1 ov iv σ fun _ σ=>P .YC σ):Zq c A X0 fm Λ (QFu (.Delete [.Q2E o i p] XH) X0) FR σ P:=by
 rw [arm_exec_Delete,arm_deleteEach_cons,arm_deleteEach_nil,arm_delete_Subscript]
 refine Q0C (YK (P:=fun _ σ=>P .YC σ) (R:=UR) (YK (P:=fun _ σ=>P .YC σ) (R:=UR) (YK (hf o Λ σ _ h) fun Λ1 d z σ1 e1 p1 hx=>YK (ZG (hf i Λ1 σ1 _ p1)) fun Λ2 g u σ2 e2 p2 hu=>Q0C (QCY (ZG (Iz (Q7n e2) hu p2)))) fun Λ1 d z σ1 e1 p1 hx=>Ze (b:=()) p1 ZN) fun Λ1 d z σ1 e1 p1 hx=>Ze (b:=Fl.next) p1 QA)
end
end
end Mini
end
section
open PySem PySem.W PySem.Calls PyProof.Rows
namespace Mini
section
variable {c:Cx} {A:Around} {env:Env} {fm:Fm} {Λ:Lab} {σ:St} {f:Expr->PT Val} {t:Expr->PT Bool} {a:Expr->Val->PT Unit} {b:List Stmt->PT Fl} {gl:Str->Option Value}
mutual
theorem LB {e:Qf} (h:Bv e=QJ) (x:QI):QA4 e X0 x=ZU x:=by
 cases e <;> first | rfl | exact Xc QGO Qj
theorem Ka {tg it:Qf} {bo:QC YW} {XH:Pos} {P:Fl->St->Prop} (hA:AOk A) (hf:Bd c A X0 fm f) (ha:E5 c A X0 fm a) (hb:LO c A X0 fm b) (hs:Bv it=QJ)
  (h:f it σ fun v σ=>Ai v fun l=>Gl (a tg) (b bo) tg (.seq l) σ P):Zq c A X0 fm Λ (QFu (.For tg it bo [] XH) X0) FR σ P:=by
 injections c A X0 fm Λ σ f a b tg it bo XH P _ _ _ _ _ _
 refine Zn ?_;intros fz s ok r Q E q;refine wpAny_For (hf it Λ σ _ h fz s _ E ok r ?_) (LB hs);intros Λ1 s1 v x σ1 e1 p1 hx r1
 have QDA:∀x Λ σ P v,VR Λ x v->(a tg) x σ P->Zq c A X0 fm Λ (Q2J tg X0 v) UR σ P:=fun x Λ σ P v hv h=>ha tg x v Λ σ P hv h
 have QDB:∀Λ σ P,b bo σ P->Zq c A X0 fm Λ (QFj bo X0) FR σ P:=fun Λ σ P h=>hb bo Λ σ P h
 ·refine Q1W p1 ?_;intros l ev p1
  subst ev
  refine Q6h p1 ?_ ?_
  ·intros p1;refine Q4n p1 ?_;intros xs hl p1
   skip
   refine KU hA r1 hx hl ?_;intros it' s' Q2T
   obtain ⟨I,own,J,hI,W0,r',hfz,hL,hd,hJ⟩:=Q2T
   subst hI
   have W:=W0 X0 fz hfz hL
   exact Ba W QDA QDB (Yl e1) r' hd hJ p1 fun Λ2 s2 d z σ2 e2 p2 hz r2=>q Λ2 s2 d z σ2 (YY e2) p2 hz r2
  intros p1;refine QEe ?_ ?_
  ·intros p1;refine QGj p1 ?_;intros xs hl p1
   skip
   refine IY hA r1 hx hl ?_;intros it' s' Q6g
   obtain ⟨I,own,J,hI,W0,r',hfz,hL,hd,hJ⟩:=Q6g
   subst hI
   have W:=W0 X0 fz hfz hL
   exact Ba W QDA QDB (Yl e1) r' hd hJ p1 fun Λ2 s2 d z σ2 e2 p2 hz r2=>q Λ2 s2 d z σ2 (YY e2) p2 hz r2
  intros p1;refine QEe ?_ ?_
  ·intros p1;refine By.el p1 ?_;intros x1 x2 x3 hl p1
   skip
   obtain ⟨o,ho,hor⟩:=(r1.ob l hx.1)
   rw [hl]at hor
   obtain ⟨t1,t2,t3,QA⟩:=hor
   rw [hx.2]
   refine IZ hA r1 ho p1.1 p1.2.1 ?_;intros it' s' xq03
   obtain ⟨I,own,J,hI,W0,r',hfz,hL,hd,hJ⟩:=xq03
   subst hI
   have W:=W0 X0 fz hfz hL
   exact Ba W QDA QDB (Yl e1) r' hd hJ p1.2.2 fun Λ2 s2 d z σ2 e2 p2 hz r2=>q Λ2 s2 d z σ2 (YY e2) p2 hz r2
  intros p1;refine QEe ?_ ?_
  ·intros p1;refine Q8o p1 ?_;intros Y4 hl p1
   skip
   obtain ⟨o,ho,hor⟩:=(r1.ob l hx.1)
   rw [hl]at hor
   rw [hx.2]
   refine Pe hA r1 hx.1 hl ho ?_;intros it' s' xq04
   obtain ⟨I,own,J,hI,W0,r',hfz,hL,hd,hJ⟩:=xq04
   subst hI
   have W:=W0 X0 fz hfz hL
   refine Ba W QDA QDB (Yl e1) r' hd hJ (p1 o) ?_;intros Λ2 s2 d z σ2 e2 p2 hz r2;refine q Λ2 s2 d z _ (YY e2) p2.2 hz ?_
   obtain ⟨o',ho',Q5K⟩:=(r2.ob l (QQ hx.1 e2.1))
   rw [p2.1]at Q5K
   cases Q5K
   exact QHA (by rw [<- QHB];exact QQ hx.1 e2.1) ho' (QHC e2)
  intros p1;refine QEe ?_ ?_
  ·intros p1;refine QFE p1 ?_;intros xs hl p1
   skip
   obtain ⟨o,ho,hor⟩:=(r1.ob l hx.1)
   rw [hl]at hor
   rw [hx.2]
   refine T6 hA r1 hx.1 hl ho ?_;intros it' s' ys QFa xq05
   obtain ⟨I,own,J,hI,W0,r',hfz,hL,hd,hJ⟩:=xq05
   subst hI
   have W:=W0 X0 fz hfz hL
   refine Ba W QDA QDB (Yl e1) r' hd hJ (p1 o ys QFa) ?_;intros Λ2 s2 d z σ2 e2 p2 hz r2;refine q Λ2 s2 d z _ (YY e2) p2.2 hz ?_
   obtain ⟨o',ho',Q5K⟩:=(r2.ob l (QQ hx.1 e2.1))
   rw [p2.1]at Q5K
   cases Q5K
   exact QHA (by rw [<- QHB];exact QQ hx.1 e2.1) ho' (QHC e2)
  intros p1;refine CD.el p1 ?_;intros d0 hl0 p1
  ·obtain ⟨hd0,p1⟩:=p1
   have hd0':d0 < QDp:=by rw [QHD];exact hd0
   refine Q8o p1 ?_;intros Y4 hl p1
   ·skip
    obtain ⟨o,ho,hor⟩:=(r1.ob d0 hd0')
    rw [hl]at hor
    rw [hx.2]
    refine NE hA r1 hx.1 hl0 hd0' hl ho ?_;intros it' s' xq06
    obtain ⟨I,own,J,hI,W0,r',hfz,hL,hd,hJ⟩:=xq06
    subst hI
    have W:=W0 X0 fz hfz hL
    refine Ba W QDA QDB (Yl e1) r' hd hJ (p1 o) ?_;intros Λ2 s2 d z σ2 e2 p2 hz r2;refine q Λ2 s2 d z _ (YY e2) p2.2 hz ?_
    obtain ⟨o',ho',Q5K⟩:=(r2.ob d0 (QQ hd0' e2.1))
    rw [p2.1]at Q5K
    cases Q5K
    exact QHA (by rw [<- QHB];exact QQ hd0' e2.1) ho' (QHC e2)
theorem Jk {tg x:Qf} {fn:X6} {p p':Pos} {bo:QC YW} {XH:Pos} {P:Fl->St->Prop} (hc:Q3M) (hg:GlOk c gl) (hA:AOk A) (hf:Bd c A X0 fm f) (ha:E5 c A X0 fm a) (hb:LO c A X0 fm b) (hn:fn="enumerate") (hs:B2 x=QJ)
  (h:BI gl fm fn σ fun fv σ=>fv=.imm (.Qk "enumerate")/\f x σ fun v σ=>Ai v fun l=>Gl (a tg) (b bo) tg (.enum l) σ P):Zq c A X0 fm Λ (QFu (.For tg (.QAm (.Q0v fn p) [x] [] p') bo [] XH) X0) FR σ P:=by
 injections c A X0 fm Λ σ f a b gl tg x fn p p' bo XH P _ _ _ _ _ _ _ _ _
 subst hn
 refine Zn ?_;intros fz s ok r Q E q;refine wpAny_For (Call_ (wpAny_Name (Fv hc hg (by decide) h fz s _ E ok r ?_) (by decide))) fun _=>QA;intros Λ1 s1 v y σ1 e1 p1 hx r1
 obtain ⟨QA,p1⟩:=p1
 cases hx
 have QGP:((Q7l p' (Q37 [x] X0)).any (·.1) || ([]:QC (QW X6×Sem QI)).any (·.1.QC7))=QJ:=by
  rw [AN (by simp [Am,hs])];simp
 refine QFS (P:=fun h=>∃k,(k=Q9o\/k=Q7m\/k=Q5l)/\ZL (Qi XI c.w) h (QFR (.Qk "enumerate")) k) QGP (fun _ h=>h) ?_
 rw [AN (by simp [Am,hs])]
 refine QC9 (spliced_cons (hf x Λ1 σ1 _ p1 fz s1 _ E (Yl e1) r1 ?_));intros Λ2 s2 v y σ2 e2 p2 hy r2;refine spliced_nil ?_
 refine ⟨⟨.QBf,.inr (.inl QA),QDW⟩,?_⟩
 ·refine Q1W p2 ?_;intros l ev p2
  subst ev
  refine Q4n p2 ?_;intros xs hl p2
  ·obtain ⟨ht,p2⟩:=p2
   obtain ⟨QA,g1,vs,n,a1,a2⟩:=(r2.listsV hy hl)
   refine call_enumerate_list (Al a1) ?_;intros h' he hi hsz hk;refine wpAny_pyIter_enum he ?_
   cases tg with
   | Zp elts kk tpos =>
    have hbig:∀b,b=XW+1\/b=XW->XW<=b:=fun b hb=>by rcases hb with QA | QA <;> (first | exact EA | exact SP)
    have fzn:∀b,XW<=b->fz b=QG:=by
     intros b hb
     cases hq:fz b with
     | QG=>rfl
     | QB o=>exact Xc (Qz (r2.keep _ _ hq)) (ZI hb)
    have r3:Rel c fz Qo Λ2 σ2 {s2 with YL:=h'}:=r2.grow (tk:=QHE) (dr:=s2.drawn) hk
    refine Iy hA (fun x Λ σ P v hv h=>ha (.Zp elts kk tpos) x v Λ σ P hv h) (fun Λ σ P h=>hb bo Λ σ P h) ((Yl e1).ext e2) r3 hy.1 (Nat.succ_ne_self _) (fzn _ (Q1B _)) (fzn _ (Qh _)) (Y5 (Q2O r2.Llt)) (Y5 r2.Llt) ?_ he hi p2 fun Λ3 s3 d z σ3 e3 p3 hz r3=>q Λ3 s3 d z σ3 ((YY e2).QR e3) p3 hz r3;intros l' hl' hm
    obtain ⟨o,ho,_⟩:=(r2.ob l' hl')
    have hlt:Λ2.f l' < XW:=Qz ho
    rcases XP hm with hm | hm
    ·rw [hm]at hlt;exact Xc (Q3o hlt) (XY _)
    ·rw [Qe hm]at hlt;exact XY _ hlt
   | _=>exact Xc ht Qj
end
end
end Mini
end
section
open PySem PySem.W PySem.Calls PyProof.Rows
set_option genInjectivity false
set_option genSizeOf false
namespace Mini
open Classical in
noncomputable def fzN (Λ:Lab) (h:Heap):Addr->Option Obj:=fun b=>if ∃l,l < Λ.n/\Λ.f l=b then none else h.get? b
section
variable {c:Cx} {fz:Addr->Option Obj} {L L':Addr} {Λ Λ':Lab} {σ σ':St} {s s':Shared}
mutual
theorem B3 {b:Qq} {o:ZC} {h:ZP} (e:fzN Λ h b=QB o):Q03 b=QB o:=by
 injections Λ b o h _
 unfold fzN at e
 split at e
 ·cases e
 ·exact e
theorem DH {b:Qq} {o:ZC} {h:ZP} (e:Q03 b=QB o) (hn:∀l,l < Xh->Xr l≠b):fzN Λ h b=QB o:=by
 unfold fzN
 rw [QN]
 ·exact e
 ·rintro ⟨l,hl,e'⟩;exact hn l hl e'
theorem Rel.fz_unl (r:Rel c fz L Λ σ s) {b:Qq} {o:ZC} (e:fz b=QB o):∀l,l < Xh->Xr l≠b:=fun l hl q=>by
 have:=r.fzl l hl
 rw [q,e]at this;cases this
theorem Rel.enter (r:Rel c fz L Λ σ s) {loc:X6->QW QU} {m:X6->QW QI} (hos:s'.os=s.os) (hgn:s'.gens=s.gens) (hk:∀b o,Qc b=QB o->Q3p b=QB o) (hL:QD<=L') (hn:s'.heap.Ns L' m) (hl:∀x,OV Λ (loc x) (m x)) :
  Rel c (fzN Λ QV) L' Λ {σ with loc:=loc} s' where
 nn:=Q3a
 ns:=⟨m,hn,hl⟩
 Q4V:=fun b o e=>hk b o (B3 e)
 Q8Z:=fun b o e=>DH (Q0H b o e) (QFv (Q9L b o e))
 fzL:=by
  cases q:fzN Λ QV L' with
  | QG=>rfl
  | QB o=>exact Xc (Qz (B3 q)) (ZI hL)
 ob:=fun l h=>let ⟨o,a,b⟩:=Q36 l h;⟨o,hk _ _ a,b⟩
 fzl:=fun l h=>by unfold fzN;rw [QY ⟨l,h,QA⟩]
 lne:=fun l h q=>by
  refine ew1 (Q36 l h) fun o yq3b=>?_;refine an2 yq3b fun a b=>?_;clear yq3b
  exact Xc (Qz a) (by rw [q];exact ZI hL)
 inj:=r.inj
 Q4p:=Y1 QEf (Y1 (XD QDl) hL)
 low:=QQ (Q1F r.low QDl) hL
 nsm:=QDd
 os:=hos.trans r.os
 Q0L:=hgn.trans r.gens
theorem Rel.leave (r:Rel c fz L Λ σ s) (r':Rel c (fzN Λ QV) L' Za XF s') (e:Q0A Za):Rel c fz L Za {XF with loc:=Xv} s':=by
 injections c fz L L' Λ Za σ XF s s' _ _ _
 have sub:∀b o,fz b=QB o->fzN Λ QV b=QB o:=fun b o h=>DH (QET b o h) (QFv h)
 have hLs:∀o,Qc L=QB o->fzN Λ QV L=QB o:=fun o h=>DH h r.lne
 refine {nn:=r'.nn,ns:=?_,Q4V:=fun b o h=>QEg b o (sub b o h),Q8Z:=Q9L,fzL:=r.fzL,ob:=QFq,fzl:=fun l hl=>?_,lne:=fun l hl q=>?_,inj:=QGW,Q4p:=QEf,low:=r.low,nsm:=r'.nsm,os:=r'.os,Q0L:=r'.gens}
 ·obtain ⟨m,h,k⟩:=r.ns
  exact ⟨m,h.at' fun o e=>QEg _ _ (hLs o e),fun x=>(k x).ext e⟩
 ·cases q:fz (Q4W l) with
  | QG=>rfl
  | QB o=>have:=sub _ _ q;rw [QGX l hl]at this;cases this
 ·obtain ⟨m,⟨o,es,ep,h,_⟩,k⟩:=r.ns
  have:=hLs o h
  rw [<- q,QGX l hl]at this;cases this
end
end
mutual
structure Q83 (K:Q1A) (f:Qq) (fd:QFw) (YZ:QC YW) (xs:QC X6) (dv:QC (X6×QI)):Prop where
 at':∃oc od osl,Q9n f=QB ⟨oc,od,.Q7Y fd,osl⟩
 Q0o:codeIn K QA5 fd.qualname=QM
 co:fd.scope.isCoroutine=QJ
 gen:fd.scope.isGenerator=QJ
 YZ:fd.body=.Q5e YZ
 clo:fd.closure=[]
 gl:fd.globals=Q3W
 bl:fd.builtins=Q6e
 kd:fd.scope.kind=.Q35
 QA6:∀S as,as.length=Qn->peek K S (bindArgs fd ⟨as,[]⟩)=QB (Q9R as++dv)
def AK (xs:QC X6) (vs:QC QU) (dv:QC (X6×QI)):QC (X6×QU):=Q9R vs++QAr fun p=>(p.1,.imm p.2)
def Lo:Fl->QU
 | .ret v=>v
 | _=>.QG
inductive BR (Λ:Lab):QC (X6×QU)->QC (X6×QI)->Prop
 | Zl:BR Λ [] []
 | Xu {x:X6} {v:QU} {c:QI} {r:QC (X6×QU)} {q:QC (X6×QI)}:VR Λ v c->BR Λ r q->BR Λ ((x,v)::r) ((x,c)::q)
theorem BR.append {Λ:Lab} {a b:QC (X6×QU)} {a' b':QC (X6×QI)} (h:BR Λ a a') (k:BR Λ b b'):BR Λ (a++b) (a'++b'):=by
 induction h with
 | Zl=>exact k
 | Xu h _ ih=>exact .Xu h ih
theorem BR.rev {Λ:Lab} {a:QC (X6×QU)} {a':QC (X6×QI)} (h:BR Λ a a'):BR Λ a.reverse a'.reverse:=by
 induction h with
 | Zl=>exact .Zl
 | Xu h _ ih=>rw [Q0V,Q0V];exact ih.append (.Xu h .Zl)
theorem BR.lookup {Λ:Lab} {a:QC (X6×QU)} {a':QC (X6×QI)} (h:BR Λ a a') (x:X6):OV Λ (a.lookup x) (a'.lookup x):=by
 induction h with
 | Zl=>trivial
 | @Xu y v c r q h _ ih =>
  rw [Z1,Z1]
  cases x == y with
  | QM=>exact h
  | QJ=>exact ih
theorem QGY {Λ:Lab}:∀ {xs:QC X6} {vs:QC QU} {as:QC QI},VRs Λ vs as->BR Λ (Q9R vs) (Q9R as)
 | [],_,_,_=>.Zl
 | _::_,_,_,.Zl=>.Zl
 | x::xs,_,_,.Xu h k=>.Xu h (QGY k)
theorem QGZ {Λ:Lab}:∀(dv:QC (X6×QI)),BR Λ (QAr fun p=>(p.1,.imm p.2)) dv
 | []=>.Zl
 | p::r=>.Xu QA (QGZ r)
end
end Mini
end
section
open PySem PySem.W PySem.Calls PyProof.Rows
namespace Mini
section
variable {c:Cx} {A:Around} {env:Env} {fm:Fm} {Λ:Lab} {σ:St}
mutual
theorem K0 {e:Qf} (h:Bv e=QJ) (x:QI):QA4 e X0 x=ZU x:=by
 cases e <;> first | rfl | exact Xc QGO Qj
theorem Hf:∀(ifs:QC Qf) {s:QZ} {Q:Qu->QZ->Prop} {E:QI->QZ->Prop},Q QJ s->Qp (Qi XI c.w) A (QFx ifs QJ fun c r=>if r=QM then do let ok <- Q7V c X0 (Q2j c X0);ZU (ZW ok) else ZU (ZW r)) Q E s
 | [],s,Q,E,h=>by rw [Q2a];exact QF h
 | x::r,s,Q,E,h=>by
  rw [Q19]
  simp only [XQ,Zf,Q4I]
  exact Hf r h
abbrev HM (ifs:QC Qf) (X0:Env):Sem Qu:=QFx ifs QM fun c r=>if r=QM then do let ok <- Q7V c X0 (Q2j c X0);ZU (ZW ok) else ZU (ZW r)
theorem KA {t:Qf->PT Qu} (ht:∀e Λ σ P,t e σ P->Zq c A X0 fm Λ (Q7V e X0 (Q2j e X0)) ER σ P):∀(ifs:QC Qf) {Λ:Lab} {σ:St} {P:Qu->St->Prop},BL t .And ifs σ P->Zq c A X0 fm Λ (HM ifs X0) ER σ P
 | [],Λ,σ,P,h=>by unfold HM;rw [Q2a];exact Ze (b:=QM) h QA
 | x::r,Λ,σ,P,h=>by
  unfold HM
  rw [Q19]
  simp only [Q5m,QCH,Q4I]
  refine YK (ht x Λ σ _ h) fun Λ1 b y σ1 e1 p1 hx=>?_
  cases hx
  cases b with
  | QM=>exact KA ht r p1
  | QJ=>exact fun fz s Q E ok rr q=>Hf r (q Λ1 s _ _ σ1 (.Q1H _) p1 QA rr)
theorem Oz {elt:Qf} {Q0L:QC Qx} {Qv:Q0J} {XH:Pos} {Q0m:QH} {it acc:QI} {g:Qx} {s:QZ} {Q:Fin->QZ->Prop} {E:QI->QZ->Prop} (hg:Q0L[Q0m]?=QB g) (ha:Q6v=0)
  (h:Qp (Qi XI c.w) A (Q3P it) (fun r Q1m=>match r with
   | QG=>Q (.Q4x .YC) Q1m
   | QB v=>Qp (Qi XI c.w) A (Q7G Q3E it v) (fun _ Q1m=>Qp (Qi XI c.w) A (Q2J Q3E X0 v) (fun _ QCI=>Qp (Qi XI c.w) A (HM QBL X0) (fun ok QAg =>
     if ok=QM then (match Q0L[Q0m+1]? with
      | QB g'=>Qp (Qi XI c.w) A (Q2j Q50 X0) (fun x QAi=>Qp (Qi XI c.w) A (Q4h x) (fun it' QEh=>Qp (Qi XI c.w) A (runOwn (.QAs (.ZB elt Q0L Qv XH) (Q0m+1) it' acc X0) X0) (fun _ s₆=>Q (.QBH (.QA7 (.ZB elt Q0L Qv XH) Q0m it acc X0)) s₆) E QEh) E QAi) E QAg
      | QG=>Qp (Qi XI c.w) A (Q2j elt X0) (fun x QAi=>Qp (Qi XI c.w) A (Q0M (.Qd "list.append") [acc,x]) (fun _ QEh=>Q (.QBH (.QA7 (.ZB elt Q0L Qv XH) Q0m it acc X0)) QEh) E QAi) E QAg)
     else Q (.QBH (.QA7 (.ZB elt Q0L Qv XH) Q0m it acc X0)) QAg) E QCI) E Q1m) E Q1m) E s)
  (hs:∀g',Q0L[Q0m+1]?=QB g'->QFy=0/\Bv Q50=QJ):Qp (Qi XI c.w) A (QFz (.ZB elt Q0L Qv XH) Q0m it acc X0) Q E s:=by
 injections c A X0 elt Q0L Qv XH Q0m it acc g s Q E _ _ _ _
 unfold QFz
 dsimp only
 rw [hg]
 dsimp only
 rw [ha]
 simp only [show ((0:X3) != 0)=QJ from QA,XQ,Zf]
 refine Q9 (Q0j (Q9 (YX h ?_ fun _ _ x=>x)));intros r Q1m Q1Q
 cases r with
 | QG=>exact QF Q1Q
 | QB v =>
  injections v zI
  dsimp only at Q1Q ⊢
  refine Q9 (YX Q1Q ?_ fun _ _ x=>x);intros u1 Q1m Q1Q
  refine Q9 (YX Q1Q ?_ fun _ _ x=>x);intros u2 QCI QCM
  refine Q9 (YX QCM ?_ fun _ _ x=>x);intros ok QAg QBR
  cases ok with
  | QJ=>exact QF QBR
  | QM =>
   simp only [Q5m]at QBR ⊢
   cases hq:Q0L[Q0m+1]? with
   | QG =>
    rw [hq]at QBR
    exact Q9 (Q9 (YX QBR (fun x QAi h₄=>Q9 (YX h₄ (fun _ QEh h₅=>QF (QF h₅)) fun _ _ x=>x)) fun _ _ x=>x))
   | QB g' =>
    injections g' zI
    rw [hq]at QBR
    obtain ⟨a1,a2⟩:=hs g' hq
    dsimp only at QBR ⊢
    rw [a1]
    simp only [show ((0:X3) != 0)=QJ from QA,XQ,Zf]
    refine Q9 (YX QBR ?_ fun _ _ x=>x);intros x QAi h₄;refine Q9 (Q0j (Q9 (Zi (K0 a2 x) (Q9 (XX (YX h₄ (fun it' QEh h₅=>?_) fun _ _ x=>x))))))
    exact Q9 (YX h₅ (fun _ s₆ h₆=>QF h₆) fun _ _ x=>x)
end
end
end Mini
end
section
open PySem PySem.W PySem.Calls PyProof.Rows
namespace Mini
section
variable {c:Cx} {A:Around} {env:Env} {fm:Fm} {Λ:Lab} {σ:St}
mutual
theorem Ip {elt:Qf} {Q0L:QC Qx} {Qv:Q0J} {XH:Pos} {Q0m:QH} {I:Qq} {acc:QI} {g:Qx} {s:QZ} {R:Q7w->QZ->Prop} (hg:Q0L[Q0m]?=QB g) (ha:Q6v=0)
  (QFe:∀(Q:QI->QZ->Prop) (E:QI->QZ->Prop),Q (.QP I) s->Qp (Qi XI c.w) A (Q4h (.QP I)) Q E s)
  (h0:Q1J (Qi XI c.w) A (.QA7 (.ZB elt Q0L Qv XH) Q0m (.QP I) acc X0) R s):Q1J (Qi XI c.w) A (.QAs (.ZB elt Q0L Qv XH) Q0m (.QP I) acc X0) R s:=by
 refine Q28 ?_
 show Qp _ _ ((QAs (.ZB elt Q0L Qv XH) Q0m (.QP I) acc X0).QH3 (fun x=>do QDh x X0;QGr theWindowsPlace)) _ _ s
 refine wpAny_notedAt ?_
 unfold QAs
 have hcl:(clausesOf (.ZB elt Q0L Qv XH))[Q0m]?=QB g:=hg
 rw [hcl]
 simp only [Q84,ha,show ((0:X3) != 0)=QJ from QA,XQ,Zf]
 refine Q9 (Q1l (QDf ?_))
 split
 ·exact QF (QAt QA h0)
 ·exact Q9 (Q0X (Q9 (Q0j (Q9 (QFe _ _ (QF (QAt QA h0)))))))
theorem Ky {v:QU} {x:QI} {its:QC QU} {st:St->Prop} {fz:Qq->QW ZC} {s:QZ} {Q:QI->QZ->Prop} {E:QI->QZ->Prop} (hA:AOk A) (r:Rel c fz Qo Λ σ s) (hv:VR Λ v x) (h:Cn v σ (its,st))
  (q:∀it s',Gb c A X0 Λ fz σ its st it s'->Q it s'):Qp (Qi XI c.w) A (Q4h x) Q E s:=by
 injections c A X0 Λ σ v x its st fz s Q E _ _ _ _ _
 obtain ⟨l,QA,⟨xs,e,h⟩ | ⟨xs,e,h⟩ | ⟨a,b,k,e,hh,h⟩⟩:=h
 ·cases h;exact KU hA r hv e q
 ·cases h;exact IY hA r hv e q
 ·cases h
  obtain ⟨o,ho,hor⟩:=(Q36 l hv.1)
  rw [e]at hor
  obtain ⟨t1,t2,t3,QA⟩:=hor
  rw [hv.2]
  exact IZ hA r ho hh.1 hh.2 q
def pGN (f:Qf->PT QU) (t:Qf->PT Qu) (a:Qf->QU->PT YV) (acc:QH) (elt:Qf) (gs:QC Qx) (Q:St->Prop):St->Prop:=fun σ=>match gs with
 | []=>f elt σ fun v σ=>Bx [.QP acc,v] σ fun _ σ=>Q σ
 | g'::_=>Bv Q50=QJ/\f Q50 σ fun v σ=>∃its st,Cn v σ (its,st)/\CO f t a acc elt gs its st σ fun _ σ=>Q σ
def pGT (f:Qf->PT QU) (t:Qf->PT Qu) (a:Qf->QU->PT YV) (acc:QH) (elt:Qf) (g:Qx) (gs:QC Qx):QU->PT Fl:=fun x σ P=>a Q3E x σ fun _ σ=>BL t .And QBL σ fun ok σ =>
 (ok=QJ->P .YC σ)/\(ok=QM->pGN f t a acc elt gs (P .YC) σ)
theorem MX {f:Qf->PT QU} {t:Qf->PT Qu} {a:Qf->QU->PT YV} (hA:AOk A) (hf:Bd c A X0 fm f) (ht:GD c A X0 fm t) (has:E5 c A X0 fm a) {elt:Qf} {Q0L:QC Qx} {Qv:Q0J} {XH:Pos} {acc:QH} (hasy:∀g∈Q0L,Q6v=0/\Bv Q6A=QJ) :
  ∀(gs:QC Qx) (Q0m:QH),Q8T Q0m=gs->∀ {Λ:Lab} {σ:St} {fz:Qq->QW ZC} {I:Qq} {own:QC Qq} {Xq:QC QU} {Q3D:St->Prop} {J:QH->ZP->Prop} {s:QZ} {R:Q7w->QZ->Prop} {P:YV->St->Prop} {Q6x:QI},
   It c A X0 Λ fz I own Xq Q3D J->Q4q X0 fm Λ->Rel c fz Qo Λ σ s->(∀l,l < Xh->Xr l∉own)->J 0 QV->VR Λ (.QP acc) Q6x->CO f t a acc elt gs Xq Q3D σ P ->
   (∀Za s' XF,Q0A Za->P () XF->Rel c fz Qo Za XF s'->R (.ok .YC) s')->Q1J (Qi XI c.w) A (.QA7 (.ZB elt Q0L Qv XH) Q0m (.QP I) Q6x X0) R s:=by
 injections c A X0 fm f t a _ _ _ _ elt Q0L Qv XH acc _
 intros gs
 induction gs with
 | Zl =>
  intros Q0m hd Λ σ fz I own Xq Q3D J s R P Q6x W ok r hdis hJ QBV h q;exact Q1P h
 | @Xu g gs ih =>
  revert g gs;intros g gs ih Q0m hd Λ σ fz I own Xq Q3D J s R P Q6x W ok r hdis hJ QBV h q
  have hgd:Q0L[Q0m]?=QB g:=by
   have:(Q8T Q0m)[0]?=QB g:=by rw [hd];rfl
   rw [Q3S]at this;simpa using this
  have hgs:Q8T (Q0m+1)=gs:=by
   have:(Q8T Q0m).Q9M 1=gs:=by rw [hd];rfl
   rw [List.drop_drop]at this;exact this
  have hnx:Q0L[Q0m+1]?=gs.head?:=by
   have:(Q8T (Q0m+1))[0]?=gs.head?:=by rw [hgs];cases gs <;> rfl
   rw [Q3S]at this;simpa using this
  have QD5:∀g'∈gs,g'∈Q0L:=fun g' hg'=>Q85 (by rw [hgs];exact hg')
  have hgm:g∈Q0L:=Q85 (i:=Q0m) (by rw [hd];exact .Zc _)
  replace h:AS Q3D (pGT f t a acc elt g gs) Xq σ fun _ σ=>P () σ:=h
  have hset:∀g',Q0L[Q0m+1]?=QB g'->QFy=0/\Bv Q50=QJ:=fun g' e=>hasy g' (XE e)
  refine QD9 QA (fun k s'=>∃i Za XF,k=Yc+1 - i/\i<=Yc/\Q0A Za/\Rel c fz Qo Za XF s'/\(∀l,l < QDP->Q4W l∉own)/\J i Q4S/\AS Q3D (pGT f t a acc elt g gs) (Q2Y i) XF (fun _ σ=>P () σ)) ?_ _ ⟨0,Λ,σ,QA,XT _,.Q1H _,r,hdis,hJ,h⟩
  intros k Q1m Q2T
  obtain ⟨i,Q5s,Q7H,QA,hi,Q6T,r₁,Q7x,QFl,Q1Q⟩:=Q2T
  show Qp _ A ((QFz (.ZB elt Q0L Qv XH) Q0m (.QP I) Q6x X0).QH3 (fun x=>do QDh x X0;QBQ x)) _ _ Q1m
  refine QFk (Oz hgd (hasy g hgm).1 ?_ hset)
  cases hx:Xq[i]? with
  | QG =>
   have Q2U:i=Yc:=by have:=Q29 hx;exact Kw hi this
   subst Q2U
   rw [Q4H]at Q1Q
   refine QCQ Q5s Q7H Q1m _ _ Q6T r₁ Q1Q.1 QFl ?_;intros h' tk dr hk
   exact q Q5s _ Q7H Q6T Q1Q.2 (Q3m QBK QDi Q7x hk)
  | QB x =>
   injections x zI
   obtain ⟨hlt,hxe⟩:=QX hx
   have Q6U:Q2Y i=x::Q2Y (i+1):=by rw [YM hlt,hxe]
   rw [Q6U]at Q1Q
   refine W.next i x Q5s Q7H Q1m _ _ Q6T r₁ Q1Q.1 QFl hx ?_;intros v h' tk dr hv hJ' hk
   have r₂:=Q3m (tk:=tk) (dr:=dr) QBK QDi Q7x hk
   have r₃:=r₂.hold QBK QDi Q7x
   have fin:∀Q4r QAi Q4s,Λ₁.Ext Q4r->AS Q3D (pGT f t a acc elt g gs) (Q2Y (i+1)) Q4s (fun _ σ=>P () σ)->Rel c (fzO fz own h') Qo Q4r Q4s QAi->∃m,m < Yc+1 - i/\∃i Za XF,m=Yc+1 - i/\i<=Yc/\Q0A Za/\Rel c fz Qo Za XF QAi/\(∀l,l < QDP->Q4W l∉own)/\J i QDk/\AS Q3D (pGT f t a acc elt g gs) (Q2Y i) XF (fun _ σ=>P () σ):=by
    intros Q4r QAi Q4s Q8f hP r₄
    obtain ⟨Q9K,QDj,QCS⟩:=(r₄.free Q9L QBK (QH6 _ _ hJ'))
    exact ⟨Yc+1 - (i+1),by exact Ig hlt,i+1,Q4r,Q4s,QA,hlt,Q5M Q8f,Q9K,QCS,QH7 _ _ _ hJ' QDj,hP⟩
   refine W.go (i+1) Q3E v _ _ _ hJ' ?_
   refine has Q3E x v Q5s Q7H _ hv Q1Q.2 _ _ _ _ (Yl Q6T) r₃ ?_;intros QH4 QCI u1 u2 QH5 QCR QFm u3 QFn
   refine KA ht QBL QFm _ _ _ _ ((Yl Q6T).ext QCR) QFn ?_;intros Λ₃ QAg b bb QHF e₃ hP₃ hb r₃'
   cases hb
   cases b with
   | QJ =>
    rw [QN Qj]
    exact .inl ⟨QA,fin Λ₃ QAg QHF (Q6y e₃) (hP₃.1 QA) r₃'⟩
   | QM =>
    rw [QY QA]
    have hPt:=hP₃.2 QA
    have ok₃:=((Yl Q6T).ext QCR).ext e₃
    rw [hnx]
    cases gs with
    | Zl =>
     refine hf elt Λ₃ QHF _ hPt _ _ _ _ ok₃ r₃' ?_;intros Q4r QAi y yv Q4s Q8f QG0 hy r₄
     refine Fw (.Xu (((QA8 Q6T).ext (Q6y e₃)).ext Q8f) (.Xu hy .Zl)) QG0 _ _ _ _ (ok₃.ext Q8f) r₄ ?_;intros Λ₅ QEh u4 u5 σ₅ e₅ hP₅ u6 Q9K
     exact .inl ⟨QA,fin Λ₅ QEh σ₅ (((Q6y e₃).QR Q8f).QR e₅) hP₅ Q9K⟩
    | Xu g' gs' =>
     injections g' gs' zI
     have hPu:Bv Q50=QJ/\f Q50 QHF fun v σ=>∃its st,Cn v σ (its,st)/\CO f t a acc elt (g'::gs') its st σ fun _ σ=>AS Q3D (pGT f t a acc elt g (g'::gs')) (Q2Y (i+1)) σ fun _ σ=>P () σ:=hPt
     refine hf Q50 Λ₃ QHF _ hPu.2 _ _ _ _ ok₃ r₃' ?_;intros Q4r QAi y yv Q4s Q8f QG0 hy r₄
     obtain ⟨its,st,hw,QG0⟩:=QG0
     refine Ky hA r₄ hy hw ?_;intros it' QEh Q6g
     obtain ⟨I',own',J',hI,W0,Q9K,hfz,hL,hd',hJ'⟩:=Q6g
     subst hI
     have W':=W0 X0 _ hfz hL
     refine wpAny_runOwn (Ip (g:=g') (by rw [hnx];rfl) (hset g' (by rw [hnx];rfl)).1 (fun Q E hq=>W'.self 0 QEh Q E hJ' hq) ?_)
     refine ih (Q0m+1) hgs W' (ok₃.ext Q8f) Q9K hd' hJ' (((QA8 Q6T).ext (Q6y e₃)).ext Q8f) QG0 ?_;intros Λ₆ s₆ σ₆ e₆ hP₆ r₆
     exact .inl ⟨QA,fin Λ₆ s₆ σ₆ (((Q6y e₃).QR Q8f).QR e₆) hP₆ r₆⟩
end
end
end Mini
end
section
open PySem PySem.W PySem.Calls PyProof.Rows
namespace Mini
open Classical in
noncomputable def fzX (own:List Addr) (fz:Addr->Option Obj):Addr->Option Obj:=fun b=>if b∈own then none else fz b
section
variable {c:Cx} {fz:Addr->Option Obj} {L L':Addr} {Λ Λ':Lab} {σ σ':St} {s s':Shared} {own:List Addr}
mutual
theorem Rel.thaw (r:Rel c fz L Λ σ s) (h:∀b∈own,Q33 b=QG):Rel c (fzX own fz) L Λ σ s where
 nn:=Q3a
 ns:=r.ns
 Q4V:=fun b o e=>by
  unfold fzX at e
  split at e
  ·cases e
  ·exact QET b o e
 Q8Z:=fun b o e=>by
  unfold fzX
  split
  ·rename_i hb;rw [h b hb]at e;cases e
  ·exact Q9L b o e
 fzL:=by unfold fzX;split <;> first | rfl | exact r.fzL
 ob:=Q36
 fzl:=fun l hl=>by unfold fzX;split <;> first | rfl | exact r.fzl l hl
 lne:=r.lne
 inj:=r.inj
 Q4p:=QEf
 low:=r.low
 nsm:=QDd
 os:=r.os
 Q0L:=r.gens
theorem It.ext {A:Q2t} {X0:Env} {I:Qq} {Xq:QC QU} {Q3D:St->Prop} {J:QH->ZP->Prop} (W:It c A X0 Λ fz I own Xq Q3D J) (e:Q0A Za):It c A X0 Za fz I own Xq Q3D J :=
 {QCA:=QH7,QCP:=QH6,fzo:=QBK,noL:=QDi,go:=W.go,Q1e:=W.self,
  YC:=fun i x QFI σ s Q E e'=>W.next i x QFI σ s Q E (QBe e'),
  Q4x:=fun QFI σ s Q E e'=>QCQ QFI σ s Q E (QBe e')}
theorem Rel.leaveX {QCM h':ZP} (r:Rel c (fzO fz own QCM) L Λ σ s) (hfz:∀b∈own,fz b=QG) (hLo:L∉own) (hb:∀b o,Q33 b=QB o->fz b=QB o) (hfL:fz L=QG) (hl0:∀l,l < Xh->fz (Xr l)=QG)
  (r':Rel c (fzX own (fzN Λ QV)) L' Za XF s') (e:Q0A Za) (hL':QD<=L') (hs:Z8 L' Q4S h'):Rel c fz L Za {XF with loc:=Xv} {s' with YL:=h'}:=by
 injections c fz L L' Λ Za σ XF s s' own QCM h' _ _ _ _ _ _ _ _ _ _
 have sub:∀b o,fz b=QB o->fzX own (fzN Λ QV) b=QB o:=by
  intros b o h
  have hbo:b∉own:=fun hm=>by rw [hfz b hm]at h;cases h
  have h3:fzO fz own QCM b=QB o:=by unfold fzO;rw [QN hbo];exact h
  unfold fzX
  rw [QN hbo]
  exact DH (QET b o h3) (QFv h3)
 have lt:∀b o,fzX own (fzN Λ QV) b=QB o->b≠L':=by
  intros b o h
  unfold fzX at h
  split at h
  ·cases h
  ·intros q;exact Xc (Qz (B3 h)) (by rw [q];exact ZI hL')
 have hLs:∀o,Qc L=QB o->fzX own (fzN Λ QV) L=QB o:=by
  intros o h
  unfold fzX;rw [QN hLo];exact DH h r.lne
 refine {nn:=r'.nn,ns:=?_,Q4V:=fun b o h=>(hs.2 b (lt _ _ (sub b o h))).QR (QEg b o (sub b o h)),Q8Z:=hb,fzL:=hfL,ob:=fun l hl=>?_,fzl:=fun l hl=>?_,lne:=fun l hl q=>?_,inj:=QGW,Q4p:=QEf,low:=r.low,nsm:=r'.nsm,os:=r'.os,Q0L:=r'.gens}
 ·obtain ⟨m,h,k⟩:=r.ns
  exact ⟨m,h.at' fun o e=>(hs.2 L (lt _ _ (hLs o e))).QR (QEg _ _ (hLs o e)),fun x=>(k x).ext e⟩
 ·obtain ⟨o,a,b⟩:=(QFq l hl)
  exact ⟨o,(hs.2 _ (r'.lne l hl)).QR a,b⟩
 ·cases q:fz (Q4W l) with
  | QG=>rfl
  | QB o=>have:=sub _ _ q;rw [QGX l hl]at this;cases this
 ·obtain ⟨m,⟨o,es,ep,h,_⟩,k⟩:=r.ns
  have:=hLs o h
  rw [<- q,QGX l hl]at this;cases this
end
end
mutual
theorem J2 {Λ:Lab} {X0:Env} {fm:Fm} (ok:Q4q X0 fm Λ):∀(Q41:QC (X6×Q2Z)) (acc cl:QC (X6×QH)),Ev Q8x Q41 acc=QB cl ->
  (QFx Q41 (QBj fun p=>(p.1,Xr p.2)) (fun (x:X6×Q2Z) (cs:QC (X6×Qq))=>if (x.2 == .QFr)=QM then do let a <- QGa X0 x.1;ZU (ZW ((x.1,a)::cs)) else ZU (ZW cs)):Sem _)=ZU (QCb fun p=>(p.1,Xr p.2))
 | [],acc,cl,h=>by cases h;rw [Q2a]
 | (n,k)::r,acc,cl,h=>by
  rw [Q19]
  have h:(if (k == .QFr)=QM then (match Q1w n with | QB l=>Ev Q8x r ((n,l)::acc) | QG=>QG) else Ev Q8x r acc)=QB cl:=h
  split at h
  ·rename_i hk
   cases hl:Q1w n with
   | QG=>rw [hl]at h;cases h
   | QB l =>
    rw [hl]at h
    have hc:QGa X0 n=ZU (Xr l):=by unfold QGa;rw [(QC4 n l hl).2]
    simp only [hk,Q5m,hc,Q4I]
    exact J2 ok r ((n,l)::acc) cl h
  ·rename_i hk
   simp only [hk,XQ,Zf,Q4I]
   exact J2 ok r acc cl h
theorem J1 {Λ:Lab} {X0:Env} {fm:Fm} (ok:Q4q X0 fm Λ) {Qv:Q0J} {cl:QC (X6×QH)} (h:Ev Q8x Q1L []=QB cl):closureFor Qv X0=ZU (QCb fun p=>(p.1,Xr p.2)):=by
 have:=J2 ok Q1L [] cl h
 simp only [Q4w]at this
 show (QFx Q1L [] (fun (x:X6×Q2Z) (cs:QC (X6×Qq))=>if (x.2 == .QFr)=QM then do let a <- QGa X0 x.1;ZU (ZW ((x.1,a)::cs)) else ZU (ZW cs)) >>= fun cs=>ZU cs:Sem _)=_
 rw [this,Q4I]
theorem J3 {Λ:Lab} {X0:Env} {fm:Fm} (ok:Q4q X0 fm Λ):∀(Q41:QC (X6×Q2Z)) (acc cl:QC (X6×QH)),Ev Q8x Q41 acc=QB cl->(∀p∈acc,p.2 < Xh)->∀p∈cl,p.2 < Xh
 | [],acc,cl,h,ha=>by cases h;exact ha
 | (n,k)::r,acc,cl,h,ha=>by
  have h:(if (k == .QFr)=QM then (match Q1w n with | QB l=>Ev Q8x r ((n,l)::acc) | QG=>QG) else Ev Q8x r acc)=QB cl:=h
  split at h
  ·cases hl:Q1w n with
   | QG=>rw [hl]at h;cases h
   | QB l =>
    rw [hl]at h
    exact J3 ok r _ cl h fun p hp=>by
     rcases XP hp with QA | hp
     ·exact (QC4 n l hl).1
     ·exact ha p hp
  ·exact J3 ok r acc cl h ha
theorem FO {Λ:Lab} {x:X6}:∀(cl:QC (X6×QH)) {l:QH},QAn x=QB l->(QCb fun p=>(p.1,Xr p.2)).QEi x=QB (Xr l)
 | [],l,h=>by simp at h
 | (n,k)::r,l,h=>by
  rw [XR,Z1]
  rw [Z1]at h
  cases hx:x == n with
  | QM=>rw [hx]at h;cases h;rfl
  | QJ=>rw [hx]at h;exact FO r h
end
end Mini
end
section
open PySem PySem.W PySem.Calls PyProof.Rows
namespace Mini
section
variable {c:Cx} {A:Around} {env:Env} {fm:Fm} {Λ:Lab} {σ:St}
mutual
theorem Et {Qv:Q0J} {Q0L:QC Qx} (h:Eu Qv Q0L=QM):Q9O=.Q35/\(∀x∈Q1L,x.2≠.YQ)/\(∀x∈Q1L,x.2=.Q5v->Q9P x.1=QB .Q5v)/\∀g∈Q0L,Q6v=0/\Bv Q6A=QJ:=by
 injections Qv Q0L _
 unfold Eu at h
 simp only [X7,List.all_eq_true]at h
 obtain ⟨⟨⟨h1,h2⟩,h3⟩,h4⟩:=h
 refine ⟨?_,fun x hx=>by simpa using h2 x hx,?_,fun g hg=>by simpa using h4 g hg⟩
 ·cases hk:Q9O <;> rw [hk]at h1 <;> first | rfl | cases h1
 ·intros x hx hl
  have:=h3 x hx
  rw [hl]at this
  simpa using this
theorem JA (ok:Q4q X0 fm Λ) (Qv:Q0J):QBk Qv X0=Aj Qv Zo:=by
 unfold QBk Aj Q9C
 rw [QC3]
theorem FK {x:X6} {l:QH}:∀ {cl:QC (X6×QH)},QAn x=QB l->(x,l)∈cl
 | [],h=>by simp at h
 | (n,k)::r,h=>by
  rw [Z1]at h
  cases hx:x == n with
  | QM=>rw [hx]at h;cases h;rw [Z0 hx];exact .Zc _
  | QJ=>rw [hx]at h;exact .Q31 _ (FK h)
theorem Hl {f0 f:Qf->PT QU} {t:Qf->PT Qu} {a:Qf->QU->PT YV} (hA:AOk A) (hf0:Bd c A X0 fm f0) {Qv:Q0J} {cl:QC (X6×QH)} (hin:∀QCc,Bd c A QCc ⟨Aj Qv Zo,cl,Q2M,Q2N⟩ f/\GD c A QCc ⟨Aj Qv Zo,cl,Q2M,Q2N⟩ t/\E5 c A QCc ⟨Aj Qv Zo,cl,Q2M,Q2N⟩ a)
  {elt:Qf} {g:Qx} {gs:QC Qx} {XH p:Pos} {use:QW (QI->Sem YV)} {Q:QI->QZ->Prop} {E:QI->QZ->Prop} {fz:Qq->QW ZC} {s:QZ} {P:QU->St->Prop} (ok:Q4q X0 fm Λ) (r:Rel c fz Qo Λ σ s)
  (hcl:Ev Q8x Q1L []=QB cl) (hco:Eu Qv (g::gs)=QM)
  (h:f0 Q6A σ fun v σ=>∃its st,Cn v σ (its,st)/\CO f t a QO elt (g::gs) its st {Qw (.Qs []) with loc:=fun _=>QG} fun _ XF=>P (.QP QO) {XF with loc:=Xv})
  (fin:∀Λ5 s5 σ5 b Q6x L',Q0A Λ5->P b σ5->VR Λ5 b Q6x->fz L'=QG->Qo≠L'->(∀l,l < Λ5.n->Λ5.f l≠L')->(∃m,s5.heap.Ns L' m)->(∀h',Z8 L' s5.heap h'->Rel c fz Qo Λ5 σ5 {s5 with YL:=h'})->compPost (Qi XI c.w) A E use Q Q6x L' (.ok .YC) s5) :
  Qp (Qi XI c.w) A (comprehension (.ZB elt (g::gs) Qv XH) Qv X0 p (newList []) QJ (Q2j Q6A X0) use) Q E s:=by
 injections c A X0 fm Λ σ f0 f t a _ _ Qv cl _ elt g gs XH p use Q E fz s P _ _ _ _ _ _
 obtain ⟨hkind,hnc,hnames,hasy⟩:=(Et hco)
 refine wpAny_comprehension_free (g:=g) (gs:=gs) QA (K0 (hasy g (.Zc _)).2) (J1 ok hcl) hkind hnames ?_
 refine hf0 Q6A Λ σ _ h fz s _ E ok r ?_;intros Λ1 s1 v x σ1 e1 p1 hx r1
 obtain ⟨its,st,hw,p1⟩:=p1
 refine Ky hA r1 hx hw ?_;intros it s2 Q2T
 obtain ⟨I,own,J,hI,W0,r2,hfz,hL,hd,hJ⟩:=Q2T
 subst hI
 have r2h:=r2.hold hfz hL hd
 refine Xk ?_ (show (0:QH)<=_ from XT _)
 have e3:=XL Λ1 XW
 have r3:=r2h.push (tk:=QHE) (o:=.Qs []) (co:={cls:=.Qk "list",YA:=.seq ([]:QC QI).Xe}) ⟨[],0,QA,.Zl⟩ QA
 have QBV:VR (Q6V XW) (.QP YB) (.QP XW):=Q1i _ QHB
 refine Q86 hnc (fun x hx=>by cases hx) ?_ hkind;intros h' hn hs
 have QAa:∀b∈own,b < XW:=fun b hb=>let ⟨o,ho⟩:=(W0 X0 fz hfz hL).QCP 0 _ hJ b hb;Qz ho
 have hsz3:(Q23 {cls:=.Qk "list",YA:=.seq ([]:QC QI).Xe}).YO=XW+1:=Q0u ..
 have hk:∀b o,(Q23 {cls:=.Qk "list",YA:=.seq ([]:QC QI).Xe}).QBP b=QB o->Z7 b=QB o:=fun b o e=>(hs.2 b (Y5 (Qz e))).QR (Qa _ e)
 have r4:=r3.enter (s':={s2 with YL:=h',Q0P:=QHE+([]:QC (X6×QI)).ZT}) (loc:=fun _=>QG) QA QA hk (Qh _) hn (fun x=>by simp only [List.reverse_nil,List.lookup_nil];exact ZN)
 have hg0:∀b∈own,Q33 b=QG:=by
  intros b hb
  cases q:Q33 b with
  | QG=>rfl
  | QB o=>have:=r2.base b o q;rw [hfz b hb]at this;cases this
 have r4':=r4.thaw hg0
 have hLo:(Q23 {cls:=.Qk "list",YA:=.seq ([]:QC QI).Xe}).YO∉own:=by
  intros hm
  have:=QAa _ hm
  rw [hsz3]at this
  exact XY _ (Q3o this)
 have ok':Q4q {newEnv Qv (Q23 {cls:=.Qk "list",YA:=.seq ([]:QC QI).Xe}).YO Q7g (QCb fun p=>(p.1,Xr p.2)) Q6W QG .QG (QB X0) 0 with Qv:=QBk Qv X0} ⟨Aj Qv Zo,cl,Q2M,Q2N⟩ (Q6V XW):=by
  refine ⟨JA ok Qv,QGs,ok.bl,hkind,?_,ok.cd,(Yl (YY e3)).tb⟩;intros x l hl
  have hlt:=J3 ok Q1L [] cl hcl (fun p hp=>by cases hp) (x,l) (FK hl)
  have e13:=YY e3
  exact ⟨QQ hlt e13.1,by rw [e13.2 l hlt];exact FO cl hl⟩
 have ok':=ok'
 have hd3:∀l,l < (Q6V XW).n->(Q6V XW).f l∉own:=by
  intros l hl hm
  by_cases hq:l=QDp
  ·have fs:(Q6V XW).f l=XW:=QY hq
   rw [fs]at hm
   exact XY _ (QAa _ hm)
  ·have hl2:l < QDp:=by have:l < QDp+1:=hl;exact BH hq this
   rw [e3.2 l hl2]at hm;exact hd l hl2 hm
 have W':=(W0 {newEnv Qv (Q23 {cls:=.Qk "list",YA:=.seq ([]:QC QI).Xe}).YO Q7g (QCb fun p=>(p.1,Xr p.2)) Q6W QG .QG (QB X0) 0 with Qv:=QBk Qv X0} (fzX own (fzN (Q6V XW) (Q23 {cls:=.Qk "list",YA:=.seq ([]:QC QI).Xe}))) (fun b hb=>by unfold fzX;rw [QY hb]) hLo).ext e3
 have hJ4:J 0 h':=W'.frame 0 _ _ hJ fun b hb o e=>hk b o (Qa _ e)
 have hin':=hin {newEnv Qv (Q23 {cls:=.Qk "list",YA:=.seq ([]:QC QI).Xe}).YO Q7g (QCb fun p=>(p.1,Xr p.2)) Q6W QG .QG (QB X0) 0 with Qv:=QBk Qv X0}
 refine Ip (c:=c) (g:=g) QA (hasy g (.Zc _)).1 (fun Q E hq=>W'.self 0 _ Q E hJ4 hq) ?_
 refine MX hA hin'.1 hin'.2.1 hin'.2.2 hasy (g::gs) 0 QA W' ok' r4' hd3 hJ4 QBV p1 ?_;intros Λ5 s5 σ5 e5 p5 r5
 refine fin Λ5 s5 _ _ _ _ ((YY e3).QR e5) p5 (QA8 e5) ?_ ?_ ?_ ?_ ?_
 ·cases q:fz (Q23 {cls:=.Qk "list",YA:=.seq ([]:QC QI).Xe}).YO with
  | QG=>exact q
  | QB o =>
   injections o zI
   have:=Qz (r2.keep _ _ q)
   rw [hsz3]at this
   exact Xc (Q3o this) (XY _)
 ·intros q
  have:=r2.Llt
  rw [q]at this
  have h2:XW+1 < XW:=by rw [<- hsz3];exact this
  exact Xc (Q3o h2) (XY _)
 ·exact fun l hl=>r5.lne l hl
 ·obtain ⟨m,hm,_⟩:=r5.ns;exact ⟨m,hm⟩
 ·intros h'' hs''
  exact r3.leaveX hfz hL r2.base r2.fzL (fun l hl=>by
   by_cases hq:l=QDp
   ·have fs:(Q6V XW).f l=XW:=QY hq
    rw [fs];exact r2.size_fz
   ·have hl2:l < QDp:=by have:l < QDp+1:=hl;exact BH hq this
    rw [e3.2 l hl2];exact r2.fzl l hl2) r5 e5 (Qh _) hs''
end
end
end Mini
end
section
open PySem PySem.W PySem.Calls PyProof.Rows
namespace Mini
section
variable {c:Cx} {A:Around} {env:Env} {fm:Fm} {Λ:Lab} {σ:St}
mutual
theorem K9 {f0 f:Qf->PT QU} {t:Qf->PT Qu} {a:Qf->QU->PT YV} (hA:AOk A) (hf0:Bd c A X0 fm f0) {Qv:Q0J} {cl:QC (X6×QH)} (hin:∀QCc,Bd c A QCc ⟨Aj Qv Zo,cl,Q2M,Q2N⟩ f/\GD c A QCc ⟨Aj Qv Zo,cl,Q2M,Q2N⟩ t/\E5 c A QCc ⟨Aj Qv Zo,cl,Q2M,Q2N⟩ a)
  {elt:Qf} {g:Qx} {gs:QC Qx} {XH:Pos} {P:QU->St->Prop} (h:Hb fm Qv cl f0 f t a elt g gs σ P):Zq c A X0 fm Λ (Q2j (.ZB elt (g::gs) Qv XH) X0) VR σ P:=fun fz s Q E ok r q=>by
 obtain (⟨h1,h2,h3⟩):=h
 rw [arm_eval_ListComp]
 have ha:firstAsync (g::gs)=QJ:=by
  have:=((Et h2).2.2.2 g (.Zc _)).1
  cases g;simp only at this;subst this;rfl
 have hi:firstIter (g::gs) X0=Q2j Q6A X0:=by cases g;rfl
 rw [ha,hi]
 refine Hl hA hf0 hin ok r h1 h2 h3 fun Λ5 s5 σ5 b Q6x L' e p hv k1 k2 k3 hm hR=>?_
 obtain (⟨m,hm⟩):=hm
 exact ⟨m,hm,fun h' hs=>q Λ5 _ b Q6x σ5 e p hv (hR h' hs)⟩
theorem Jq {tg elt:Qf} {Q0L:QC Qx} {Qv:Q0J} {XH:Pos} {n:QH}:∃b,Q8z [tg] (.ZB elt Q0L Qv XH) n X0=ZU b:=by
 unfold Q8z swapsWith
 cases tg <;> exact ⟨_,QA⟩
theorem PB {f0 f:Qf->PT QU} {t:Qf->PT Qu} {a a0:Qf->QU->PT YV} (hA:AOk A) (hf0:Bd c A X0 fm f0) (ha0:E5 c A X0 fm a0) {Qv:Q0J} {cl:QC (X6×QH)} (hin:∀QCc,Bd c A QCc ⟨Aj Qv Zo,cl,Q2M,Q2N⟩ f/\GD c A QCc ⟨Aj Qv Zo,cl,Q2M,Q2N⟩ t/\E5 c A QCc ⟨Aj Qv Zo,cl,Q2M,Q2N⟩ a)
  {tg elt:Qf} {g:Qx} {gs:QC Qx} {p XH:Pos} {P:Fl->St->Prop} (hst:B2 tg=QJ) (h:Hb fm Qv cl f0 f t a elt g gs σ fun v σ=>a0 tg v σ fun _ σ=>P .YC σ) :
  Zq c A X0 fm Λ (QFu (.Q6w [tg] (.ZB elt (g::gs) Qv p) XH) X0) FR σ P:=fun fz s Q E ok r q=>by
 obtain (⟨b,hb⟩):=Jq (X0:=X0) (tg:=tg) (elt:=elt) (Q0L:=g::gs) (Qv:=Qv) (XH:=p) (n:=Q0w)
 have hns:Am [tg]=QM:=by simp [Am,hst]
 rw [QBU,hb,A1 hns]
 simp only [XR,Q4w,Q4I]
 refine Q9 (Q0j ?_)
 cases b with
 | QJ =>
  rw [QN Qj]
  refine Q9 (K9 hA hf0 hin h fz s _ E ok r fun Λ1 s1 v x σ1 e1 p1 hx r1=>?_)
  rw [G8 (Yl e1) (by rfl)]
  refine Q9 (QF ?_)
  have hsw:BV Zo [tg] (.ZB elt (g::gs) Qv p)=QG:=by
   unfold BV S4
   cases tg <;> rfl
  rw [hsw]
  exact Q9 (ha0 tg v x Λ1 σ1 _ hx p1 fz s1 _ E (Yl e1) r1 fun Λ2 s2 _ _ σ2 e2 p2 _ r2=>QF (q Λ2 s2 .YC .YC σ2 (YY e2) p2 QA r2))
 | QM =>
  rw [QY QA,arm_evalThenUse_ListComp]
  obtain (⟨h1,h2,h3⟩):=h
  have ha:firstAsync (g::gs)=QJ:=by
   have:=((Et h2).2.2.2 g (.Zc _)).1
   cases g;simp only at this;subst this;rfl
  have hi:firstIter (g::gs) X0=Q2j Q6A X0:=by cases g;rfl
  rw [ha,hi]
  refine Q9 (Q9 (Hl (P:=fun v σ=>a0 tg v σ fun _ σ=>P .YC σ) hA hf0 hin ok r h1 h2 h3 fun Λ5 s5 σ5 b Q6x L' e p hv k1 k2 k3 hm hR=>?_))
  have r5:Rel c fz Qo Λ5 σ5 s5:=hR s5.heap (Q5p _ _)
  refine ew1 hm fun m yq5u=>?_;obtain (⟨o,es,ep,hL',hrest⟩):=yq5u
  have rH:=r5.hold (own:=[L']) (fun b hb=>by rw [Qe hb];exact k1) (fun hm=>k2 (Qe hm)) (fun l hl hm=>k3 l hl (Qe hm))
  refine ha0 tg b Q6x Λ5 σ5 _ hv p _ _ _ _ (Yl e) rH fun Λ6 s6 _ _ σ6 e6 p6 _ r6=>?_
  obtain (⟨r7,hk7,hd7⟩):=r6.free Q9L (fun b hb=>by rw [Qe hb];exact k1) (fun b hb=>by rw [Qe hb];exact ⟨o,hL'⟩)
  refine ⟨m,⟨o,es,ep,hk7 L' (.Zc _) o hL',hrest⟩,fun h' hs=>QF (QF ?_)⟩
  refine q Λ6 _ .YC .YC σ6 (QBe e6) p6 QA ?_
  exact r7.growOwn (own:=[L']) (tk:=s6.toks) (dr:=s6.drawn) (fun b hb=>by rw [Qe hb];exact k1) (fun hm=>k2 (Qe hm)) hd7 fun b o hb eb=>(hs.2 b (fun q=>hb (by rw [q];exact .Zc _))).QR eb
end
end
end Mini
end
section
open PySem PySem.W PySem.Calls PyProof.Rows
namespace Mini
mutual
theorem Ik (es:QC (QH×QH×QH)) (f:QH->Qq):TriplesOk (Q98 fun e=>[Zm e.1,Zm e.2.1,.QP (f e.2.2)]):=by
 induction es with
 | Zl=>trivial
 | Xu e r ih=>exact ih
theorem Lj (XH:Pos) (es:QC (QH×QH×QH)) (f:QH->Qq):QDq XH (Q98 fun e=>[Zm e.1,Zm e.2.1,.QP (f e.2.2)])=(AG XH es).map fun l=>.QP (f l):=by
 induction es with
 | Zl=>rfl
 | Xu e r ih =>
  rw [Q0R]
  show QDq XH (.Qm e.1 0::.Qm e.2.1 0::.QP (f e.2.2)::_)=_
  show (if _ then _ else QDq XH _)=Q97 _ (if _ then _ else AG XH r)
  split
  ·rfl
  ·exact ih
theorem Jp {XH:Pos} {n lc:QH} {es:QC (QH×QH×QH)}:(∀e∈es,e.2.2 < n)->AG XH es=QB lc->lc < n:=by
 induction es with
 | Zl=>exact fun _ h=>nomatch h
 | Xu e r ih =>
  intro hes hf
  have hf:(if ((e.1:X3) == Q0w&&(e.2.1:X3) == Q51)=QM then QB e.2.2 else AG XH r)=QB lc:=hf
  split at hf
  ·exact X1 hf▸hes e (.Zc _)
  ·exact ih (fun x hx=>hes x (.Q31 _ hx)) hf
end
section
variable {c:Cx} {A:Around} {env:Env} {fm:Fm} {Λ:Lab} {σ:St}
mutual
theorem Rel.gl_ne {fz:Qq->QW ZC} {L:Qq} {s:QZ} (hc:Q3M) (r:Rel c fz L Λ σ s) {a:Qq} {ps:XM QI} (h:Qc a=QB (QC0 ps)):Q3W≠a/\Q6e≠a:=by
 have hg:=QCd Q0H
 have hb:=hc.top.b.keeps Q0H
 constructor
 ·intro q
  obtain (⟨o,es,ep,e,hd,_⟩):=hg
  rw [q,h]at e;cases e;cases hd
 ·intro q
  obtain (⟨o,es,ep,e,hd,_⟩):=hb
  rw [q,h]at e;cases e;cases hd
theorem Uz {Xb:Q53} {YZ:Qf} {Qv:Q0J} {XH:Pos} {P:QU->St->Prop} (hc:Q3M) (h:TS c.K fm Xb YZ Qv XH σ P):Zq c A X0 fm Λ (Q2j (.Lambda Xb YZ Qv XH) X0) VR σ P:=by
 obtain (⟨⟨hd0,hk0,hfr⟩,c0,Pt,l,es,hcd,htb,hH,hl,h⟩):=h
 refine Zn fun fz s ok r Q E q=>?_
 rw [arm_eval_Lambda]
 have hcl:closureFor Qv X0=ZU []:=closureFor_none fun x hx=>by simpa using Q1Z hfr x hx
 obtain (⟨hl1,hl2⟩):=ok.tb Pt l htb
 have hX:=ZO Q0H
 have hC:=hH.hd hX
 refine ew1 (Q36 l hl1) fun o yq5v=>?_;refine an2 yq5v fun ho hor=>?_;clear yq5v
 rw [hl]at hor
 obtain (⟨hes,QA⟩):=hor
 rw [hl2]at ho
 have hTri:=Ik es Xr
 have hAm:=Lj XH es Xr
 obtain (⟨gm,gb⟩):=r.gl_ne hc ho
 have hg:QAU Q3W c.mg:=QCd Q0H
 refine ew2 hc.bmain fun bm ob yq5w=>?_;refine an6 yq5w fun b1 b2 b3 b4 b5 b6=>?_;clear yq5w
 have hbP:bm≠Pt:=fun q=>by
  have e:=Q0H _ _ b3
  rw [q,ho]at e;cases e;cases b4
 have hbG:bm≠Q3W:=fun q=>by
  obtain (⟨o,es,ep,e,hd,_⟩):=hc.top.g
  rw [q,e]at b3;cases b3;rw [hd]at b6;cases b6
 have hB:s.heap.BuiltinsAt c.mg Pt:=⟨bm,ob,b1,b2,hbG,hbP,Q0H _ _ b3,b4,b5,b6⟩
 have hdef:defaultsOf Xb X0=([],[]):=by
  obtain (⟨a1,a2,a3,a4,a5,a6,a7⟩):=Xb
  dsimp only at hd0 hk0
  subst hd0 hk0
  rfl
 rw [hdef]
 dsimp only
 refine Q9 (QF ?_)
 refine Q9 (XX (QF ?_))
 cases hf:AG XH es with
 | QB lc =>
  rw [hf]at h hAm
  dsimp only at h
  refine kla_makeFunctionHit (cv:=.QP (Xr lc)) hcl QGs hg (QG1 hcd) hC ho hTri hAm hB fun ctv h' tk hk hsz=>?_
  have r1:Rel c fz Qo Λ σ {s with YL:=h',Q0P:=tk,Q34:=Q1G}:=Q66 hk
  have hlc:lc < Xh:=Jp hes hf
  have e1:=XL Λ Q0d
  exact q _ _ (.QP QO) _ _ e1 (h _ _ ctv) (Q1i _ QHD) (Q9l (tk:=tk) (o:=.lam (Dz Xb YZ Qv _ _ ctv) lc) ⟨QQ hlc e1.1,by rw [e1.2 lc hlc];rfl⟩ QA)
 | QG =>
  rw [hf]at h hAm
  dsimp only at h
  refine kla_makeFunction hcl QGs hg (QG1 hcd) hC ho hTri hAm gm hB fun c' ctv h' tk hx hge hlt hrec htb2=>?_
  obtain (⟨c2,oc,vs,t,ec,hoc,hod,hov⟩):=hrec
  cases ec
  have hcP:c'≠Pt:=Yp (QQ (Qz ho) hge)
  have e1:=XL Λ c'
  have hnl:∀k,k < Xh->Xr k≠c':=fun k hk q=>by
   refine ew1 (Q36 k hk) fun o yq5x=>?_;refine an2 yq5x fun h1 _=>?_;clear yq5x
   exact Xc (Qz h1) (by rw [q];exact ZI hge)
  have hfz:fz c'=QG:=by
   cases q:fz c' with
   | QG=>rfl
   | QB o=>exact Xc (Qz (QET _ _ q)) (ZI hge)
  have hL:Qo < c':=QQ QDl hge
  have r0:Rel c fz Qo Λ (Yt l .any) {s with YL:=h',Q0P:=tk}:=QDS (tk:=tk) (by rw [<- Q3a];exact hl1) (fun b o hb e=>hx b o (by rw [<- hl2];exact hb) e) (by rw [hl2];exact htb2) ZN
  have r1:=r0.label (o:=.raw oc) hoc (Yp hL) hfz hL hnl QA
  have fs:(Z5 c').f QO=c':=QY r.nn.symm
  have hl3:l < (Z5 c').n:=QQ hl1 e1.1
  have r2:=r1.view (l:=l) (o:=.tab (es++[(Q0w,Q51,QO)])) (co:=QC0 ((Q98 fun e=>[Zm e.1,Zm e.2.1,.QP (Xr e.2.2)]).Xe++#[Zm Q0w,Zm Q51,.QP c'])) (by rw [<- QHD];exact hl3) (by rw [e1.2 l hl1,hl2];exact htb2) ⟨fun x hx=>by
   rcases Y3 hx with hx | hx
   ·exact QQ (hes x hx) e1.1
   ·rw [Qe hx];show QO < Xh+1;rw [Q3a];exact Xx _,by
   rw [Q8g,Q0R,QAu,fs,B4 (l:=es) (f:=fun e=>[Zm e.1,Zm e.2.1,.QP ((Z5 c').f e.2.2)]) (g:=fun e=>[Zm e.1,Zm e.2.1,.QP (Xr e.2.2)]) fun x hx=>by rw [e1.2 _ (hes x hx)]]
   simp⟩
  have e2:=XL (Z5 c') Q0d
  have r3:=r2.push (tk:=tk) (o:=.lam (Dz Xb YZ Qv (Q6W++"<lambda>") ((c.mg "__name__").Q4f .QG) ctv) QO) (co:=kla_obj "<lambda>" (Q6W++"<lambda>") Xb YZ Qv [] ((c.mg "__name__").Q4f .QG) c' ctv) ⟨by show QO < Xh+1+1;rw [Q3a];exact Md,by
   rw [e2.2 QO (by show QO < Xh+1;rw [Q3a];exact Hq),fs];rfl⟩ QA
  have hnn:(Z5 c').n=QO+1:=by show Xh+1=_;rw [Q3a]
  have hst:((((Yt l .any).Q8y (.raw oc)).upd l (.tab (es++[(Q0w,Q51,QO)]))).Q8y (.lam (Dz Xb YZ Qv (Q6W++"<lambda>") ((c.mg "__name__").Q4f .QG) ctv) QO))=(((Yt l (.tab (es++[(Q0w,Q51,QO)]))).Q8y (.raw oc)).Q8y (.lam (Dz Xb YZ Qv (Q6W++"<lambda>") ((c.mg "__name__").Q4f .QG) ctv) QO)):=by
   unfold St.alloc St.upd
   congr 1
   funext k
   have hln:l≠QO:=Y5 (by rw [<- Q3a];exact hl1)
   dsimp only
   split
   ·rfl
   ·by_cases hk:k=l
    ·subst hk;simp [hln]
    ·simp [hk]
  rw [hst]at r3
  refine q _ _ (.QP (QO+1)) _ _ (YY e2) (h oc _ _ _ ctv ⟨vs,t,hod,hov⟩) ?_ r3
  have:=Q1i (σ:=(Qw (.raw oc))) (Λ:=Z5 c') Q0d hnn
  exact this
end
end
end Mini
end
section
open PySem PySem.W PySem.Calls PyProof.Rows
set_option genInjectivity false
set_option genSizeOf false
namespace Mini
mutual
structure Snd (c:Cx) (A:Q2t) (X0:Env) (fm:Fm) (G:Pg) (YR:Av) (n:QH):Prop where
 ev:Bd c A X0 fm (ev G YR n fm)
 ts:GD c A X0 fm (tst G YR n fm)
 as:E5 c A X0 fm (asg G YR n fm)
 xs:LO c A X0 fm (exs G YR n fm)
 x1:age c A X0 fm (ex1 G YR n fm)
theorem GR {e:Qf} {f:QW Qf->QW Qf->QW Qf->Prop} {d:Prop}:ZD≠26->Ed e f d->Cf e=QJ/\d:=by
 apply @Q1K (fun e=>ZD≠26->Ed e f d->Cf e=QJ/\d) e
 case QBG=>exact fun _ _ _ _ n=>Xc QA n
 all_goals ((repeat intro a);exact ⟨QA,a⟩)
theorem Lh {C:Prop} {e:Qf} {f:QW Qf->QW Qf->QW Qf->Prop} {d:Prop} (h:Ed e f d) (k1:∀a b c p,e=.QBG a b c p->f a b c->C) (k2:Cf e=QJ->d->C):C :=
 if q:ZD=26 then Expr.Slice.elim (Q4Y:=fun e=>Ed e f d->(∀a b c p,e=.QBG a b c p->f a b c->C)->C) e q (fun a b c p h k=>k a b c p QA h) h k1 else k2 (GR q h).1 (GR q h).2
theorem Ih {e:Qf} {f:Qf->X6->Pos->Prop} {d:Prop}:ZD≠20->Fg e f d->E9 e=QM/\d:=by
 apply @Q1K (fun e=>ZD≠20->Fg e f d->E9 e=QM/\d) e
 case Q1r=>exact fun _ _ _ n=>Xc QA n
 all_goals ((repeat intro a);exact ⟨QA,a⟩)
theorem Mp {C:Prop} {e:Qf} {f:Qf->X6->Pos->Prop} {d:Prop} (h:Fg e f d) (k1:∀a b c,e=.Q1r a b c->f a b c->C) (k2:E9 e=QM->d->C):C :=
 if q:ZD=20 then Expr.Attribute.elim (Q4Y:=fun e=>Fg e f d->(∀a b c,e=.Q1r a b c->f a b c->C)->C) e q (fun a b c h k=>k a b c QA h) h k1 else k2 (Ih q h).1 (Ih q h).2
theorem Mk {e:Qf} {f:X6->Pos->Prop} {d:Prop}:ZD≠23->B9 e f d->d:=by
 apply @Q1K (fun e=>ZD≠23->B9 e f d->d) e
 case Q0v=>exact fun _ _ n=>Xc QA n
 all_goals ((repeat intro a);exact a)
theorem Mm {C:Prop} {e:Qf} {f:X6->Pos->Prop} (h:B9 e f Yk) (k1:∀a b,e=.Q0v a b->f a b->C):C :=
 if q:ZD=23 then QCV (Q4Y:=fun e=>B9 e f Yk->(∀a b,e=.Q0v a b->f a b->C)->C) e q (fun a b h k=>k a b QA h) h k1 else (Mk q h).Q32
theorem Ow {e:Qf} {f:Qf->Qf->Prop} {d:Prop}:ZD≠21->Mi e f d->d:=by
 apply @Q1K (fun e=>ZD≠21->Mi e f d->d) e
 case Q2E=>exact fun _ _ _ n=>Xc QA n
 all_goals ((repeat intro a);exact a)
theorem Ox {C:Prop} {e:Qf} {f:Qf->Qf->Prop} (h:Mi e f Yk) (k1:∀a b p,e=.Q2E a b p->f a b->C):C :=
 if q:ZD=21 then Expr.Subscript.elim (Q4Y:=fun e=>Mi e f Yk->(∀a b p,e=.Q2E a b p->f a b->C)->C) e q (fun a b p h k=>k a b p QA h) h k1 else (Ow q h).Q32
theorem Tp {e:Qf} {f:Qf->QC Qx->Q0J->Prop} {d:Prop}:ZD≠8->xLC e f d->d:=by
 apply @Q1K (fun e=>ZD≠8->xLC e f d->d) e
 case ZB=>exact fun _ _ _ _ n=>Xc QA n
 all_goals ((repeat intro a);exact a)
theorem Tq {C:Prop} {e:Qf} {f:Qf->QC Qx->Q0J->Prop} {d:Prop} (h:xLC e f d) (k1:∀a b c p,e=.ZB a b c p->f a b c->C) (k2:d->C):C :=
 if q:ZD=8 then Expr.ListComp.elim (Q4Y:=fun e=>xLC e f d->(∀a b c p,e=.ZB a b c p->f a b c->C)->C) e q (fun a b c p h k=>k a b c p QA h) h k1 else k2 (Tp q h)
end
section
variable {c:Cx} {A:Around} {G:Pg} {cal:Av}
theorem S5 (hc:c.Ok) (hA:AOk A) (hK:G.K=c.K) (hg:GlOk c G.gl) (hcal:∀env fm fv Λ σ P vs as x,VR Λ fv x->VRs Λ vs as->cal fv vs σ P->Sim c A env fm Λ (call x as) VR σ P):∀n env fm,Snd c A env fm G cal n:=by
 obtain (⟨K,gl⟩):=G
 have hK:K=c.K:=hK
 subst hK
 intro n
 induction n with
 | zero =>
  intro env fm
  exact {ev:=fun e Λ σ P h=>h.elim,ts:=fun e Λ σ P h=>h.elim,as:=fun e v x Λ σ P hv h=>h.elim,xs:=fun e Λ σ P h=>h.elim,x1:=fun e Λ σ P h=>h.elim}
 | succ n IHA =>
  intro env fm
  have IH:=IHA env fm
  have hcal:=hcal env fm
  refine {ev:=fun e Λ σ P h=>?_,ts:=fun e Λ σ P h=>?_,as:=fun e v x Λ σ P hv h=>?_,xs:=fun e Λ σ P h=>?_,x1:=fun e Λ σ P h=>?_}
  ·cases e
   case Constant=>exact Oi h
   case Name=>exact PC hc hg h.1 h.2.1 h.2.2
   case BinOp=>exact UB IH.ev h
   case IfExp=>exact Og IH.ev IH.ts h
   case Compare l ops rs p =>
    rcases ops with _ | ⟨op,_ | ⟨o2,ops⟩⟩
    ·exact h.elim
    ·rcases rs with _ | ⟨r,_ | ⟨r2,rs⟩⟩
     ·exact h.elim
     ·exact UA hA IH.ev h.1 h.2
     ·exact h.elim
    ·exact h.elim
   case Tuple=>exact Oe IH.ev h.1 h.2
   case List=>exact PE IH.ev h.1 h.2
   case Dict ks vs p =>
    cases ks
    ·cases vs
     ·exact Oh h
     ·exact h.elim
    ·exact h.elim
   case Lambda=>exact Uz hc h
   case ListComp elt gs sc p =>
    cases gs
    ·exact h.elim
    ·obtain (⟨cl,h⟩):=h
     exact K9 hA IH.ev (fun cenv=>⟨(IHA cenv _).ev,(IHA cenv _).ts,(IHA cenv _).as⟩) h
   case Subscript v i p =>
    refine Lh (e:=i) h (fun lo hi st q e h=>?_) fun _ h=>PF IH.ev h.1 h.2
    subst e;exact Of IH.ev h
   case Attribute=>exact PH hc IH.ev h.1 h.2
   case Call f args kw p =>
    cases kw
    ·refine Mp (e:=f) h (fun o name apos e h=>?_) fun e h=>PG hc IH.ev e hcal h.1 h.2
     subst e;exact PD hc IH.ev hcal h.1 h.2
    ·exact h.elim
   all_goals exact h.elim
  ·cases e
   case UnaryOp op x p =>
    cases op
    case Not=>exact UD IH.ts h
    all_goals exact h.elim
   case BoolOp=>rw [arm_isTrue_BoolOp];exact Kb IH.ts h
   case Compare l ops rs p =>
    rcases ops with _ | ⟨op,_ | ⟨o2,ops⟩⟩
    ·exact h.elim
    ·rcases rs with _ | ⟨r,_ | ⟨r2,rs⟩⟩
     ·exact h.elim
     ·exact UE hc hA IH.ev h.1 h.2
     ·exact h.elim
    ·exact h.elim
   case Name=>exact D7 hc IH.ev rfl h
   case Call=>exact D7 hc IH.ev rfl h
   case Attribute=>exact D7 hc IH.ev rfl h
   case Constant=>exact D7 hc IH.ev rfl h
   all_goals exact h.elim
  ·cases e
   case Name=>exact PI hv h
   case Tuple=>exact Ol hc hA IH.as h.1 hv h.2
   case Attribute=>exact PJ hc IH.ev hv h
   case Subscript=>exact UF IH.ev hv h
   all_goals exact h.elim
  ·cases e
   ·rw [arm_execs_nil];exact Sim.pure (b:=Fl.next) h rfl
   ·exact Uw IH.x1 IH.xs h
  ·cases e
   case Expr=>exact PA IH.ev h.1 h.2
   case Pass=>rw [arm_exec_Pass];exact Sim.stand (Sim.pure (b:=Fl.next) h rfl)
   case Break=>rw [arm_exec_Break];exact Sim.stand (Sim.pure (b:=Fl.brk) h rfl)
   case Continue=>rw [arm_exec_Continue];exact Sim.stand (Sim.pure (b:=Fl.cont) h rfl)
   case Return v p =>
    rw [arm_exec_Return]
    cases v
    ·exact Sim.stand (Sim.pure (b:=Fl.ret .none) h ⟨_,rfl,rfl⟩)
    ·exact Sim.stand (Sim.bind (IH.ev _ Λ σ _ h) fun Λ1 d z σ1 e1 p1 hx=>Sim.pure (b:=Fl.ret d) p1 ⟨_,rfl,hx⟩)
   case Assign ts e p =>
    rcases ts with _ | ⟨t,_ | ⟨t2,r⟩⟩
    ·exact Do hc hA IH.ev IH.as h.1 h.2
    ·refine Tq (e:=e) h (fun elt gs sc q e h=>?_) fun h=>Do hc hA IH.ev IH.as h.1 h.2
     subst e
     cases gs
     ·exact Do hc hA IH.ev IH.as h.1 h.2
     ·obtain (⟨hst,cl,h⟩):=h
      exact PB hA IH.ev IH.as (fun cenv=>⟨(IHA cenv _).ev,(IHA cenv _).ts,(IHA cenv _).as⟩) hst h
    ·exact Do hc hA IH.ev IH.as h.1 h.2
   case AugAssign t op e p =>
    refine Mm (e:=t) h fun x q e h=>?_
    subst e;exact Uy hc hg IH.ev h.1 h.2
   case If=>exact aga IH.ts IH.xs h
   case While t b o p =>
    cases o
    ·obtain (⟨k,h⟩):=h;exact Od IH.ts IH.xs h
    ·exact h.elim
   case For t it b o p =>
    cases o
    ·replace h:IJ gl fm (Mini.ev ⟨c.K,gl⟩ cal n fm) it σ fun src σ=>Gl (asg ⟨c.K,gl⟩ cal n fm t) (exs ⟨c.K,gl⟩ cal n fm b) t src σ P:=h
     unfold IJ at h
     generalize e:Dl it=k at h
     cases k with
     | none=>exact Ka hA IH.ev IH.as IH.xs h.1 h.2
     | some x =>
      obtain (⟨p1,p2,e2⟩):=JV e
      subst e2
      exact Jk hc hg hA IH.ev IH.as IH.xs rfl h.1 h.2
    ·exact h.elim
   case Delete ts p =>
    rcases ts with _ | ⟨t,_ | ⟨t2,r⟩⟩
    ·exact h.elim
    ·refine Ox (e:=t) h fun a b q e h=>?_
     subst e;exact Ux IH.ev h
    ·exact h.elim
   all_goals exact h.elim
end
end Mini
end
section
open PySem PySem.W PySem.Calls PyProof.Rows
set_option genInjectivity false
set_option genSizeOf false
namespace Mini
mutual
structure Q8h (d:QH) (A:Q2t):Prop where
 handled:Q4G=QG
 units:Q8M+200+10*d < QDV
 Q0m:QEj+10+2*d < Q5P
theorem Room.aok {d:QH} {A:Q2t} (h:Q8h d A):AOk A:=⟨QDr,by have:=QHG;exact aem this,by have:=QHH;exact ael this⟩
theorem Room.deeper {d:QH} {A:Q2t} (h:Q8h (d+1) A) (X0:Env):Q8h d (A.deeper X0):=⟨QDr,by have:=QHG;show Q8M+3+200+10*d < QDV;exact aek this,by have:=QHH;show QEj+1+10+2*d < Q5P;exact SO this⟩
theorem Room.mono {d:QH} {A:Q2t} (h:Q8h (d+1) A):Q8h d A:=⟨QDr,by have:=QHG;exact aej this,by have:=QHH;exact SN this⟩
def St.frame (σ:St) (bs:QC (X6×QU)):St:={σ with loc:=fun x=>bs.reverse.lookup x}
def Fa (sc:Q0J):Qu:=sc.names.all fun x=>x.2 != .YQ
def D9 (sc:Q0J) (xs:QC X6):Qu:=xs.all fun x=>Q18 x == QB .Q5v
def pFn (G:Pg) (rec:Av) (a:Qq) (Xb:QC QU):PT QU:=fun σ P =>
 ∃fd YZ xs dv n,Q83 G.K a fd YZ xs dv/\Q4b=Qn/\Fa Q1M=QM/\D9 Q1M (xs++QAr (·.1))=QM /\
  exs G rec n ⟨Q1M,[],QA5,QG⟩ YZ (σ.frame (AK xs Xb dv)) fun fl XF=>P (Lo fl) {XF with loc:=Xv}
end
section
variable {c:Cx} {A:Around} {env:Env} {fm:Fm} {Λ:Lab} {σ:St} {G:Pg} {rec:Av}
mutual
def Bz (c:Cx) (A:Q2t) (L:Qq) (Λ:Lab) (f:QI) (as:QC QI) (σ:St) (P:QU->St->Prop):Prop :=
 ∀fz s (R:Q7w->QZ->Prop),Rel c fz L Λ σ s->(∀Za s' b a XF,Q0A Za->P b XF->VR Za b a->Rel c fz L Za XF s'->R (.ok (.ret a)) s')->Q1J (Qi XI c.w) A (.Q0M f ⟨as,[]⟩) R s
theorem Bz.sim {f:QI} {as:QC QI} {P:QU->St->Prop} (h:Bz c A Qo Λ f as σ P):Zq c A X0 fm Λ (Q0M f as) VR σ P :=
 fun fz s Q E ok r q=>Q20 (h fz s _ r fun Za s' b a XF e p hv r'=>q Za s' b a XF e p hv r')
theorem Fc (hc:Q3M) (hK:G.K=c.K) (QFZ:QEj < Q5P) {L:Qq} {a:Qq} {Xb:QC QU} {as:QC QI} {P:QU->St->Prop}
  (S:∀Q2S fm' n,Snd c (A.deeper Q2S) Q2S fm' G rec n) (ha:VRs Λ Xb as) (h:pFn G rec a Xb σ P):Bz c A L Λ (.QP a) as σ P:=fun fz s Q r q=>by
 obtain (⟨fd,YZ,xs,dv,n,F,Q2U,hnc,hal,h⟩):=h
 rw [hK]at F
 have X:=ZO Q0H
 refine ew3 F.at' fun oc od osl hat=>?_
 refine Q7R (fd:=fd) (YZ:=YZ) QFZ (X _ _ hat) QA F.co F.gen F.body (codeRec_of X F.code) ?_
 refine kp_binds X (fun S=>F.bind S as (by rw [<- QDs];exact Q2U)) _ _ _ _ ?_
 refine Q86 (fun x hx=>?_) (fun x hx=>?_) (fun h' hn hs=>?_) F.kd
 ·have:=Q1Z hnc x hx
  simpa using this
 ·have hall:=Q1Z hal
  have hm:x.1∈xs++QAr (·.1):=by
   rcases Y3 hx with hx | hx
   ·exact Q2y (.inl (QBW hx).1)
   ·exact Q2y (.inr (Q0D ⟨x,hx,QA⟩))
  simpa using hall _ hm
 ·have hk:∀b o,Qc b=QB o->Z7 b=QB o:=fun b o e=>(hs.2 b (Y5 (Qz e))).QR (Qa _ e)
  have hbr:BR Λ (AK xs Xb dv) (Q9R as++dv):=(QGY ha).Q7o (QGZ dv)
  have r':Rel c (fzN Λ QV) QD Λ (σ.frame (AK xs Xb dv)) {s with YL:=h',Q0P:=Y6+(Q9R as++dv).ZT}:=r.enter QA QA hk (Qh _) hn fun x=>hbr.rev.lookup x
  refine ⟨(Q87 Q0H).keeps hk,QEk ?_⟩
  refine (S _ ⟨Q1M,[],QA5,QG⟩ n).xs YZ Λ _ _ h (fzN Λ QV) _ _ _ ⟨QA,F.gl,F.bl,F.kd,fun x l hl=>by simp at hl,QA,fun P l hl=>by cases hl⟩ r' ?_
  intro Λ2 s2 fl f σ2 e2 p2 hf r2
  refine q Λ2 s2 (Lo fl) _ _ e2 p2 ?_ (r.leave r2 e2)
  cases fl with
  | YC=>cases hf;rfl
  | brk=>cases hf;rfl
  | QAh=>cases hf;rfl
  | ret v=>obtain (⟨cv,QA,hv⟩):=hf;exact hv
end
end
end Mini
end
section
open PySem PySem.W PySem.Calls PyProof.Rows
namespace Mini
noncomputable def pTy (T:String) (args:List Val):PT Val:=fun σ P =>
 if T="range" then (on1 args fun a=>Bi a fun n=>P (.ref σ.nx) (σ.alloc (.range 0 n 1)))\/(on2 args fun a b=>Bi a fun a=>Bi b fun b=>P (.ref σ.nx) (σ.alloc (.range a b 1)))
 else if T="set" then on0 args (P (.ref σ.nx) (σ.alloc (.set [])))
 else if T="list" then on1 args fun a=>Ai a fun l=>By (σ.hp l) fun a b k=>Builtin.Range.small a b k=true/\0<=Builtin.Range.rangeSize a b k/\(Ay a b k).length<=2 ^ 24/\P (.ref σ.nx) (σ.alloc (.list ((Ay a b k).map .int)))
 else False
section
variable {c:Cx} {A:Around} {env:Env} {fm:Fm} {Λ:Lab} {σ:St}
mutual
theorem QEl {Λ:Lab} {a k:X3}:∀(n:QH) (acc:QC QI) (st:QH),acc.length=n->(∀(j:QH) v,acc[j]?=QB v->∃t,v=.Qm (a+((st+j:QH):X3)*k) t)->VRs Λ (((List.range' st n).map fun (i:QH)=>a+(i:X3)*k).map .Qm) acc
 | n,acc,st,h,hv=>by
  induction n generalizing acc st with
  | Q2Q=>rw [Zu h];exact .Zl
  | Q2R n ih =>
   obtain (⟨v,acc,QA,h2⟩):=ls1 h
   rw [List.range'_succ,XR,XR]
   obtain (⟨t,e⟩):=hv 0 v QA
   refine .Xu ⟨t,by simpa using e⟩ (ih acc (st+1) h2 fun j w hw=>?_)
   obtain (⟨t,e⟩):=hv (j+1) w (by simpa using hw)
   exact ⟨t,by rw [e];congr 3;omega⟩
theorem Tw {T:XA} {Xb:QC QU} {as:QC QI} {P:QU->St->Prop} (hA:AOk A) (ha:VRs Λ Xb as) (h:pTy T Xb σ P):Zq c A X0 fm Λ (Q0M (.Qk T) as) VR σ P:=by
 injections c A X0 fm Λ σ T Xb as P _ _ _
 refine Q0c h ?_ ?_
 ·intros e k
  subst e
  refine k.elim ?_ ?_
  ·intros h;refine Q6q ha h ?_;intros v a h1 h;refine QBD h ?_;intros n ev h
   subst ev
   obtain ⟨t,QA⟩:=h1
   exact fun fz s Q E ok r q=>call_range_1 (q _ _ _ _ _ (XL _ _) h (Q1i _ Q3a) (Q9B (tk:=Y6+1+1) ⟨_,_,_,QA⟩ QA))
  intros h;refine QCK ha h ?_;intros v u a b h1 h2 h;refine QBD h ?_;intros n ev h;refine QBD h ?_;intros m eu h
  ·subst ev eu
   obtain ⟨t,QA⟩:=h1
   obtain ⟨u,QA⟩:=h2
   exact fun fz s Q E ok r q=>call_range_2 (q _ _ _ _ _ (XL _ _) h (Q1i _ Q3a) (Q9B (tk:=Y6+1) ⟨_,_,_,QA⟩ QA))
 intros h;refine Q0c h ?_ ?_
 ·intros e k
  subst e
  refine on0.el ha k ?_;intros h;refine fun fz s Q E ok r q=>Jg ?_
  exact q _ _ _ _ _ (XL _ _) h (Q1i _ Q3a) (Q9B (tk:=Y6) ⟨.Zl,#[],0,_,⟨QA,QA,QA⟩,QA,fun e he=>by simp at he,fun k=>by simp,by decide,by rfl,QA,JT⟩ QA)
 intros h;refine Q0c h ?_ fun h=>Qy
 ·intros e k
  ··subst e
    ··refine Q6q ha k ?_;intros v x g1 h;refine Q1W h ?_;intros l ev h;subst ev
      refine By.el h ?_;intros a b k hl h
      obtain ⟨h1,h2,h3,h4⟩:=h
      refine fun fz s Q E ok r q=>?_
      obtain ⟨o,ho,hor⟩:=(Q36 l g1.1)
      rw [hl]at hor
      obtain ⟨t1,t2,t3,QA⟩:=hor
      have hn:XG a b k=((XG a b k).Q1X:X3):=(Q2v h2).Q3w
      have Q2U:(Ay a b k).ZT=(XG a b k).Q1X:=by simp [Ay]
      rw [g1.2]
      refine call_list_range Q0Y ho h1 hn (by rw [<- Q2U];exact h3) ?_;intros h' tk acc c' hk hS QBV
      have r2:Rel c fz Qo Λ σ {s with YL:=h',Q0P:=tk,Q34:=Q1G}:=Q66 hk
      have ext:=XL Λ QD
      refine q (Z5 QD) _ (.QP QO) _ _ ext h4 (Q1i _ Q3a) ?_
      refine r2.label hS (Yp QDl) Q56 QDl ?_ ⟨Q4C,c',by simp [Q4X],?_⟩
      ·intros l' hl' q
       obtain ⟨o,ho,_⟩:=(Q36 l' hl')
       exact Xc (Qz ho) (by rw [q];exact XY _)
      ·have:=QEl (Λ:=Z5 QD) (a:=a) (k:=k) (XG a b k).Q1X Q4C 0 (by simpa using QBV.1) fun j v hv=>by
        obtain (⟨t,e⟩):=QBV.2 j v (by simpa using hv)
        exact ⟨t,by rw [e];simp⟩
       unfold Ay
       rw [List.range_eq_range']
       exact this
end
end
end Mini
end
section
open PySem PySem.W PySem.Calls PyProof.Rows
namespace Mini
noncomputable def TQ (G:Pg) (rec:Av) (C:Addr) (args:List Val):PT Val:=fun σ P =>
 ∃fI,makesIn G.K C=true/\findIn G.K (.ref C) "__init__"=some (some (.ref fI))/\typeIn G.K (.ref fI)=some (.type "function") /\
  pFn G rec fI (.ref (σ.nx+1)::args) ((σ.alloc (.idict [])).alloc (.inst C σ.nx)) fun v σ'=>v=.none/\P (.ref (σ.nx+1)) σ'
section
variable {c:Cx} {A:Around} {env:Env} {fm:Fm} {Λ:Lab} {σ:St} {G:Pg} {rec:Av}
theorem NS (hc:c.Ok) (hK:G.K=c.K) {d:Nat} (hA:Room (d+1) A) {L:Addr} {C:Addr} {args:List Val} {as:List Value} {P:Val->St->Prop}
  (S:∀A' env' fm' n,Room d A'->Snd c A' env' fm' G rec n) (ha:VRs Λ args as) (h:TQ G rec C args σ P):Bz c A L Λ (.ref C) as σ P:=fun fz s R r q=>by
 obtain (⟨fI,hm,hi,hf,h⟩):=h
 rw [hK]at hm hi hf
 have X:=hc.inK.keeps r.gkeep
 have e1:=Lab.push_ext Λ s.heap.objs.size
 have r1:Rel c fz L (Λ.push s.heap.objs.size) (σ.alloc (.idict [])) {s with heap:=s.heap.push (dictOf [] 0),toks:=s.toks}:=r.push ⟨[],rfl,trivial⟩ rfl
 have hsz:(s.heap.push (dictOf [] 0)).objs.size=s.heap.objs.size+1:=Heap.size_push ..
 have e2:=Lab.push_ext (Λ.push s.heap.objs.size) (s.heap.push (dictOf [] 0)).objs.size
 have r2:=r1.push (tk:=s.toks) (o:=.inst C σ.nx) (co:=instObj C s.heap.objs.size) ⟨by show σ.nx < Λ.n+1+1;rw [r.nn];exact Md,by
  rw [e2.2 σ.nx (by show σ.nx < Λ.n+1;rw [r.nn];exact Hq)]
  show _=instObj C (if σ.nx=Λ.n then _ else _)
  rw [if_pos r.nn.symm]⟩ rfl
 have hx:VR ((Λ.push s.heap.objs.size).push (s.heap.push (dictOf [] 0)).objs.size) (.ref (σ.nx+1)) (.ref (s.heap.objs.size+1)):=by
  have:=VR.new (σ:=σ.alloc (.idict [])) (Λ:=Λ.push s.heap.objs.size) (s.heap.push (dictOf [] 0)).objs.size r1.nn
  rw [hsz]at this
  rw [hsz]
  exact this
 obtain (⟨hh,g,dr,t,os⟩):=s
 refine make_core (makes_of X hm) (looks_findIn X hi) (fun self=>bind_fn X self hf) (.inl rfl) ?_
 have hA':Room d ((A.under (.builtin "type.__call__" ⟨.ref C::as,[]⟩))):=⟨hA.handled,by
  have:=hA.units
  exact aeh this,by
  have:=hA.depth
  exact SO this⟩
 have hA2:∀env',Room d ((A.under (.builtin "type.__call__" ⟨.ref C::as,[]⟩)).deeper env'):=fun env'=>⟨hA.handled,by
  have:=hA.units
  exact SM this,by
  have:=hA.depth
  exact SL this⟩
 refine Fc hc hK (by have:=hA'.depth;exact aeg this) (fun env' fm' n=>S _ env' fm' n (hA2 env')) (.cons hx ((ha.ext e1).ext e2)) h fz _ _ r2 ?_
 intro Λ3 s3 b a σ3 e3 p3 hv r3
 obtain (⟨rfl,p3⟩):=p3
 cases hv
 exact ⟨rfl,q Λ3 s3 _ _ σ3 ((e1.trans e2).trans e3) p3 (hx.ext e3) r3⟩
end
end Mini
end
section
open PySem PySem.W PySem.Calls PyProof.Rows
set_option genInjectivity false
set_option genSizeOf false
namespace Mini
structure TupK (K:Frag) (C p fN:Addr) (mc:Value):Prop where
 obj:∃oc od cd sl,K.lookup C=some ⟨oc,od,.cls cd,sl⟩/\cd.hasDel=false
 call:∀S,peek K S (specialOf (.ref C) "__call__")=some (some (.builtin "type.__call__"))
 typ:∀S,peek K S (isInstance (.ref C) (.type "type"))=some true
 mro:∃m,m.isEmpty=false/\∀S,peek K S (mroOf (.ref C))=some m
 made:∀S,peek K S (Bind.madeBy (.ref C))=some none
 here:∀S,peek K S (Bind.madeHere "tuple.__new__" (.ref C))=some ()
 isT:∀S,peek K S (isType (.ref C))=some true
 sub:∀S,peek K S (isSubtype (.ref C) (.type "tuple"))=some true
 self:∀S,peek K S (isSubtype (.ref C) (.ref C))=some true
 top:∀S,peek K S (isSubtype (.ref C) (.type "object"))=some true
 init:∀S,peek K S (typeLookup (.ref C) "__init__")=some (some (.builtin "object.__init__"))
 check:∀S t,peek K S (checkBuiltinCall "tuple.__new__" ⟨[.ref C,.ref t],[]⟩)=some ()
 reads:readsIn K C mc=true
 new:findCls K (.ref C) mc "__new__"=some (.get (.builtin "staticmethod.__get__") (.ref p) .none (.ref C))
 sm:recIn K p "staticmethod"=some [.ref fN]
section
variable {prog:Program} {w:World} {A:Around} {K:Frag} {C p fN:Addr} {mc:Value} {s:Shared} {R:Result->Shared->Prop}
theorem Ij (T:TupK K C p fN mc) (X:K.In s.heap) {t:Addr} {items:Array Value} {o:Obj} {U:String} {n:Nat} (hU:U="list"\/U="tuple") (ho:s.heap.get? t=some o) (hc:o.cls=.type U) (hd:o.data=.seq items n) (hsz:items.size<=sizeLine)
  (hR:∀h':Heap,(∀b o',s.heap.get? b=some o'->h'.get? b=some o')->R (.ok (.ret (.ref (h'.objs.size+1)))) {s with heap:=(h'.push emptyDict).push {cls:=.ref C,dict:=some h'.objs.size,data:=.seq items}}) :
  codeAny (model prog w) A (.call (.builtin "tuple.__new__") ⟨[.ref C,.ref t],[]⟩) R s:=by
 injections prog w A K C p fN mc s R _ _ t items o U n _ _ _ _ _ _
 refine codeAny_call_builtin_at (Code.quiet_builtin _ (by decide +kernel)) F.entry_tuple_new ((Looks.of_peek X (T.check _ t)).here ?_)
 unfold Builtin.«tuple.__new__»
 have l1:Looks (model prog w) s.heap (isType (.ref C)) true:=Looks.of_peek X (T.isT _)
 have l2:Looks (model prog w) s.heap (isSubtype (.ref C) (.type "tuple")) true:=Looks.of_peek X (T.sub _)
 have l3:Looks (model prog w) s.heap (Bind.madeHere "tuple.__new__" (.ref C)) ():=Looks.of_peek X (T.here _)
 have l4:Looks (model prog w) s.heap (typeLookup (.ref C) "__init__") (some (.builtin "object.__init__")):=Looks.of_peek X (T.init _)
 dsimp only
 refine wpAny_bind (l1.here ?_)
 simp only [Bool.not_true,Bool.false_eq_true,if_false]
 refine wpAny_bind (l2.here ?_)
 simp only [Bool.not_true,Bool.false_eq_true,if_false]
 refine wpAny_bind (l3.here (wpAny_bind (l4.here ?_)))
 rw [if_pos (by decide +kernel),show noKeywords "tuple" {pos:=[Value.ref C,Value.ref t]}=pure () from rfl,show checkCount "tuple" 0 1 [Value.ref t].length=pure () from rfl]
 refine wpAny_bind (wpAny_pure (wpAny_bind (wpAny_pure ?_)))
 rw [if_neg (by rw [show (Value.ref C == Value.type "tuple")=false from rfl];exact Bool.false_ne_true)]
 refine wpAny_bind (wpAny_collect_seq t hU ho hc hd ?_ hsz);intros h' hk
 refine wpAny_bind (wpAny_pure (wpAny_bind (wpAny_alloc (wpAny_bind ?_))))
 obtain ⟨oc,od,cd,sl,hC,hdel⟩:=T.obj
 unfold newObj
 have e:items.toList.toArray=items:=by simp
 rw [e]
 dsimp only
 rw [if_neg (Nat.not_lt.mpr hsz)]
 unfold newObjAsIs classHasDel
 refine wpAny_bind (wpAny_alloc (wpAny_bind (wpAny_bind (wpAny_load (Heap.get?_push_of_some _ (Heap.get?_push_of_some _ (hk _ _ (X _ _ hC)))) (wpAny_pure ?_)))))
 dsimp only
 rw [hdel]
 refine wpAny_pure (wpAny_pure ?_)
 have:=hR h' hk
 rw [show (h'.push emptyDict).objs.size=h'.objs.size+1 from Heap.size_push ..]
 exact this
end
end Mini
end
section
open PySem PySem.W PySem.Calls PyProof.Rows
namespace Mini
section
variable {prog:Program} {w:World} {A:Around} {K:Frag} {C p fN:Addr} {mc:Value} {s:Shared} {R:Result->Shared->Prop}
mutual
theorem OA (T:TupK K C p fN mc) (X:QAf QV) {a:Qq} {o:ZC} (ho:Qc a=QB o) (hc:Q4o=.QP C) {x y z:QI} (h:R (.ok (.ret .QG)) s) :
  Q1J (Qi XC w) A (.Q0M (.Qd "object.__init__") ⟨[.QP a,x,y,z],[]⟩) R s:=by
 injections XC w A K C p fN mc s R _ _ a o _ _ x y z _
 have tt:ZL (Qi XC w) QV (Q14 (.QP a)) (.QP C):=by
  have:ZL (Qi XC w) QV (Q14 (.QP a)) Q4o:=(Q1j ho).Q2k .now
  rw [hc]at this;exact this
 have l0:ZL (Qi XC w) QV (Zw (.QP a) (.Qk "object")) QM:=Q6p (Q0n X (T.top _))
 refine Q6X (Q21 _ (by decide +XB)) entry_oi (@Q6r (Qi XC w) _ _ s "object.__init__" "object" "__init__" (.QP a) [x,y,z] [] _ oi_kind oi_split l0 (F.initArgs_range_3 (.QP a) x y z) ?_)
 unfold Builtin.«object.__init__»
 have l4:ZL (Qi XC w) QV (Q3O (.QP C) "__init__") (QB (.Qd "object.__init__")):=Q0n X (T.init _)
 have l5:ZL (Qi XC w) QV (QG2 (.QP C)) QG:=Q0n X (T.made _)
 dsimp only
 simp only [List.isEmpty_cons,Q82,Q9x,Q5m]
 refine Q9 (tt.here (Q9 (l4.here (Q9 (l5.here ?_)))))
 dsimp only
 rw [QN (by decide +XB),QN (by decide +XB)]
 exact QF h
theorem J0 (T:TupK K C p fN mc) (X:QAf QV) {x y z:QI}
  (h:Q1J (Qi XC w) (A.under (.Qd "type.__call__" ⟨[.QP C,x,y,z],[]⟩)) (.Q0M (.QP fN) ⟨[.QP C,x,y,z],[]⟩) (fun r s'=>match r with
   | .ok (.ret v)=>QAf Q4S/\(∃a o,v=.QP a/\Q3p a=QB o/\Q4o=.QP C)/\R (.ok (.ret v)) s'
   | .ok _=>Yk
   | .Q7s e=>R (.Q7s e) s') {s with Q0P:=Y6+1}):Q1J (Qi XC w) A (.Q0M (.QP C) ⟨[x,y,z],[]⟩) R s:=by
 injections XC w A K C p fN mc s R _ _ x y z _
 obtain ⟨oc,od,cd,sl,hC,hdel⟩:=T.obj
 have Q0M:ZL (Qi XC w) QV (Q1p (.QP C) "__call__") (QB (.Qd "type.__call__")):=Q0n X (T.call _)
 have typ:ZL (Qi XC w) QV (Zw (.QP C) (.Qk "type")) QM:=Q0n X (T.typ _)
 obtain ⟨m,hm0,hm⟩:=T.mro
 have lm:ZL (Qi XC w) QV (mroOf (.QP C)) m:=Q0n X (hm _)
 have lb:ZL (Qi XC w) QV (QG2 (.QP C)) QG:=Q0n X (T.made _)
 refine Q28 ?_
 refine nd_load (X _ _ hC) ?_
 show Qp _ _ (QA9 (.QP C) _) _ _ _
 unfold QA9
 refine Q9 (call.at ?_)
 dsimp only
 rw [tc_bind]
 refine Q9 (QF (Q9 (QF ?_)))
 refine QF (a:=Fin.again (.Q0M (.Qd "type.__call__") ⟨[.QP C,x,y,z],[]⟩)) (QAt QA ?_)
 refine Q6X (Q21 _ (by decide +XB)) entry_typeCall (Q6r tc_kind tc_split typ (tc_args _ _ _) ?_)
 unfold Builtin.«type.__call__»
 dsimp only
 rw [QN (by rw [show (Q1h C == Q2W "type")=QJ from QA];exact Qj)]
 refine Q9 (lm.here ?_)
 rw [QN (by rw [hm0];exact Qj)]
 refine Q9 (lb.here ?_)
 refine Q9 (cls_bind X T.reads T.new (Q20 (sm_get X T.sm ?_)))
 refine QDc QA ?_
 refine Q9 (XX (Q20 (Q9w h ?_)));intros r s' z
 rcases r with e | (v | _ | _ | _) <;> first | exact z | exact z.elim | skip
 obtain ⟨X',⟨a,o,QA,ho,hc⟩,z⟩:=z
 have tt:ZL (Qi XC w) Q4S (Q14 (.QP a)) (.QP C):=by
  have:ZL (Qi XC w) Q4S (Q14 (.QP a)) Q4o:=(Q1j ho).Q2k .now
  rw [hc]at this;exact this
 have l1:ZL (Qi XC w) Q4S (Zw (.QP a) (.QP C)) QM:=Q6p (Q0n X' (T.self _))
 have l2:ZL (Qi XC w) Q4S (Q1p (.QP a) "__init__") (QB (.Qd "object.__init__")):=Q6p (Q0n X' (T.init _))
 refine Q9 (l1.here ?_)
 rw [QN (by simp)]
 refine Q9 (XX ?_)
 refine Q9 (l2.here ?_)
 dsimp only
 rw [oi_bind]
 refine XX (Q9 (QF (Q9 (Q20 ?_))))
 refine OA T X' ho hc (QF ?_)
 dsimp only
 rw [QN (by decide +XB)]
 exact QF z
end
end
end Mini
end
section
open PySem PySem.W PySem.Calls PyProof.Rows
namespace Mini
noncomputable def KE (K:Frag) (args:List Val):PT Val:=fun σ P=>on2 args fun a b=>Cs a fun C=>Ai b fun t=>(∃p fN mc,TupK K C p fN mc)/\O2 (σ.hp t) fun xs=>xs.length<=sizeLine/\P (.ref σ.nx) (σ.alloc (.sub C xs))
noncomputable def Nd (G:Pg) (rec:Av) (C:Addr) (args:List Val):PT Val:=fun σ P =>
 ∃p fN mc,TupK G.K C p fN mc/\args.length=3/\pFn G rec fN (.imm (.ref C)::args) σ fun v σ'=>(∃l xs,v=.ref l/\σ'.hp l=.sub C xs)/\P v σ'
section
variable {c:Cx} {A:Around} {env:Env} {fm:Fm} {Λ:Lab} {σ:St} {G:Pg} {rec:Av}
mutual
theorem Jc (hc:Q3M) {L:Qq} {Xb:QC QU} {as:QC QI} {P:QU->St->Prop} (ha:VRs Λ Xb as) (h:KE c.K Xb σ P):Bz c A L Λ (.Qd "tuple.__new__") as σ P:=by
 refine QCK ha h fun v u a b h1 h2 h=>Cs.el h fun C ev k=>Q1W k fun t eu k=>?_
 ·subst ev eu
  cases h1
  refine an2 k fun yq3t h=>?_;refine ew3 yq3t fun p fN mc T=>?_;clear yq3t
  refine fun fz s R r q=>?_
  refine ew1 (Q36 t h2.1) fun o yq3u=>?_;refine an2 yq3u fun ho hor=>?_;clear yq3u
  have fin:∀(xs:QC QU) (vs:QC QI) (h':ZP),VRs Λ xs vs->P (.QP QO) (Qw (.sub C xs))->(∀b o',Qc b=QB o'->Z7 b=QB o') ->
    R (.ok (.ret (.QP (Q0d+1)))) {s with YL:=(Q8U QAv).Q65 {cls:=.QP C,Q01:=QB Q0d,YA:=.seq Xt}}:=fun xs vs h' hvs hP hk=>by
   have r1:Rel c fz L Λ σ {s with YL:=Q8U QAv,Q0P:=Y6,Q34:=Q1G}:=Q66 fun b o e=>Qa _ (hk b o e)
   have e:=XL Λ (Q8U QAv).YO
   have:=q _ _ (.QP QO) _ _ e hP (Q1i _ QHD) (Q9l (tk:=Y6) (o:=.sub C xs) (co:={cls:=.QP C,Q01:=QB Q0d,YA:=.seq Xt}) ⟨vs,0,_,QA,hvs.ext e⟩ QA)
   rw [show (Q8U QAv).YO=Q0d+1 from Q0u ..]at this
   exact this
  rw [h2.2]
  have X:=ZO Q0H
  refine O2.el h (fun xs e h=>?_) fun xs e h=>?_
  ·rw [e]at hor
   obtain (⟨vs,n,QA,hvs⟩):=hor
   exact Ij T X (.inr QA) ho QA QA (by rw [XS,<- QCe];exact h.1) fun h' hk=>fin xs vs h' hvs h.2 hk
  ·rw [e]at hor
   obtain (⟨vs,n,QA,hvs⟩):=hor
   exact Ij T X (.inl QA) ho QA QA (by rw [XS,<- QCe];exact h.1) fun h' hk=>fin xs vs h' hvs h.2 hk
theorem LD (hc:Q3M) (hK:G.K=c.K) {d:QH} (hA:Q8h (d+1) A) {L:Qq} {C:Qq} {Xb:QC QU} {as:QC QI} {P:QU->St->Prop}
  (S:∀A' Q2S fm' n,Q8h d A'->Snd c A' Q2S fm' G rec n) (ha:VRs Λ Xb as) (h:Nd G rec C Xb σ P):Bz c A L Λ (.QP C) as σ P:=fun fz s R r q=>by
 obtain (⟨p,fN,mc,T,Q2U,h⟩):=h
 rw [hK]at T
 have X:=ZO Q0H
 obtain ⟨x,y,z,QA⟩:∃x y z,as=[x,y,z]:=by
  have hl:=QDs
  rw [Q2U]at hl
  exact ls3 hl.symm
 refine J0 T X ?_
 have hA2:∀Q2S,Q8h d ((A.under (.Qd "type.__call__" ⟨[.QP C,x,y,z],[]⟩)).deeper Q2S):=fun Q2S=>⟨Q0Y,by
  have:=Q7k
  exact SM this,by
  have:=Q5Q
  exact SL this⟩
 refine Fc hc hK (by have:=Q5Q;show QEj+1 < Q5P;exact aef this) (fun Q2S fm' n=>S _ Q2S fm' n (hA2 Q2S)) (.Xu (show VR Λ (.imm (.QP C)) (.QP C) from QA) ha) h fz _ _ Q99 ?_
 intro Λ3 s3 b a σ3 e3 p3 hv r3
 refine an2 p3 fun yq3v p3=>?_;refine ew2 yq3v fun l xs yq3w=>?_;refine an2 yq3w fun yq3x hl=>?_;obtain QA:=yq3x;clear yq3v yq3w
 refine ew1 (r3.ob l hv.1) fun o yq3y=>?_;refine an2 yq3y fun ho hor=>?_;clear yq3y
 rw [hl]at hor
 obtain (⟨vs,n,dct,QA,hvs⟩):=hor
 exact ⟨ZO r3.gkeep,⟨_,_,hv.2,ho,QA⟩,q Λ3 s3 _ _ σ3 e3 p3 hv r3⟩
end
end
end Mini
end
section
open PySem PySem.W PySem.Calls PyProof.Rows
namespace Mini
mutual
def CK {α:Type} (QCf:X6->QW Q2Z):QC (X6×α)->(X6->QW α)->X6->QW α
 | [],m=>m
 | (n,v)::r,m=>CK QCf r (if QCf n=QB .Q5v then fun y=>if y=n then QB v else m y else m)
def B5 {α:Type} (QCf:X6->QW Q2Z):QC (X6×α)->(X6->QW α)->X6->QW α
 | [],m=>m
 | (n,v)::r,m=>B5 QCf r (if QCf n=QB .Q5v then m else fun y=>if y=n then QB v else m y)
theorem Ew (k:X6->QW Q2Z):∀(b:QC (X6×QI)) (m:X6->QW QI),bindL k b m=CK k b m
 | [],m=>QA
 | (n,v)::r,m=>Ew k r _
theorem Ex (k:X6->QW Q2Z):∀(b:QC (X6×QI)) (m:X6->QW QI),bindC k b m=B5 k b m
 | [],m=>QA
 | (n,v)::r,m=>Ex k r _
theorem BR.bindL {Λ:Lab} {k:X6->QW Q2Z} {b:QC (X6×QU)} {b':QC (X6×QI)} (h:BR Λ b b'):∀ {m:X6->QW QU} {m':X6->QW QI},(∀x,OV Λ (m x) (m' x))->∀x,OV Λ (CK k b m x) (CK k b' m' x):=by
 induction h with
 | Zl=>exact fun h=>h
 | @Xu n v c r q hv _ ih =>
  intro m m' hm
  refine ih fun x=>?_
  by_cases hk:k n=QB .Q5v
  ·rewrite [QY hk,QY hk]
   by_cases hx:x=n
   ·rw [QY hx,QY hx];exact hv
   ·rw [QN hx,QN hx];exact hm x
  ·rewrite [QN hk,QN hk];exact hm x
theorem BR.bindC {Λ:Lab} {k:X6->QW Q2Z} {b:QC (X6×QU)} {b':QC (X6×QI)} (h:BR Λ b b'):∀ {m:X6->QW QU} {m':X6->QW QI},(∀x,OV Λ (m x) (m' x))->∀x,OV Λ (B5 k b m x) (B5 k b' m' x):=by
 induction h with
 | Zl=>exact fun h=>h
 | @Xu n v c r q hv _ ih =>
  intro m m' hm
  refine ih fun x=>?_
  by_cases hk:k n=QB .Q5v
  ·rewrite [QY hk,QY hk];exact hm x
  ·rewrite [QN hk,QN hk]
   by_cases hx:x=n
   ·rw [QY hx,QY hx];exact hv
   ·rw [QN hx,QN hx];exact hm x
def AA (cm:X6->QW QU):QC X6->St->St
 | [],σ=>σ
 | n::r,σ=>AA cm r (Qw (.YQ (cm n)))
def HH:QC X6->QH->QC (X6×QH)
 | [],_=>[]
 | n::r,k=>(n,k)::HH r (k+1)
theorem TW (n:X6) (r:QC X6) (k:QH):HH (n::r) k=(n,k)::HH r (k+1):=QA
theorem C2 {c:Cx} {fz:Qq->QW ZC} {L:Qq} {cm:X6->QW QU} {cm':X6->QW QI} {s:QZ}:∀(cs:QC (X6×Qq)) {Λ:Lab} {σ:St},Rel c fz L Λ σ s->(∀x,OV Λ (cm x) (cm' x))->(∀p∈cs,QD0 p.2 (cm' p.1))->cs.Pairwise (fun x y=>x.2≠y.2)->(∀p∈cs,L < p.2/\fz p.2=QG/\∀l,l < Xh->Xr l≠p.2) ->
  ∃Za,Q0A Za/\Rel c fz L Za (AA cm (QEm (·.1)) σ) s/\∀x l,(HH (QEm (·.1)) Xh).QEi x=QB l->l < QDP/\QDt x=QB (Q4W l)
 | [],Λ,σ,r,hm,hc,hp,ha=>⟨Λ,.Q1H _,r,fun x l h=>by simp [HH]at h⟩
 | (n,a)::cs,Λ,σ,r,hm,hc,hp,ha=>by
  obtain (⟨o,ho,hd⟩):=hc (n,a) (.Zc _)
  refine an3 (ha (n,a) (.Zc _)) fun h1 h2 h3=>?_
  have e1:=XL Λ a
  have hor:OR XI c.w (Z5 a) (.YQ (cm n)) o:=by
   refine ⟨cm' n,hd,?_⟩
   have:=hm n
   cases q:cm n <;> cases q':cm' n <;> rw [q,q']at this <;> first | exact this | exact VR.ext e1 this
  have r1:=r.label (o:=.YQ (cm n)) ho (Yp h1) h2 h1 h3 hor
  rw [Q96]at hp
  have fs:(Z5 a).f Xh=a:=QY QA
  obtain (⟨Za,e2,r2,hl⟩):=C2 cs r1 (fun x=>(hm x).ext e1) (fun p hp'=>hc p (.Q31 _ hp')) hp.2 fun p hp'=>by
   refine an3 (ha p (.Q31 _ hp')) fun g1 g2 g3=>?_
   refine ⟨g1,g2,fun l hlt=>?_⟩
   by_cases hq:l=Xh
   ·subst hq;rw [fs];exact hp.1 p hp'
   ·have hl2:l < Xh:=by have:l < Xh+1:=hlt;exact BH hq this
    rw [e1.2 l hl2];exact g3 l hl2
  refine ⟨Za,YY e2,r2,fun x l h=>?_⟩
  rw [XR]at h
  rw [TW]at h
  rw [Z1]at h ⊢
  cases hx:x == n with
  | QM =>
   rw [hx]at h
   cases h
   have hlt:Xh < (Z5 a).n:=Xx _
   exact ⟨QQ hlt e2.1,by rw [e2.2 _ hlt,fs]⟩
  | QJ =>
   rw [hx]at h
   exact hl x l h
theorem Cg:∀(Q41:QC (X6×Q2Z)) (n:QH) (acc acc':QC (X6×Qq)),QBj (·.1)=acc'.map (·.1)->∀m,(Q57 n Q41 acc).map (·.1)=(Q57 m Q41 acc').map (·.1)
 | [],n,acc,acc',h,m=>h
 | (x,k)::r,n,acc,acc',h,m=>by
  unfold Q57
  split
  ·exact Cg r _ _ _ (by simp [h]) _
  ·exact Cg r _ _ _ h _
def AZ (sc:Q0J):QC X6:=(Q57 0 sc.names []).map (·.1)
theorem Ci {x:X6}:∀ {cs:QC (X6×Qq)},x∈QEm (·.1)->(QDt x).QAT=QM
 | [],h=>by simp at h
 | (n,a)::r,h=>by
  rw [Z1]
  cases hx:x == n with
  | QM=>rfl
  | QJ =>
   rw [XR]at h
   rcases XP h with e | h
   ·rw [e]at hx;simp at hx
   ·exact Ci h
theorem CG {x:X6} {a:Qq}:∀ {cs:QC (X6×Qq)},(QEm (·.1)).QDu->(x,a)∈cs->QDt x=QB a
 | [],_,h=>by cases h
 | (n,b)::r,hn,h=>by
  rw [XR,QBS]at hn
  rw [Z1]
  rcases XP h with e | h
  ·cases e;simp
  ·have hne:(x == n)=QJ:=by
    cases hx:x == n with
    | QJ=>rfl
    | QM=>exact Xc (Q0D ⟨(x,a),h,Z0 hx⟩) hn.1
   rw [hne];exact CG hn.2 h
def K7 (sc:Q0J) (xs:QC X6):Qu:=xs.all fun x=>Q18 x == QB .Q5v || (Q18 x == QB .YQ&&(AZ sc).QG3 x)
def JG (G:Pg) (rec:Av) (tb:QW (Qq×QH)) (a:Qq) (Xb:QC QU):PT QU:=fun σ P =>
 ∃fd YZ xs dv n,Q83 G.K a fd YZ xs dv/\Q4b=Qn/\(AZ Q1M).QDu/\K7 Q1M (xs++QAr (·.1))=QM /\
  exs G rec n ⟨Q1M,HH (AZ Q1M) QO,QA5,tb⟩ YZ
   (AA (B5 (fun x=>Q12 x) (AK xs Xb dv) fun _=>QG) (AZ Q1M) {σ with loc:=CK (fun x=>Q12 x) (AK xs Xb dv) fun _=>QG})
   fun fl XF=>P (Lo fl) {XF with loc:=Xv}
end
section
variable {c:Cx} {A:Around} {env:Env} {fm:Fm} {Λ:Lab} {σ:St} {G:Pg} {rec:Av}
theorem NU (hc:c.Ok) (hK:G.K=c.K) (hroom:A.depth < recursionLimit) {L:Addr} {a:Addr} {args:List Val} {as:List Value} {P:Val->St->Prop}
  (S:∀env' fm' n,Snd c (A.deeper env') env' fm' G rec n) (ha:VRs Λ args as) {tb:Option (Addr×Nat)} (htb:∀P l,tb=some (P,l)->l < Λ.n/\Λ.f l=P) (h:JG G rec tb a args σ P):Bz c A L Λ (.ref a) as σ P:=fun fz s Q r q=>by
 obtain (⟨fd,body,xs,dv,n,F,hlen,hnd,hbo,h⟩):=h
 rw [hK]at F
 have X:=hc.inK.keeps r.gkeep
 refine ew3 F.at' fun oc od osl hat=>?_
 refine codeAny_call_function (fd:=fd) (body:=body) hroom (X _ _ hat) rfl F.co F.gen F.body (codeRec_of X F.code) ?_
 refine kp_binds X (fun S=>F.bind S as (by rw [<- ha.length];exact hlen)) _ _ _ _ ?_
 rw [F.clo]
 have hcn:∀k,(cellsFrom k fd.scope.names []).map (·.1)=AZ fd.scope:=fun k=>Cg _ _ _ _ rfl _
 refine wpAny_newFunctionEnv_cells F.kd (fun x hx=>?_) fun env' he s' I=>?_
 ·have hall:=List.all_eq_true.mp hbo
  have hm:x.1∈xs++dv.map (·.1):=by
   rcases List.mem_append.mp hx with hx | hx
   ·exact List.mem_append.mpr (.inl (List.of_mem_zip hx).1)
   ·exact List.mem_append.mpr (.inr (List.mem_map.mpr ⟨x,hx,rfl⟩))
  have:=hall _ hm
  simp only [Bool.or_eq_true,Bool.and_eq_true,beq_iff_eq]at this
  rcases this with h | ⟨h1,h2⟩
  ·exact .inl h
  ·refine .inr ⟨h1,Ci ?_⟩
   rw [hcn]
   simpa using h2
 ·subst he
  obtain (⟨⟨hh,tk,rfl⟩,hns,hkeep,hfresh⟩):=I.toInCall
  have hbr:BR Λ (AK xs args dv) (xs.zip as++dv):=(BR.zip ha).append (BR.imm dv)
  have r':=r.enter (s':={s with heap:=hh,toks:=tk}) (loc:=CK (fun x=>fd.scope.names.lookup x) (AK xs args dv) fun _=>none) rfl rfl hkeep hfresh hns (fun x=>by
   rw [Ew];exact hbr.bindL (m:=fun _=>none) (m':=fun _=>none) (fun _=>trivial) x)
  have hnd':((cellsFrom (s.heap.objs.size+1) fd.scope.names []).map (·.1)).Nodup:=by rw [hcn];exact hnd
  obtain (⟨Λ',e',r2,hl⟩):=C2 (cm:=B5 (fun x=>fd.scope.names.lookup x) (AK xs args dv) fun _=>none) (cm':=B5 (fun x=>fd.scope.names.lookup x) (xs.zip as++dv) fun _=>none) (cellsFrom (s.heap.objs.size+1) fd.scope.names []) r' (fun x=>hbr.bindC (m:=fun _=>none) (m':=fun _=>none) (fun _=>trivial) x)
   (fun p hp=>by
    have:=I.cell p.1 p.2 (CG hnd' hp)
    rw [Ex]at this;exact this) I.apart (fun p hp=>by
    have hgt:=I.above p.1 p.2 hp
    have hsz:s.heap.objs.size < p.2:=hgt
    refine ⟨hgt,?_,fun l hlt e=>?_⟩
    ·cases hq:fzN Λ s.heap p.2 with
     | none=>rfl
     | some o=>exact absurd (Heap.lt_size (B3 hq)) (Nat.not_lt.mpr (Nat.le_of_lt hsz))
    ·refine ew1 (r.ob l hlt) fun o yq3z=>?_;refine an2 yq3z fun ho _=>?_;clear yq3z
     rw [e]at ho
     exact absurd (Heap.lt_size ho) (Nat.not_lt.mpr (Nat.le_of_lt hsz)))
  rw [hcn]at r2 hl
  refine ⟨(hc.top.nolimit.keeps r.gkeep).keeps hkeep,codeAny_func ?_⟩
  refine (S _ ⟨fd.scope,HH (AZ fd.scope) σ.nx,fd.code,tb⟩ n).xs body Λ' _ _ h (fzN Λ s.heap) _ _ _ ⟨rfl,F.gl,F.bl,F.kd,fun x l hl'=>?_,rfl,fun P l h=>let ⟨a1,a2⟩:=htb P l h;⟨Nat.lt_of_lt_of_le a1 e'.1,by rw [e'.2 l a1];exact a2⟩⟩ r2 ?_
  ·have:=hl x l (by rw [r'.nn];exact hl')
   exact this
  ·intro Λ2 s2 fl f σ2 e2 p2 hf r3
   refine q Λ2 s2 (Lo fl) _ _ (e'.trans e2) p2 ?_ (r.leave r3 (e'.trans e2))
   cases fl with
   | next=>cases hf;rfl
   | brk=>cases hf;rfl
   | cont=>cases hf;rfl
   | ret v=>obtain (⟨cv,rfl,hv⟩):=hf;exact hv
end
end Mini
end
section
open PySem PySem.W PySem.Calls PyProof.Rows
namespace Mini
mutual
def ae4 (Xb:QC QU):PT QU:=fun σ P=>on1 Xb fun a=>Ai a fun l=>∃ns:QC X3,QS l=.Qs (Q4J .Qm)/\(∀n∈ns,0<=n/\n<=2 ^ 31)/\Q2F<=2 ^ 24/\P (.Qm QGb) σ
theorem KV {Λ:Lab}:∀ {ns:QC X3} {vs:QC QI},VRs Λ (Q4J .Qm) vs->∃ps:QC (X3×Tok),vs=Q13 (fun p=>.Qm p.1 p.2)/\Q13 (·.1)=ns
 | [],vs,h=>by cases h;exact ⟨[],QA,QA⟩
 | n::ns,vs,h=>by
  rw [XR]at h
  cases h with | Xu h1 h2 =>
  obtain (⟨t,QA⟩):=h1
  refine ew1 (KV h2) fun ps yq3F=>?_;refine an2 yq3F fun yq3G e=>?_;obtain QA:=yq3G;clear yq3F
  exact ⟨(n,t)::ps,QA,by rw [XR,e]⟩
theorem Nj (ps:QC (X3×Tok)) (i:QH):numAt ps.toArray i=(Q13 (·.1)).Q4f i 0:=by
 unfold numAt
 simp [Q5R]
theorem G9 (ns:QC X3) (val:QH->X3) (hv:∀i,val i=ns.getD i 0):∀k,k<=Q2F->preSum val k=(ns.take k).sum
 | 0,_=>by simp [preSum]
 | k+1,h=>by
  have hlt:k < Q2F:=h
  show preSum val k+val k=_
  rw [G9 ns val hv k (XD hlt),hv,List.take_succ_eq_append_getElem hlt,List.sum_append]
  simp [Q5R,hlt]
theorem GZ:∀(ns:QC X3),(∀n∈ns,0<=n/\n<=2 ^ 31)->0<=QGb/\QGb<=Q2F*2 ^ 31
 | [],_=>by simp
 | n::ns,h=>by
  have h1:=h n (.Zc _)
  have h2:=GZ ns fun m hm=>h m (.Q31 _ hm)
  rw [Zr,XZ]
  refine ⟨Int.add_nonneg h1.1 h2.1,?_⟩
  rw [show ((Q2F+1:QH):X3)*2 ^ 31=2 ^ 31+Q2F*2 ^ 31 from (QFF (Q2F:X3) 1 (2 ^ 31)).QR (Int.add_comm _ _)]
  exact Int.add_le_add h1.2 h2.2
end
section
variable {c:Cx} {A:Around} {env:Env} {fm:Fm} {Λ:Lab} {σ:St}
theorem OL {args:List Val} {as:List Value} {P:Val->St->Prop} (hA:AOk A) (ha:VRs Λ args as) (h:ae4 args σ P):Sim c A env fm Λ (call (.builtin "sum") as) VR σ P:=by
 refine on1.el ha h fun v a h1 h=>Ai.el h fun l ev h=>?_;subst ev
 ·skip
  refine ew1 h fun ns yq3J=>?_;refine an4 yq3J fun e hs hl p=>?_;clear yq3J
  refine Sim.of fun fz s ok r Q E q=>?_
  refine an3 (r.listsV h1 e) fun yq3K g1 yq3L=>?_;obtain rfl:=yq3K;refine ew2 yq3L fun vs k yq3M=>?_;refine an2 yq3M fun a1 a2=>?_;clear yq3L yq3M
  refine ew1 (KV a2) fun ps yq3N=>?_;refine an2 yq3N fun yq3O yq3P=>?_;obtain rfl:=yq3O;obtain rfl:=yq3P;clear yq3N
  have hlist:s.heap.IsList (Λ.f l) (intItems ps.toArray):=by
   have:=Al a1
   rw [show (List.map (fun p:Int×Tok=>Value.int p.1 p.2) ps).toArray=intItems ps.toArray by simp [intItems]]at this
   exact this
  have hval:∀i,numAt ps.toArray i=(ps.map (·.1)).getD i 0:=Nj ps
  have hps:=G9 (ps.map (·.1)) (numAt ps.toArray) hval
  have hsz:ps.toArray.size=(ps.map (·.1)).length:=by simp
  refine sum_intList hA.handled hlist (fun j hj=>?_) fun h' tk t' hk=>?_
  ·rw [hsz]at hj
   have hmem:numAt ps.toArray j∈ps.map (·.1):=by
    rw [hval,List.getD_eq_getElem?_getD,List.getElem?_eq_getElem hj];exact List.getElem_mem hj
   have b1:=hs _ hmem
   have b2:=GZ ((ps.map (·.1)).take (j+1)) fun n hn=>hs n (List.mem_of_mem_take hn)
   rw [hps (j+1) hj]
   have hle:((ps.map (·.1)).take (j+1)).length<=2 ^ 24:=Nat.le_trans (by rw [List.length_take];exact Nat.min_le_right ..) hl
   have:(((ps.map (·.1)).take (j+1)).length:Int)<=2 ^ 24:=by exact_mod_cast hle
   constructor
   ·constructor <;> omega
   ·constructor <;> omega
  ·rw [hsz,hps _ (Nat.le_refl _),List.take_length]
   exact q Λ _ _ _ σ (.refl _) p ⟨_,rfl⟩ (r.grow (tk:=tk) (dr:=s.drawn) hk)
end
end Mini
end
section
open PySem PySem.W PySem.Calls PyProof.Rows
namespace Mini
section
variable {prog:Program} {w:World} {A:Around} {R:Result->Shared->Prop} {s:Shared}
theorem N6 {a:Addr} {args:Args} {o:Obj} {fd:FuncData} {body:Expr} {q:Str} (hroom:A.depth < recursionLimit)
  (ho:s.heap.get? a=some o)
  (hd':o.data=.func fd) (hco:fd.scope.isCoroutine=false) (hgen:fd.scope.isGenerator=false) (hbody:fd.body=.expr body) (hcd:s.heap.CodeRec fd.code q)
  (h:wpAny (model prog w) A.in1 (bindArgs fd args) (fun binds s₁ =>
   wpAny (model prog w) A.in1 (newFunctionEnv fd.scope fd.globals fd.closure binds (q++".<locals>.") (some a) fd.code none fd.builtins)
    (fun env s₂=>s₂.heap.NoLimit/\codeAny (model prog w) A (.expr body env) R s₂) (fun e s'=>R (.error e) s') s₁) (fun e s'=>R (.error e) s') s) :
  codeAny (model prog w) A (.call (.ref a) args) R s:=by
 injections prog w A R s a args o fd body q _ _ _ _ _ _ _ _
 refine codeAny_of_tree ?_
 show wpAny _ A.in1 (callAny (.ref a) args) _ _ s
 refine wpAny_bind (m:=load a) (wpAny_load ho ?_)
 obtain ⟨c,oc,vs,tq,hc,hoc,hdc,hq⟩:=hcd
 rw [hd']
 show wpAny _ _ (callFunction a fd args) _ _ _
 delta callFunction
 rw [hc,hco,hgen,hbody]
 rw [hc]at h
 refine wpAny_bind (m:=field (.ref c) 1) (wpAny_field hoc hdc hq (wpAny_bind (wpAny_pure ?_)))
 exact wpAny_bind (wpAny_mono h (fun binds s₁ h₁=>wpAny_bind (wpAny_mono h₁ (fun env s₂ h₂=>wpAny_bind (wpAny_enterFrame h₂.1 hroom (wpAny_pure (And.intro rfl h₂.2)))) fun _ _ h'=>h')) fun _ _ h'=>h')
end
noncomputable def IK (G:Pg) (rec:Av) (l:Nat) (args:List Val):PT Val:=fun σ P =>
 ∃(as':Arguments) (body:Expr) (scope:Scope) (qual:Str) (pm ctv:Value) (lc:Nat) (oc:Obj) (q:Str) (xs:List Str) (n:Nat),
  σ.hp l=.lam (Dz as' body scope qual pm ctv) lc/\σ.hp lc=.raw oc/\C9 q oc/\(scope.isCoroutine=false/\scope.isGenerator=false/\scope.kind=.function)/\Fa scope=true/\D9 scope xs=true/\args.length=xs.length /\
  (∀cdv as,as.length=xs.length->bindArgs (kla_fn "<lambda>" qual as' body scope [] pm cdv ctv) ⟨as,[]⟩=pure (xs.zip as)) /\
  (∀cdv,ev G rec n ⟨scope,[],cdv,none⟩ body (σ.frame (xs.zip args)) fun v σ'=>P v {σ' with loc:=σ.loc})
section
variable {c:Cx} {A:Around} {Λ:Lab} {σ:St} {G:Pg} {rec:Av}
theorem NT (hc:c.Ok) (hroom:A.depth < recursionLimit) {L:Addr} {l:Nat} {x:Value} {args:List Val} {as:List Value} {P:Val->St->Prop}
  (S:∀env' fm' n,Snd c (A.deeper env') env' fm' G rec n) (hx:VR Λ (.ref l) x) (ha:VRs Λ args as) (h:IK G rec l args σ P):Bz c A L Λ x as σ P:=fun fz s Q r q=>by
 obtain (⟨as',body,scope,qual,pm,ctv,lc,oc,q0,xs,n,e1,e2,e3,⟨hco,hgen,hkd⟩,hnc,hal,hlen,hbind,h⟩):=h
 refine ew1 (r.ob l hx.1) fun o yq5y=>?_;refine an2 yq5y fun ho hor=>?_;clear yq5y
 rw [e1]at hor
 obtain (⟨hlc,rfl⟩):=hor
 refine ew1 (r.ob lc hlc) fun o2 yq5z=>?_;refine an2 yq5z fun ho2 hor2=>?_;clear yq5z
 rw [e2]at hor2
 cases hor2
 obtain (⟨vs,t,hd1,hd2⟩):=e3
 rw [hx.2]
 refine N6 (body:=body) (q:=q0) (fd:=kla_fn "<lambda>" qual as' body scope [] pm (.ref (Λ.f lc)) ctv) hroom ho rfl hco hgen rfl ⟨_,_,vs,t,rfl,ho2,hd1,hd2⟩ ?_
 rw [hbind _ as (by rw [<- ha.length];exact hlen)]
 refine wpAny_pure ?_
 refine wpAny_newFunctionEnv (fun x hx=>?_) (fun x hx=>?_) (fun h' hn hs=>?_) hkd
 ·have:=List.all_eq_true.mp hnc x hx
  simpa using this
 ·have hall:=List.all_eq_true.mp hal
  have hm:x.1∈xs:=(List.of_mem_zip hx).1
  simpa using hall _ hm
 ·have hk:∀b o,s.heap.get? b=some o->h'.get? b=some o:=fun b o e=>(hs.2 b (Nat.ne_of_lt (Heap.lt_size e))).trans (Heap.get?_push_of_some _ e)
  have hbr:BR Λ (xs.zip args) (xs.zip as):=BR.zip ha
  have r':Rel c (fzN Λ s.heap) s.heap.objs.size Λ (σ.frame (xs.zip args)) {s with heap:=h',toks:=s.toks+(xs.zip as).length}:=r.enter rfl rfl hk (Nat.le_refl _) hn fun x=>hbr.rev.lookup x
  refine ⟨(hc.top.nolimit.keeps r.gkeep).keeps hk,kla_codeExpr ?_⟩
  refine (S _ ⟨scope,[],.ref (Λ.f lc),none⟩ n).ev body Λ _ _ (h _) (fzN Λ s.heap) _ _ _ ⟨rfl,rfl,rfl,hkd,fun x l hl=>by simp at hl,rfl,fun P l hl=>by cases hl⟩ r' ?_
  intro Λ2 s2 b a σ2 e2 p2 hv r2
  exact q Λ2 s2 b a _ e2 p2 hv (r.leave r2 e2)
end
end Mini
end
section
open PySem PySem.W PySem.Calls PyProof.Rows
set_option genInjectivity false
set_option genSizeOf false
set_option maxRecDepth 100000
set_option maxHeartbeats 1000000
namespace Mini
mutual
theorem Gk:QFU "map" "__init__" "object.__init__" :=
 .of (Q7f:="object") (n:="__init__") (by rw [YE,Xf];kernel_rfl) (by decide +XB) (by decide +XB) (by decide +XB)
  (by first | exact .inl (by decide +XB) | exact .inr (by decide +XB)) (by rw [YS];kernel_rfl)
theorem KO:mroOf (.Qk "map")=ZU [.Qk "map",.Qk "object"]:=by rw [mroOf_type];kernel_rfl
theorem FN:Q3O (.Qk "map") "__new__"=ZU (QB (.Qd "map.__new__")):=by rw [YE,Xf];kernel_rfl
theorem J5:TypeCalled "map" "map.__new__" "object.__init__" :=
 ⟨by decide +XB,by decide +XB,⟨_,_,KO⟩,madeBy_type KO FN (by decide +XB),by decide +XB,by rw [YS];kernel_rfl,Gk⟩
theorem Fi (a b:QI):checkTypeCall "map" ⟨[a,b],[]⟩=ZU ():=by kernel_rfl
theorem Gn (a b:QI):Q6Q "map.__new__" ⟨[.Qk "map",a,b],[]⟩=ZU ():=by kernel_rfl
theorem Gw:Q3i Q9q "map.__new__"=QB Builtin.«map.__new__»:=Q2l (by kernel_rfl)
theorem OH:Q6R (.Qk "map") (.Qk "map")=ZU QM:=by rw [YS];kernel_rfl
theorem F1:Q3i Q9q "map.__iter__"=QB Builtin.«dict_keyiterator.__iter__» :=
 Q3j (id':="dict_keyiterator.__iter__") (by kernel_rfl) (by decide +XB) (by decide +XB) (by kernel_rfl)
theorem Dw:QFU "map" "__iter__" "map.__iter__" :=
 .of (Q7f:="map") (n:="__iter__") (by rw [YE,Xf];kernel_rfl) (by decide +XB) (by decide +XB) (by decide +XB)
  (by first | exact .inl (by decide +XB) | exact .inr (by decide +XB)) (by rw [YS];kernel_rfl)
theorem GC (a:QI):Q4B "map.__iter__" ⟨[a],[]⟩:=by unfold Q4B;kernel_rfl
theorem A4:QFU "map" "__next__" "map.__next__" :=
 .of (Q7f:="map") (n:="__next__") (by rw [YE,Xf];kernel_rfl) (by decide +XB) (by decide +XB) (by decide +XB)
  (by first | exact .inl (by decide +XB) | exact .inr (by decide +XB)) (by rw [YS];kernel_rfl)
theorem C7:Q3i Q9q "map.__next__"=QB Builtin.«map.__next__»:=Q2l (by kernel_rfl)
theorem DB (a:QI):Q4B "map.__next__" ⟨[a],[]⟩:=by unfold Q4B;kernel_rfl
theorem JO:Q3O (.Qk "map") "__len__"=ZU QG:=by rw [YE,Xf];kernel_rfl
theorem IS:Q3O (.Qk "map") "__length_hint__"=ZU QG:=by rw [YE,Xf];kernel_rfl
abbrev Dy (h:ZP) (l:Qq):ZP:=h.push {cls:=.Qk "list_iterator",YA:=.Xo #[.QP l,.Qm 0 0]}
abbrev FM (h:ZP) (l:Qq):ZP:=(Dy h l).Q65 {cls:=.Qk "tuple",YA:=.seq #[.QP QFK]}
abbrev No (h:ZP) (l:Qq) (f:QI):ZP:=(FM h l).Q65 {cls:=.Qk "map",YA:=.Xo #[.QP (Dy h l).YO,f]}
theorem Gp (f:QI) (l:Qq) (xs:XM QI) :
  Meets (Builtin.«map.__new__» ⟨[.Qk "map",f,.QP l],[]⟩) (fun _ R s=>Q2G l xs/\R (.ok (.ret (.QP (FM QV l).YO))) {s with YL:=No QV l f}) :=
 .of_wp fun XC w A R s h=>by
  obtain (⟨hp,g,d,tk,os⟩):=s;obtain (⟨hl1,h⟩):=h
  have hsub:=OH
  have hL1:Heap.IsList (Shared.heap ⟨hp,g,d,tk,os⟩) l xs:=hl1
  wp_walk using QA2 hL1
  exact ⟨_,QA,h⟩
end
section
variable {prog:Program} {w:World} {A:Around} {E:Value->Shared->Prop} {s:Shared}
mutual
theorem N2 {f:QI} {l:Qq} {xs:XM QI} {Q:QI->QZ->Prop} (hl:Q2G l xs) (h:Q (.QP (QD+2)) {s with YL:=No QV l f}) :
  Qp (Qi XC w) A (Q0M (.Qk "map") [f,.QP l]) Q E s:=by
 have z1:(Dy QV l).YO=QD+1:=Q0u ..
 have z2:(FM QV l).YO=QD+2:=by rw [Q0u,z1]
 refine callType_new J5 (by decide) (Fi _ _) (Gn _ _) (fun obj=>PySem.F.args_object_init_3 obj _ _) Gw (Gp f l xs) ⟨hl,?_⟩
 show _/\_
 rw [z2]
 have g:(No QV l f).QBP (QD+2)=QB {cls:=.Qk "map",YA:=.Xo #[.QP (Dy QV l).YO,f]}:=by rw [<- z2];exact X2 _ QA
 exact ⟨⟨_,g,QA⟩,h⟩
theorem O7 {it l:Qq} {i:QH} {Xq:XM QI} {x:QI} {Q:QW QI->QZ->Prop} (hit:Q5t it l i) (hl:Q2G l Xq) (hx:Xq[i]?=QB x)
  (hQ:∀h',h'.IsListIter it l (i+1)->Z8 it QV h'->Q (QB x) {s with YL:=h'}):Qp (Qi XC w) A (Q4y (.QP it) "__next__") Q E s:=by
 obtain (⟨o,ho,hc,hd⟩):=id hit
 obtain (⟨ol,hol,_,nl,hdl⟩):=hl
 refine YH (Q1u:=Qb "__next__") Q3Q Q3T (Y2 Q3T Q3Q Q8i ?_ (Q9S _))
 show Qp _ _ (QFg (.QP it) 0 >>= _) _ _ s
 refine Q9 (Q0l ho hd (x:=.QP l) QA ?_)
 show Qp _ _ (if (Q1h l == Zv)=QM then _ else _) _ _ s
 rw [QN (show ¬((Q1h l == Zv)=QM) from Qj)]
 show Qp _ _ (QFg (.QP it) 1 >>= _) _ _ s
 refine Q9 (Q0l ho hd (x:=.Qm i 0) QA ?_)
 show Qp _ _ (QDv (.QP l) >>= _) _ _ s
 refine Q9 (Yv hol hdl ?_)
 simp only [ZA,hx]
 refine Q9 (Yw ho hd (by simp) (QF ⟨x,QA,hQ _ ?_ (XU ..)⟩))
 exact ⟨_,XO _ ho (Ya (XJ hd _)),(Q0U ..).QR hc,by rw [XJ hd];simp [Zm]⟩
theorem IP {it l:Qq} {i:QH} {Xq:XM QI} {Q:QW QI->QZ->Prop} (hh:Q4G=QG) (hit:Q5t it l i) (hl:Q2G l Xq) (hx:Xq[i]?=QG)
  (hE:∀h' e,Q0k it QV h'->(∃o,Z7 it=QB o)->(∃o,Z7 e=QB o/\Q4o=.Qk "StopIteration")->E (.QP e) {s with YL:=h'}):Qp (Qi XC w) A (Q4y (.QP it) "__next__") Q E s:=by
 obtain (⟨o,ho,hc,hd⟩):=id hit
 obtain (⟨ol,hol,_,nl,hdl⟩):=hl
 refine YH (Q1u:=Qb "__next__") Q3Q Q3T (Y2 Q3T Q3Q Q8i ?_ (Q9S _))
 show Qp _ _ (QFg (.QP it) 0 >>= _) _ _ s
 refine Q9 (Q0l ho hd (x:=.QP l) QA ?_)
 show Qp _ _ (if (Q1h l == Zv)=QM then _ else _) _ _ s
 rw [QN (show ¬((Q1h l == Zv)=QM) from Qj)]
 show Qp _ _ (QFg (.QP it) 1 >>= _) _ _ s
 refine Q9 (Q0l ho hd (x:=.Qm i 0) QA ?_)
 show Qp _ _ (QDv (.QP l) >>= _) _ _ s
 refine Q9 (Yv hol hdl ?_)
 simp only [ZA,hx]
 refine Q9 (Q0X (Q9 (Yw ho hd (by simp) ?_)))
 show Qp _ _ (QCL (.Qk "StopIteration") [] >>= _) _ _ _
 refine Q9 ?_
 simp only [QCL,Q9z]
 refine Q9 (Xk ?_ (by size_fits))
 refine Q9 (m:=Q2X _ _) (Zi (a:=Zv) (by first | rfl | (simp only [Q2X];rfl)) ?_)
 refine Xk ?_ (by size_fits)
 simp only [QA0]
 refine Q9 (Q8v ?_)
 rw [show Q8w=QG from hh]
 refine Q9 (QF (QBJ ?_))
 exact hE _ _ (((XU ..).QFh _).Q65 _) ⟨_,Qa _ (Qa _ (XO _ ho (Ya (XJ hd _))))⟩ ⟨_,X2 _ QA,QA⟩
structure QAA (h:ZP) (m tp it l:Qq) (f:QI) (i:QH):Prop where
 mo:∃o,Q03 m=QB o/\Q4o=.Qk "map"/\Q1v=.Xo #[.QP tp,f]
 tup:∃o n,Q03 tp=QB o/\Q1v=.seq #[.QP it] n
 iter:QEU it l i
theorem Q6z {m tp it l:Qq} {f:QI} {i:QH} (x:QAA QV m tp it l f i):Q5L (.QP m) "map":=let ⟨o,ho,hc,_⟩:=x.mo;⟨o,ho,hc⟩
theorem Nn {m tp it l:Qq} {f x:QI} {i:QH} {Xq:XM QI} {Q:QW QI->QZ->Prop} (M:QAA QV m tp it l f i) (hm:m≠it) (ht:tp≠it) (hl:Q2G l Xq) (hx:Xq[i]?=QB x)
  (hQ:∀h',QAA h' m tp it l f (i+1)->Z8 it QV h'->∀E',Qp (Qi XC w) Q8u (Q0M f [x]) (fun v s'=>Q (QB v) s') E' {s with YL:=h'}):Qp (Qi XC w) A (Q3P (.QP m)) Q E s:=by
 refine ew1 M.mo fun o yq6n=>?_;refine an3 yq6n fun ho hc hd=>?_;clear yq6n
 refine ew2 M.tup fun ot n yq6o=>?_;refine an2 yq6o fun hot hdt=>?_;clear yq6o
 unfold Q3P
 refine Q9 (Q3C (YH (Q1u:=Qb "__next__") Q6Y A4 (Y2 A4 Q6Y C7 ?_ (DB _))))
 unfold Builtin.«map.__next__»
 refine Q9 (QF ?_)
 dsimp only
 refine Q9 (Q0l ho hd (x:=.QP tp) QA ?_)
 refine Q9 (Yv hot hdt ?_)
 dsimp only
 simp only [Q9T,Q19,Q2a]
 refine Q9 (Q9 (Q9 (XX ?_)))
 unfold Q5b
 refine Q9 (O7 M.iter hl hx fun h' hit' hs=>?_)
 have M':QAA h' m tp it l f (i+1):=⟨⟨o,(hs.2 _ hm).QR ho,hc,hd⟩,⟨ot,n,(hs.2 _ ht).QR hot,hdt⟩,hit'⟩
 refine QF (QF (QF ?_))
 refine ew1 M'.mo fun o2 yq6p=>?_;refine an3 yq6p fun ho2 hc2 hd2=>?_;clear yq6p
 refine Q9 (Q0l (s:={s with YL:=h'}) ho2 hd2 (x:=f) QA ?_)
 refine Q9 (XX (YX (hQ h' M' hs _) (fun v s' hq=>?_) fun _ _ e=>e))
 refine Q9 (QBM ?_)
 exact QF ⟨_,QA,QF hq⟩
theorem Pa {m tp it l:Qq} {f:QI} {i:QH} {Xq:XM QI} {Q:QW QI->QZ->Prop} (hh:Q4G=QG) (M:QAA QV m tp it l f i) (hl:Q2G l Xq) (hx:Xq[i]?=QG)
  (hQ:∀h',Q0k it QV h'->(∃o,Z7 it=QB o)->Q QG {s with YL:=h'}):Qp (Qi XC w) A (Q3P (.QP m)) Q E s:=by
 refine ew1 M.mo fun o yq6q=>?_;refine an3 yq6q fun ho hc hd=>?_;clear yq6q
 refine ew2 M.tup fun ot n yq6r=>?_;refine an2 yq6r fun hot hdt=>?_;clear yq6r
 unfold Q3P
 refine Q9 (Q3C (YH (Q1u:=Qb "__next__") Q6Y A4 (Y2 A4 Q6Y C7 ?_ (DB _))))
 unfold Builtin.«map.__next__»
 refine Q9 (QF ?_)
 dsimp only
 refine Q9 (Q0l ho hd (x:=.QP tp) QA ?_)
 refine Q9 (Yv hot hdt ?_)
 dsimp only
 simp only [Q9T,Q19,Q2a]
 refine Q9 (Q9 (Q9 (XX ?_)))
 unfold Q5b
 refine Q9 (IP hh M.iter hl hx fun h' e he hio hcl=>?_)
 refine ew1 hcl fun oe yq6s=>?_;refine an2 yq6s fun hoe hce=>?_;clear yq6s
 exact Q9 (Q2o (T:="StopIteration") (b:=QM) ⟨_,hoe,hce⟩ Q7v (QF (hQ _ he hio)))
theorem JC {m tp it l:Qq} {f:QI} {i:QH} {Q:QI->QZ->Prop} (M:QAA QV m tp it l f i) (h:Q (.QP m) s):Qp (Qi XC w) A (Q4h (.QP m)) Q E s:=by
 refine Q5u Q6Y Dw (Y2 Dw Q6Y F1 ?_ (GC _))
 show Qp _ _ (ret (.QP m)) _ _ s
 exact QF ⟨_,QA,"map",_,Q6Y,A4.lookup,h⟩
end
end
end Mini
end
section
open PySem PySem.W PySem.Calls PyProof.Rows
set_option maxRecDepth 100000
set_option maxHeartbeats 1000000
namespace Mini
section
variable {prog:Program} {w:World} {A:Around} {E:Value->Shared->Prop} {s:Shared} {K:Frag} {t C:Addr} {items:Array Value} {n:Nat}
mutual
theorem C6 {I S:Qq} {res:QI} {R:Q7w->QZ->Prop} (J:QH->XM QI->QZ->Prop)
  (QHI:∀k acc s,J (k+1) acc s->∀E,Qp (Qi XC w) Q8u (Q3P (.QP I)) (fun r s'=>∃x,r=QB x/\(∃c,Q3p S=QB {cls:=.Qk "list",YA:=.seq acc c})/\Q4c+1<=Xa/\J k (Q9s x) {s' with YL:=s'.heap.update S (ZY (·.Q65 x))}) E s)
  (QDF:∀acc s,J 0 acc s->∀E,Qp (Qi XC w) Q8u (Q3P (.QP I)) (fun r s'=>r=QG/\R (.ok (.ret res)) s') E s) :
  ∀k acc s,J k acc s->Q1J (Qi XC w) A (.Qd "list.extend.loop" ⟨[.QP S,.QP I,res],[]⟩) R s
 | 0,acc,s,h=>by
  refine ZV Q5c ?_
  rw [Zj Q05 _]
  refine Q9 (YX (QDF acc s h _) (fun r s' hr=>?_) fun _ _ e=>e)
  obtain (⟨QA,hr⟩):=hr
  exact QF hr
 | k+1,acc,s,h=>by
  refine ZV Q5c ?_
  rw [Zj Q05 _]
  refine Q9 (YX (QHI k acc s h _) (fun r s' hr=>?_) fun _ _ e=>e)
  refine ew1 hr fun x yq6t=>?_;refine an4 yq6t fun yq6u yq6v hsz hJ=>?_;obtain QA:=yq6u;refine ew1 yq6v fun c hS=>?_;clear yq6t yq6v
  refine Q9 (Q2A hS QA (QF ⟨Q2C Q05 _,C6 J QHI QDF k (Q9s x) _ hJ⟩) (by exact GL hsz) (by show (Q9s x).size<=Xa+1;rw [Q4j];exact acK hsz))
theorem IU {m tp it l:Qq} {f:QI} {i0:QH} {Q:QI->QZ->Prop} (hM:QAA QV m tp it l f i0) (J:QH->XM QI->QZ->Prop) (k:QH)
  (hJ0:∀h' c,(∀b o,Qc b=QB o->Z7 b=QB o)->Z7 QD=QB {cls:=.Qk "list",YA:=.seq #[] c}->J k #[] {s with YL:=h'})
  (QHI:∀k acc s',J (k+1) acc s'->∀E,Qp (Qi XC w) Q58 (Q3P (.QP m)) (fun r s''=>∃x,r=QB x/\(∃c,s''.heap.get? QD=QB {cls:=.Qk "list",YA:=.seq acc c})/\Q4c+1<=Xa/\J k (Q9s x) {s'' with YL:=s''.heap.update QD (ZY (·.Q65 x))}) E s')
  (QDF:∀acc s',J 0 acc s'->∀E,Qp (Qi XC w) Q58 (Q3P (.QP m)) (fun r s''=>r=QG/\Q (.QP QD) s'') E s') :
  Qp (Qi XC w) A (Q0M (.Qk "list") [.QP m]) Q E s:=by
 injections XC w A E s m tp it l f i0 Q _ J k _ _ _
 refine QCg (Q₁:=fun obj Q1m=>obj=.QP QD/\Q1m={s with YL:=XK {cls:=.Qk "list",YA:=.seq #[]}}) PySem.F.called_list (PySem.F.typeCall_list_1 _) PySem.F.entry_list_init
  (code_list_new _ ⟨QA,QA⟩) fun obj Q1m Q1Q=>?_
 obtain ⟨QA,QA⟩:=Q1Q
 have hS:(XK {cls:=.Qk "list",YA:=.seq #[]}).QBP QD=QB {cls:=.Qk "list",YA:=.seq #[]}:=X2 _ QA
 refine ⟨⟨_,hS,QA⟩,PySem.F.args_list_init_2 _ _,?_⟩
 have hne:QD≠m:=by
  intros q
  obtain ⟨o,ho,_⟩:=hM.mo
  exact Xc (Qz ho) (by rw [<- q];exact XY _)
 show Qp _ Q58 (do let old <- Builtin.List.listItems (.QP QD);Builtin.List.listUpdate (.QP QD) (fun _=>#[]);letGo old.toList.reverse;Q2P (.QP QD) (.QP m) .QG) _ _ _
 refine Q9 (Q9 (Yv hS QA (QF ?_)))
 refine Q9 (Q2A hS QA ?_)
 have hS₂:=XO (ZY (fun _=>(#[]:XM QI))) hS QA
 have oth:∀b o,Qc b=QB o->((XK {cls:=.Qk "list",YA:=.seq #[]}).QGc QD (ZY (fun _=>(#[]:XM QI)))).QBP b=QB o :=
  fun b o e=>(Yr _ _ (Yp (Qz e))).QR (Qa _ e)
 refine Q9 (QBM ?_)
 have hM2:QAA ((XK {cls:=.Qk "list",YA:=.seq #[]}).QGc QD (ZY (fun _=>(#[]:XM QI)))) m tp it l f i0:=by
  obtain ⟨o,ho,r1⟩:=hM.mo
  obtain ⟨o2,n2,ho2,r2⟩:=hM.tup
  obtain ⟨o3,ho3,r3⟩:=hM.iter
  exact ⟨⟨o,oth _ _ ho,r1⟩,⟨o2,n2,oth _ _ ho2,r2⟩,⟨o3,oth _ _ ho3,r3⟩⟩
 refine Q9 (wpAny_typeOf (Q6z (s:={s with YL:=_}) hM2) ?_)
 have h1:Q1T (.QP QD) (.QP m)=QJ:=by simp [Q1T,hne]
 have h2:(Q2W "map" == Q2W "list")=QJ:=by decide
 have h3:(Q2W "map" == Q2W "tuple")=QJ:=by decide
 simp only [h1,h2,h3,QDG,XQ,Zf]
 refine Q9 (JC (s:={s with YL:=_}) hM2 ?_)
 refine Q9 (XX ?_)
 refine Q9 (Q7F (Q6z (s:={s with YL:=_}) hM2) JO ?_)
 refine Q9 (Q7F (Q6z (s:={s with YL:=_}) hM2) IS ?_)
 refine QF ?_
 show Qp _ Q58 (rule "list.extend.makes-room" >>= fun _=>Q70 (.QP QD) >>= fun _ =>
  QBH (.Qd "list.extend.loop" ⟨[.QP QD,.QP m,.QG],[]⟩)) _ _ _
 refine Q9 (Q0X (Q9 ?_))
 refine Q9 (Q2A hS₂ QA ?_)
 have QG4:=XO (ZY (·.Q65 Zv)) hS₂ QA
 refine Q2A (hz:=by seq_fits) QG4 QA ?_
 have hS₄:=XO (ZY (·.pop)) QG4 QA
 refine QF ⟨Q2C Q05 _,C6 (A:=Q8u) J QHI (fun acc s' hj E'=>YX (QDF acc s' hj _) (fun r s'' ⟨a,b⟩=>⟨a,QA,b⟩) fun _ _ e=>e) k #[] _ (hJ0 _ _ ?_ hS₄)⟩;intros b o e
 have hb:QD≠b:=Yp (Qz e)
 exact (Yr _ _ hb).QR ((Yr _ _ hb).QR (oth b o e))
def D0 (K:Q1A) (C:Qq):Qu:=(QGR K (.QP C) "__len__" == QB (QB (.Qd "tuple.__len__")))&&(subIn K (.QP C) (.Qk "tuple") == QB QM)
theorem Mw:QBI "tuple.__len__"=QB .slot:=by decide +XB
theorem GY:QH1 "tuple.__len__"=QB ("tuple","__len__"):=by decide +XB
theorem Li:QBg "tuple.__len__"=QM:=by decide +XB
theorem KT {Q:QI->QZ->Prop} {o:ZC} (X:QAf QV) (hk:D0 K C=QM) (ho:Qc t=QB o) (hc:Q4o=.QP C) (hd:Q1v=.seq Xq n) (hfit:(Z2:X3) < 2 ^ 63)
  (h:∀tk tk',Q (.Qm Z2 tk) {s with Q0P:=tk'}):Qp (Qi XC w) A (Q0M (.Qd "len") [.QP t]) Q E s:=by
 injections XC w A E s K t C Xq n Q o _ _ _ _ _ _ _
 simp only [D0,X7,ZJ]at hk
 have LT:ZL (Qi XC w) QV (Q14 (.QP t)) (.QP C):=by
  have:ZL (Qi XC w) QV (Q14 (.QP t)) Q4o:=(Q1j ho).Q2k .now
  rw [hc]at this;exact this
 have LI:ZL (Qi XC w) QV (Q1p (.QP t) "__len__") (QB (.Qd "tuple.__len__")):=Q4E (Q22 X hk.1)
 have LS:ZL (Qi XC w) QV (Zw (.QP t) (.Qk "tuple")) QM:=Q4E (Q5q X hk.2)
 refine Calls.call_function_entry kind_len plain_len entry_len (args_len1 _) ?_
 unfold Builtin.«len»
 refine Q9 (m:=oneArg "len" _) (QF ?_)
 refine Q9 (m:=Q4y (.QP t) (Qb "__len__")) ?_
 simp only [Q4y]
 refine Q9 (QES ?_)
 simp only [PySem.F.slot_tuple_len.bind]
 refine XX (Q9 (QF (Q9 ?_)))
 refine Q20 (Q2V (b:=Builtin.«tuple.__len__») Li PySem.F.entry_tuple_len ?_)
 refine Q6r (i:="tuple.__len__") (Q7f:="tuple") (n:="__len__") (Q1e:=.QP t) (Q9m:=[]) (kw:=[]) Mw GY LS (PySem.F.args_tuple_len_1 _) ?_
 show Qp _ _ (Q2b (.QP t) >>= _) _ _ _
 unfold Q2b
 refine Q9 (Q9 (Yv ho hd (QF ?_)))
 refine Q9 (QG5 (QF ?_))
 refine QF ?_
 refine Q9 (XX (QF ?_))
 refine Q9 (QBM ?_)
 rw [QN (by omega)]
 rw [QN (by omega)]
 exact Q9 (QG5 (QF ⟨_,QA,h _ _⟩))
end
end
end Mini
end
section
open PySem PySem.W PySem.Calls PyProof.Rows
set_option maxRecDepth 100000
set_option maxHeartbeats 1000000
namespace Mini
section
variable {prog:Program} {w:World} {A:Around} {E:Value->Shared->Prop} {s:Shared} {K:Frag} {t C:Addr} {items:Array Value} {n:Nat}
mutual
theorem NH {Q:Qu->QZ->Prop} {o:ZC} (X:QAf QV) (hk:D0 K C=QM) (ho:Qc t=QB o) (hc:Q4o=.QP C) (hd:Q1v=.seq Xq n) (hfit:(Z2:X3) < 2 ^ 63) (hpos:0 < Z2)
  (h:∀tk,Q QM {s with Q0P:=tk}):Qp (Qi XC w) A (Q52 (.QP t)) Q E s:=by
 injections XC w A E s K t C Xq n Q o _ _ _ _ _ _ _ _
 have hk':=hk
 simp only [D0,X7,ZJ]at hk
 have LT:ZL (Qi XC w) QV (Q14 (.QP t)) (.QP C):=by
  have:ZL (Qi XC w) QV (Q14 (.QP t)) Q4o:=(Q1j ho).Q2k .now
  rw [hc]at this;exact this
 have LI:ZL (Qi XC w) QV (Q1p (.QP t) "__len__") (QB (.Qd "tuple.__len__")):=Q4E (Q22 X hk.1)
 have LS:ZL (Qi XC w) QV (Zw (.QP t) (.Qk "tuple")) QM:=Q4E (Q5q X hk.2)
 unfold Q52
 refine Q9 (QES ?_)
 dsimp only
 rw [GY]
 dsimp only
 refine Q9 (LS.here ?_)
 rw [QN (show ¬((!QM)=QM) from Qj)]
 try rw [QY (by decide +XB)]
 refine Q9 (QHJ ?_)
 dsimp only
 refine Q9 (KT X hk' ho hc hd hfit ?_);intros tk tk'
 refine Q9 (Zi (a:=QB (Z2:X3)) QA ?_)
 refine QF ?_
 rw [show ((Z2:X3) != 0)=QM from bne_iff_ne.mpr (by omega)]
 exact h tk'
theorem Jb {Q:QC QI->QZ->Prop} {dct:QW Qq} (hh:Q4G=QG) (X:QAf QV) (hk:Du K C=QM) (hl:D0 K C=QM) (ho:Qc t=QB {cls:=.QP C,Q01:=dct,YA:=.seq Xq n}) (hsz:Z2<=Xa) (hpos:0 < Z2)
  (hQ:∀h' tk,(∀b o,Qc b=QB o->Z7 b=QB o)->Q Q6s {s with YL:=h',Q0P:=tk}):Qp (Qi XC w) A (collect (.QP t)) Q E s:=by
 have hne:QD≠t:=Yp (Qz ho)
 refine Q9 (wpAny_runValue (ZV PySem.F.entry_proto_collect ?_))
 rw [Zj PySem.F.plain_proto_collect _]
 refine Q9 (Xk ?_)
 refine QF ⟨Q2C Q6Z _,ZV PySem.F.entry_list_iadd ?_⟩
 rw [Zj Q6Z _]
 show Qp _ Q8u (Q2P (.QP QD) (.QP t) (.QP QD)) _ _ {s with YL:=XK {cls:=.Qk "list",YA:=.seq ([]:QC QI).Xe}}
 have ho1:(XK {cls:=.Qk "list",YA:=.seq ([]:QC QI).Xe}).QBP t=QB {cls:=.QP C,Q01:=dct,YA:=.seq Xq n}:=Qa _ ho
 have Q6:QAf (XK {cls:=.Qk "list",YA:=.seq ([]:QC QI).Xe}):=X.keeps fun b o e=>Qa _ e
 have hS1:(XK {cls:=.Qk "list",YA:=.seq ([]:QC QI).Xe}).QBP QD=QB {cls:=.Qk "list",YA:=.seq ([]:QC QI).Xe}:=X2 _ QA
 have LT:ZL (Qi XC w) (XK {cls:=.Qk "list",YA:=.seq ([]:QC QI).Xe}) (Q14 (.QP t)) (.QP C):=(Q1j ho1).Q2k .now
 unfold Q2P
 refine Q9 (QHJ ?_)
 have h1:Q1T (.QP QD) (.QP t)=QJ:=by simp [Q1T,hne]
 have h2:(Q1h C == Q2W "list")=QJ:=QA
 have h3:(Q1h C == Q2W "tuple")=QJ:=QA
 simp only [h1,h2,h3,QDG,XQ,Zf]
 refine Q9 (IX Q6 hk ho1 ?_)
 generalize hI:(XK {cls:=.Qk "list",YA:=.seq ([]:QC QI).Xe}).YO=I
 have hIv:I=QD+1:=by rw [<- hI,Q0u]
 generalize hH:((XK {cls:=.Qk "list",YA:=.seq ([]:QC QI).Xe}).Q65 {cls:=.Qk "tuple_iterator",YA:=.Xo #[.QP t,.Qm 0 0]})=H
 have Q4V:∀b o,Qc b=QB o->H.get? b=QB o:=fun b o e=>by rw [<- hH];exact Qa _ (Qa _ e)
 have hSH:H.get? QD=QB {cls:=.Qk "list",YA:=.seq ([]:QC QI).Xe}:=by rw [<- hH];exact Qa _ hS1
 have hIt:Q4F H I t 0:=by rw [<- hH,<- hI];exact ⟨_,X2 _ QA,QA,QA⟩
 refine Q9 (XX (NH (s:={s with YL:=H}) (X.keeps Q4V) hl (Q4V _ _ ho) QA QA (by have:=CU;omega) hpos fun tk=>?_))
 simp only [Q9x,Q5m]
 show Qp _ Q8u (rule "list.extend.makes-room" >>= fun _=>Q70 (.QP QD) >>= fun _ =>
  QBH (.Qd "list.extend.loop" ⟨[.QP QD,.QP I,.QP QD],[]⟩)) _ _ _
 refine Q9 (Q0X (Q9 ?_))
 refine Q9 (Q2A (s:={s with YL:=H,Q0P:=tk}) hSH QA ?_)
 have QG4:=XO (ZY (·.Q65 Zv)) hSH QA
 refine Q2A (hz:=by seq_fits) QG4 QA ?_
 have hS₄:=XO (ZY (·.pop)) QG4 QA
 have oth:∀b o,b≠QD->H.get? b=QB o->((H.update QD (ZY (·.Q65 Zv))).QGc QD (ZY (·.pop))).QBP b=QB o :=
  fun b o hb e=>(Yr _ _ (QHK hb)).QR ((Yr _ _ (QHK hb)).QR e)
 refine QF ⟨Q2C Q05 _,?_⟩
 refine C6 (A:=A) (J:=fun k acc s'=>∃h' c',s'={s with YL:=h',Q0P:=tk}/\k+Q4c=Z2/\Q4C=items.toList.take Q4c/\Q4F h' I t Q4c/\Z7 QD=QB {cls:=.Qk "list",YA:=.seq acc c'} /\
   (∀b o,Qc b=QB o->Z7 b=QB o)) ?_ ?_ Z2 #[] _ ?_
 ·intro k acc s' Q2T E'
  refine ew2 Q2T fun h' c' yq6z=>?_;refine an6 yq6z fun yq6A hk1 QBV hit hS hkp=>?_;obtain QA:=yq6A;clear yq6z
  have hlt:Q4c < Z2:=by exact acJ hk1
  refine DY (s:={s with YL:=h',Q0P:=tk}) hit ⟨_,_,hkp _ _ ho,QA⟩ (x:=Xq[Q4c]) (by simp [hlt]) fun h2 hit2 hs2=>?_
  have hIS:QD≠I:=by exact Si hIv
  have hS2:QHL QD=QB {cls:=.Qk "list",YA:=.seq acc c'}:=(hs2.2 _ hIS).QR hS
  refine ⟨_,QA,⟨c',hS2⟩,by exact acI hsz hlt,_,_,QA,by rw [Q4j];exact acH hk1,?_,?_,XO _ hS2 QA,fun b o e=>?_⟩
  ·rw [Q3k,Q4j,QBV,Zx]
   simp [hlt]
  ·rw [Q4j]
   obtain (⟨o,ho2,r2⟩):=hit2
   exact ⟨o,(Yr _ _ hIS).QR ho2,r2⟩
  ·have hb1:b≠I:=Y5 (QQ (Qz e) (by rw [hIv];exact Q1B _))
   exact (Yr _ _ (Yp (Qz e))).QR ((hs2.2 b hb1).QR (hkp b o e))
 ·intro acc s' Q6g E'
  refine ew2 Q6g fun h' c' yq6B=>?_;refine an6 yq6B fun yq6C hk1 QBV hit hS hkp=>?_;obtain QA:=yq6C;clear yq6B
  have he:Q4c=Z2:=by exact acG hk1
  refine EJ (s:={s with YL:=h',Q0P:=tk}) hh hit ⟨_,_,hkp _ _ ho,QA⟩ (by rw [he];simp) fun h2 he2=>⟨QA,?_⟩
  have hIS:QD≠I:=by exact Si hIv
  refine Q9 (wpAny_load (s:={s with YL:=h2,Q0P:=tk}) (he2 _ _ hIS hS) ?_)
  have e2:acc=Xq:=by
   apply Array.toList_inj.mp
   rw [QBV,he,<- Q00,Q0r]
  rw [e2]
  exact QF (hQ h2 tk fun b o e=>he2 b o (Y5 (QQ (Qz e) (by rw [hIv];exact Q1B _))) (hkp b o e))
 ·refine ⟨_,_,QA,by simp,by simp,?_,hS₄,fun b o e=>oth b o (Y5 (Qz e)) (Q4V b o e)⟩
  obtain (⟨o,ho2,r2⟩):=hIt
  exact ⟨o,oth _ _ (by exact acF hIv) ho2,r2⟩
theorem HB {Q:QI->QZ->Prop} {dct:QW Qq} (hh:Q4G=QG) (X:QAf QV) (hk:Du K C=QM) (hl:D0 K C=QM) (ho:Qc t=QB {cls:=.QP C,Q01:=dct,YA:=.seq Xq n}) (hsz:Z2<=Xa) (hpos:0 < Z2)
  (hQ:∀(h':ZP) tk,(∀b o,Qc b=QB o->Z7 b=QB o)->Q (.QP Q0d) {s with YL:=Q8U {cls:=.Qk "tuple",YA:=.seq Xq},Q0P:=tk}):Qp (Qi XC w) A (Q0M (.Qk "tuple") [.QP t]) Q E s:=by
 injections XC w A E s K t C Xq n Q dct _ _ _ _ _ _ _ _
 have LT:ZL (Qi XC w) QV (Q14 (.QP t)) (.QP C):=(Q1j ho).Q2k .now
 refine QCg (Q₁:=fun obj Q1m=>s₁.TypeIs obj "tuple"/\Q obj Q1m) PySem.F.called_tuple (PySem.F.typeCall_tuple_1 _) PySem.F.entry_object_init ?_ fun obj Q1m Q1Q=>⟨Q1Q.1,PySem.F.args_object_init_2 obj _,object_init_meets PySem.F.called_tuple.init.lookup PySem.F.called_tuple.made (by decide) XC w Q8u _ Q1m ⟨Q1Q.1,QA,Q1Q.2⟩⟩
 refine Q28 ?_
 show Qp _ Q58 (do Q6Q "tuple.__new__" ⟨[.Qk "tuple",.QP t],[]⟩;QBH (.Qd "tuple.__new__" ⟨[.Qk "tuple",.QP t],[]⟩)) _ _ s
 refine Q9 (Zi (PySem.F.newCall_tuple_1 _) (QF ⟨Q2C Q6a _,ZV PySem.F.entry_tuple_new ?_⟩))
 rw [Zj Q6a _]
 have hsub:=sub_tuple_self
 have hinit:=init_tuple_lookup
 have hmh:=madeHere_tuple
 wp_walk using QHJ,Jb (A:=Q58) hh X hk hl ho hsz hpos
 intros h' tk hkp
 show Qp _ _ (Q6C Q88 >>= fun v=>ret v) _ _ _
 unfold Q6C
 have e:Q88=Xq:=by simp
 rw [e]
 refine Q9 (Xk (QF ?_) hsz)
 exact ⟨⟨_,X2 _ QA,QA⟩,hQ h' tk hkp⟩
end
end
end Mini
end
section
open PySem PySem.W PySem.Calls PyProof.Rows
set_option genInjectivity false
set_option genSizeOf false
namespace Mini
mutual
inductive QAw (n:QH) (lt:QH->QH->Qu) {α:Type}:KasT α->α->Prop
 | ret (a:α):QAw n lt (.ret a) a
 | ask {i j:QH} {k:Qu->KasT α} {a:α}:i < n->j < n->i≠j->QAw n lt (k (lt i j)) a->QAw n lt (.ask i j k) a
theorem KRun.bind {n:QH} {lt:QH->QH->Qu} {α β:Type} {t:KasT α} {a:α} {f:α->KasT β} {b:β} (h:QAw n lt t a) (g:QAw n lt (f a) b):QAw n lt (t.bind f) b:=by
 induction h with
 | ret a=>exact g
 | ask h1 h2 h3 _ ih=>exact .ask h1 h2 h3 (ih g)
theorem KRun.wp {n:QH} {lt:QH->QH->Qu} {α:Type} {t:KasT α} {a:α} (h:QAw n lt t a) {cmp:QH->QH->(Qu->QZ->Prop)->QZ->Prop} {I:QZ->Prop} {Q:α->QZ->Prop}
  (hc:∀i j C s,i < n->j < n->i≠j->I s->(∀s',I s'->C (lt i j) s')->cmp i j C s) (hq:∀s,I s->Q a s):∀s,I s->t.kasWp cmp Q s:=by
 induction h with
 | ret a=>exact fun s i=>hq s i
 | ask h1 h2 h3 _ ih=>exact fun s i=>hc _ _ _ s h1 h2 h3 i fun s' i'=>ih hq s' i'
end
section
variable (n:Nat) (r:Nat->Int)
noncomputable def ltR (a b:Nat):Bool:=decide (r a < r b)
noncomputable def GP (p:Array Nat):Prop:=p.toList.Perm (List.range n)
noncomputable def RP (p:Array Nat) (i:Nat):Int:=r (p.getD i 0)
noncomputable def Chn (p:Array Nat) (k:Nat):Prop:=∀i j,i < j->j < k->RP r p i < RP r p j
noncomputable def agg (p:Array Nat) (k:Nat):Prop:=∀i j,i < j->j < k->RP r p j < RP r p i
variable {n r}
mutual
theorem GP.size {p:XM QH} (g:GP n p):p.size=n:=by have:=g.length_eq;simpa using this
theorem GP.lt {p:XM QH} (g:GP n p) {i:QH} (h:i < n):Q0e i 0 < n:=by
 have hs:=QGd
 have:Q0e i 0∈p.toList:=by
  rw [X9,Q04 (by exact GN h hs)];simp
 simpa using g.mem_iff.mp this
theorem GP.ne {p:XM QH} (g:GP n p) (hr:∀a b,a < n->b < n->r a=r b->a=b) {i j:QH} (hi:i < n) (hj:j < n) (h:i≠j):RP r p i≠RP r p j:=fun e=>by
 have hs:=QGd
 have e2:=hr _ _ (Q89 hi) (Q89 hj) e
 have hn:p.toList.Nodup:=g.nodup_iff.mpr List.nodup_range
 rw [X9,X9,Q04 (by exact GN hi hs),Q04 (by exact GN hj hs)]at e2
 have h1:i < QBX:=by rw [Q00,hs];exact hi
 have h2:j < QBX:=by rw [Q00,hs];exact hj
 exact h ((List.getElem_inj (h₀:=h1) (Q1Q:=h2) hn).mp (by simpa using e2))
theorem GP.ne' {p:XM QH} (g:GP n p) (hr:∀a b,a < n->b < n->r a=r b->a=b) {i j:QH} (hi:i < n) (hj:j < n) (h:i≠j):Q0e i 0≠Q0e j 0:=fun e=>g.ne hr hi hj h (by unfold RP;rw [e])
theorem H0 (hr:∀a b,a < n->b < n->r a=r b->a=b) {p:XM QH} (g:GP n p):∀f k,1<=k->k+f<=n->Chn r p k ->
  ∃m,QAw n (ltR r) (kas_asc p f k) m/\k<=m/\m<=k+f/\Chn r p m/\(m < k+f->RP r p m < RP r p (m - 1))
 | 0,k,h1,h2,c=>⟨k,.ret k,Qh _,Qh _,c,fun h=>Xc h (XY _)⟩
 | f+1,k,h1,h2,c=>by
  by_cases hlt:RP r p k < RP r p (k - 1)
  ·refine ⟨k,.ask (Q89 (by exact Ck h2)) (Q89 (by exact CM h1 h2)) (QCh hr (by exact Ck h2) (by exact CM h1 h2) (by exact GM h1)) ?_,Qh _,by exact Ks,c,fun _=>hlt⟩
   rw [show ltR r (Q0e k 0) (Q0e (k - 1) 0)=QM from Yu hlt,QY QA]
   exact .ret k
  ·have hgt:RP r p (k - 1) < RP r p k:=ine hlt (g.ne hr (i:=k) (j:=k - 1) (by exact Ck h2) (by exact CM h1 h2) (by exact GM h1))
   obtain (⟨m,h3,h4,h5,h6,h7⟩):=H0 hr g f (k+1) (by exact Su) (by exact Mf h2) fun i j hij hj=>by
    by_cases q:j=k
    ·subst q
     by_cases q2:i=j - 1
     ·rw [q2];exact hgt
     ·exact Q71 (c i (j - 1) (by exact Ss hij q2) (by exact Sr h1)) hgt
    ·exact c i j hij (by exact Bl hj q)
   refine ⟨m,.ask (Q89 (by exact Ck h2)) (Q89 (by exact CM h1 h2)) (QCh hr (by exact Ck h2) (by exact CM h1 h2) (by exact GM h1)) ?_,by exact GL h4,by exact Sq h5,h6,fun h=>h7 (by exact adp h)⟩
   rw [show ltR r (Q0e k 0) (Q0e (k - 1) 0)=QJ from Yf hlt,QN (by simp)]
   exact h3
theorem Ja (hr:∀a b,a < n->b < n->r a=r b->a=b) {p:XM QH} (g:GP n p):∀f k,1<=k->k+f<=n->agg r p k ->
  ∃m,QAw n (ltR r) (kas_desc f p k 0) (p,m,0)/\k<=m/\m<=k+f/\agg r p m
 | 0,k,h1,h2,c=>⟨k,.ret _,Qh _,Qh _,c⟩
 | f+1,k,h1,h2,c=>by
  by_cases hlt:RP r p k < RP r p (k - 1)
  ·obtain (⟨m,h3,h4,h5,h6⟩):=Ja hr g f (k+1) (by exact Su) (by exact Mf h2) fun i j hij hj=>by
    by_cases q:j=k
    ·subst q
     by_cases q2:i=j - 1
     ·rw [q2];exact hlt
     ·exact Q71 hlt (c i (j - 1) (by exact Ss hij q2) (by exact Sr h1))
    ·exact c i j hij (by exact Bl hj q)
   refine ⟨m,.ask (Q89 (by exact Ck h2)) (Q89 (by exact CM h1 h2)) (QCh hr (by exact Ck h2) (by exact CM h1 h2) (by exact GM h1)) ?_,by exact GL h4,by exact Sq h5,h6⟩
   rw [show ltR r (Q0e k 0) (Q0e (k - 1) 0)=QM from Yu hlt,QY QA,QN (XY 0)]
   exact h3
  ·have hgt:RP r p (k - 1) < RP r p k:=ine hlt (g.ne hr (i:=k) (j:=k - 1) (by exact Ck h2) (by exact CM h1 h2) (by exact GM h1))
   refine ⟨k,.ask (Q89 (by exact Ck h2)) (Q89 (by exact CM h1 h2)) (QCh hr (by exact Ck h2) (by exact CM h1 h2) (by exact GM h1)) ?_,Qh _,by exact Ks,c⟩
   rw [show ltR r (Q0e k 0) (Q0e (k - 1) 0)=QJ from Yf hlt,QN (by simp)]
   refine .ask (Q89 (by exact CM h1 h2)) (Q89 (by exact Ck h2)) (QCh hr (by exact CM h1 h2) (by exact Ck h2) (by exact ado h1)) ?_
   rw [show ltR r (Q0e (k - 1) 0) (Q0e k 0)=QM from Yu hgt,QY QA]
   exact .ret _
theorem I4 {p:XM QH} {m:QH} (hm:m<=p.size) (k:QH):(QEn p 0 m).Q4f k 0=if k < m then Q0e (m - 1 - k) 0 else Q0e k 0:=by
 unfold QEn
 rw [X9,X9,X9,getElem?_mirror_all hm]
 by_cases h:k < m
 ·rw [QY ⟨XT _,h⟩,QY h,Q1D]
 ·rw [QN (fun q=>h q.2),QN h]
theorem GP.rev {p:XM QH} (g:GP n p) (m:QH):GP n (QEn p 0 m):=((mirror_perm p 0 m _).toList).QR g
theorem LC (hr:∀a b,a < n->b < n->r a=r b->a=b) {p:XM QH} (g:GP n p) (hn:1<=n) :
  ∃m p',QAw n (ltR r) (kas_count n p) (m,p')/\GP n p'/\1<=m/\m<=n/\Chn r p' m:=by
 injections n r _ p _ _
 obtain (⟨m,h1,h2,h3,h4,h5⟩):=H0 hr g (n - 1) 1 (Qh _) (by exact adn hn) fun i j hij hj=>by omega
 by_cases q:m=n
 ·subst q
  refine ⟨m,p,QBl ?_,g,h2,Qh _,h4⟩
  rw [QY (by simp)];exact .ret _
 ·by_cases q1:m > 1
  ·refine ⟨m,p,QBl ?_,g,h2,by exact adm hn h3,h4⟩
   rw [QN (by simp [q]),QY q1]
   refine .ask (Q89 (by exact Sp hn)) (Q89 (by exact So hn h3 q q1)) (QCh hr (by exact Sp hn) (by exact So hn h3 q q1) (by exact adl q1)) ?_
   rw [show ltR r (Q0e 0 0) (Q0e (m - 1) 0)=QM from Yu (h4 0 (m - 1) (by exact adk q1) (by exact adj q1)),QY QA]
   exact .ret _
  ·have hm:m=1:=by exact adi h2 q1
   subst hm
   have h6:=h5 (by exact adh hn q)
   obtain ⟨d,d1,d2,d3,d4⟩:=Ja hr g (n - (1+1)) (1+1) (by exact U7) (by exact adg hn q) fun i j hij hj=>by
    have:i=0/\j=1:=by exact ⟨adf hij hj,ade hij hj⟩
    rw [this.1,this.2];exact h6
   have gs:=QGd
   have hd:d<=p.size:=by exact adc hn q d3 gs
   have g':=g.rev d
   obtain ⟨m,a1,a2,a3,a4,_⟩:=H0 hr g' (n - d) d (by exact adb d2) (by exact ac9 gs hd) fun i j hij hj=>by
    unfold RP
    rw [I4 hd,I4 hd,QY (by exact Ds hij hj),QY hj]
    exact d4 (d - 1 - j) (d - 1 - i) (by exact ac8 d2 hij hj) (by exact ac7 d2)
   refine ⟨m,QEn p 0 d,QBl ?_,g',by exact ac6 d2 a2,by exact ac5 gs hd a3,a4⟩
   rw [QN (by simp [q]),QN (by omega)]
   refine d1.bind ?_
   rw [QN (XY 0)]
   exact a1.bind (.ret _)
theorem Ej (hr:∀a b,a < n->b < n->r a=r b->a=b) {p:XM QH} (g:GP n p) {k:QH} (hk:k < n) (c:Chn r p k):∀f l h,l<=h->h<=k->h - l<=f->(∀i,i < l->RP r p i < RP r p k)->(∀i,h<=i->i < k->RP r p k < RP r p i) ->
  ∃m,QAw n (ltR r) (kas_place p k f l h) m/\m<=k/\(∀i,i < m->RP r p i < RP r p k)/\(∀i,m<=i->i < k->RP r p k < RP r p i)
 | 0,l,h,h1,h2,h3,h4,h5=>⟨l,.ret l,by exact L9 h1 h2,h4,fun i a b=>h5 i (by exact ac4 h3 a) b⟩
 | f+1,l,h,h1,h2,h3,h4,h5=>by
  unfold kas_place
  by_cases q:l >= h
  ·rw [QY q];exact ⟨l,.ret l,by exact L9 h1 h2,h4,fun i a b=>h5 i (by exact L9 q a) b⟩
  ·rw [QN q]
   have m0:=afI h1
   have m1:=afH (Nat.lt_of_not_le q)
   have hn1:(l+h) / 2 < k:=QQ m1 h2
   have hn2:(l+h) / 2 < n:=Q1F hn1 hk
   have hn3:k≠(l+h) / 2:=Yp hn1
   by_cases hlt:RP r p k < RP r p ((l+h) / 2)
   ·obtain (⟨m,a1,a2,a3,a4⟩):=Ej hr g hk c f l ((l+h) / 2) m0 (XD hn1) (Q2L (QQ (Q7e m0 m1) h3)) h4 fun i a b=>by
     by_cases e:i=(l+h) / 2
     ·rw [e];exact hlt
     ·exact Q71 hlt (c _ i (by exact Sx a e) b)
    refine ⟨m,.ask (Q89 hk) (Q89 hn2) (QCh hr hk hn2 hn3) ?_,a2,a3,a4⟩
    rw [show ltR r (Q0e k 0) (Q0e ((l+h) / 2) 0)=QM from Yu hlt,QY QA]
    exact a1
   ·have hgt:RP r p ((l+h) / 2) < RP r p k:=ine hlt (g.ne hr (i:=k) (j:=(l+h) / 2) hk hn2 hn3)
    obtain (⟨m,a1,a2,a3,a4⟩):=Ej hr g hk c f ((l+h) / 2+1) h m1 h2 (Y1 (Q8Y (Q6J m0) h) (QAR h3)) (fun i a=>by
     by_cases e:i=(l+h) / 2
     ·rw [e];exact hgt
     ·exact Q71 (c i _ (by exact Bl a e) hn1) hgt) h5
    refine ⟨m,.ask (Q89 hk) (Q89 hn2) (QCh hr hk hn2 hn3) ?_,a2,a3,a4⟩
    rw [show ltR r (Q0e k 0) (Q0e ((l+h) / 2) 0)=QJ from Yf hlt,QN (by simp)]
    exact a1
theorem K8 (hr:∀a b,a < n->b < n->r a=r b->a=b):∀f k (p:XM QH),GP n p->Chn r p k->k+f=n->∃p',QAw n (ltR r) (kas_bin f p k) p'/\GP n p'/\Chn r p' n
 | 0,k,p,g,c,e=>⟨p,.ret p,g,by rw [<- e];exact c⟩
 | f+1,k,p,g,c,e=>by
  have hk:k < n:=by exact Sm e
  obtain (⟨m,a1,a2,a3,a4⟩):=Ej hr g hk c k 0 k (XT _) (Qh _) (by exact Sv) (fun i h=>by omega) (fun i h1 h2=>by omega)
  have gs:=QGd
  have gb:GP n (bubble p k (k - m)):=((bubble_perm p k _).toList).QR g
  have hb:∀i,(bubble p k (k - m)).Q4f i 0=if i=m then Q0e k 0 else if m < i/\i<=k then Q0e (i - 1) 0 else Q0e i 0:=fun i=>by
   rw [X9,getElem?_bubble (by exact GN hk gs) _ (by exact Ld),show k - (k - m)=m by exact ac3 a2]
   split
   ·rw [X9]
   ·split <;> rw [X9]
  obtain (⟨p',b1,b2,b3⟩):=K8 hr f (k+1) (bubble p k (k - m)) gb (fun i j hij hj=>by
   unfold RP
   rw [hb,hb]
   by_cases i1:i=m
   ·rw [QY i1,QN (by exact ac2 hij i1),QY (by exact ⟨ac1 hij i1,Ic hj⟩)]
    exact a4 (j - 1) (by exact ac0 hij i1) (by exact acZ hij hj)
   ·rw [QN i1]
    by_cases j1:j=m
    ·rw [QY j1,QN (by omega)]
     exact a3 i (by exact acY hij j1)
    ·rw [QN j1]
     by_cases i2:m < i
     ·rw [QY (by exact ⟨Kq i2,acX hij hj⟩),QY (by exact ⟨Dr hij i2,Ic hj⟩)]
      exact c (i - 1) (j - 1) (by exact acW hij i2) (by exact acU hij hj i2)
     ·rw [QN (by omega)]
      by_cases j2:m < j
      ·rw [QY (by exact ⟨Kq j2,Ic hj⟩)]
       exact c i (j - 1) (by exact acT i1 i2 j2) (by exact acS hj j2)
      ·rw [QN (by omega)]
       exact c i j hij (by exact acR a2 j1 j2)) (by exact Sk e)
  exact ⟨p',a1.bind b1,b2,b3⟩
theorem MP (hr:∀a b,a < n->b < n->r a=r b->a=b) (hn:1<=n):∃p,QAw n (ltR r) (kas_sort n) p/\GP n p/\Chn r p n:=by
 have g0:GP n (Q6u (X5 n)):=by unfold GP;exact .Q1H _
 refine ew2 (LC hr g0 hn) fun m p yq66=>?_;refine an5 yq66 fun h1 h2 h3 h4 h5=>?_;clear yq66
 by_cases q:m < n
 ·refine ew1 (K8 hr (n - max m 1) (max m 1) p h2 (by rw [QBY h3];exact h5) (by rw [QBY h3];exact acQ q)) fun p' yq67=>?_;refine an3 yq67 fun b1 b2 b3=>?_;clear yq67
  refine ⟨p',QBl ?_,b2,b3⟩
  rw [QY q];exact b1
 ·have:m=n:=by exact Sw h4 q
  subst this
  refine ⟨p,QBl ?_,h2,h5⟩
  rw [QN q];exact .ret _
end
end
end Mini
end
section
open PySem PySem.W PySem.Calls PyProof.Rows
namespace Mini
noncomputable def Nq (K:Frag) (C:Addr):Bool:=(findIn K (.ref C) "__lt__" == some (some (.builtin "tuple.__lt__")))&&(subIn K (.ref C) (.type "tuple") == some true)
section
variable {prog:Program} {w:World} {A:Around} {E:Value->Shared->Prop} {s:Shared} {K:Frag} {C:Addr}
mutual
theorem OB:QBI "tuple.__lt__"=QB .slot:=by decide +XB
theorem Mx:QH1 "tuple.__lt__"=QB ("tuple","__lt__"):=by decide +XB
theorem My:QBg "tuple.__lt__"=QM:=by decide +XB
theorem I6 {α:Type} {x:α} {l:QC α} {R:QW Q2n×YV->QZ->Prop} {YZ:α->QW Q2n×YV->Sem (ForInStep (QW Q2n×YV))}
  (h:Qp (Qi XC w) A (YZ x (QG,())) (fun r s'=>match r with | .Q4x b=>R b s' | .yield _=>Yk) E s):Qp (Qi XC w) A (QFx (x::l) (QG,()) YZ) R E s:=by
 rw [Q19]
 refine Q9 (YX h (fun r s' hr=>?_) fun _ _ e=>e)
 cases r with
 | Q4x b=>exact QF hr
 | yield b=>exact hr.elim
theorem Gf {a b:Qq} {oa ob:ZC} {p q:X3} {t u:Tok} {xs ys:QC QI} {na nb:QH} {R:Q2n->QZ->Prop} (lb:ZL (Qi XC w) QV (Zw (.QP b) (.Qk "tuple")) QM)
  (ha:Qc a=QB oa) (hda:oa.data=.seq (.Qm p t::xs).Xe na) (hb:Qc b=QB ob) (hdb:QGq=.seq (.Qm q u::ys).Xe nb) (hne:p≠q)
  (h:R (.Q4x (.ret (.Yn (XV (p < q))))) s):Qp (Qi XC w) A (Builtin.«tuple.__lt__» ⟨[.QP a,.QP b],[]⟩) R E s:=by
 show Qp _ _ (slotArgs "__lt__" 1 ⟨[.QP a,.QP b],[]⟩ >>= _) _ _ _
 refine Q9 (QF ?_)
 dsimp only
 refine Q9 (lb.here ?_)
 simp only [Q4Q,XQ,Zf]
 unfold Q2b
 refine Q9 (Q9 (Yv ha hda (QF ?_)))
 refine Q9 (Q9 (Yv hb hdb (QF ?_)))
 dsimp only [List.zip_cons_cons]
 refine Q9 (I6 ?_)
 dsimp only
 refine Q9 (wpAny_eqBool_int ?_)
 rw [show (p == q)=QJ from Yi hne]
 simp only [Q82,Q5m]
 refine Q9 (Q0X (Q9 ?_))
 show Qp _ _ (Q0q .Lt (.Qm p t) (.Qm q u)) _ _ _
 exact lt_int (Q9 (QF (QF (QF h))))
theorem LN {Q1e y:QI} {Q1u:X6} {id:XA} {M:Model} {Q:QW QI->QZ->Prop} (L:ZL M QV (Q1p Q1e Q1u) (QB (.Qd id))) (hb:QFf (.Qd id) Q1e=ZU (.Qd id,[Q1e]))
  (hc:Qp M A (Q0M (.Qd id) [Q1e,y]) (fun v=>Q (QB v)) E s):Qp M A (Q8j Q1e Q1u [y]) Q E s:=by
 simp only [Q8j,Q8c]
 refine XX (Q9 (Q9 (L.here ?_)))
 simp only [hb]
 refine Q9 (Q1l (QDf ?_))
 have fin:Qp M A (Q0M (.Qd id) [Q1e,y] >>= fun v=>ZU (QB v)) Q E s:=Q9 (YX hc (fun v s' h'=>QF h') fun _ _ h'=>h')
 split
 ·exact Q9 (QF (QF fin))
 ·exact Q7t (Q9 (QF (QF fin)))
theorem JQ {a b:Qq} {oa ob:ZC} {p q:X3} {t u:Tok} {xs ys:QC QI} {na nb:QH} {Q:Qu->QZ->Prop} (hu:Q8M < QDV) (X:QAf QV) (hk:Nq K C=QM)
  (ha:Qc a=QB oa) (hca:oa.cls=.QP C) (hda:oa.data=.seq (.Qm p t::xs).Xe na) (hb:Qc b=QB ob) (hcb:ob.cls=.QP C) (hdb:QGq=.seq (.Qm q u::ys).Xe nb) (hne:p≠q)
  (h:Q (XV (p < q)) s):Qp (Qi XC w) A (keyLt' oneType' (.QP a) (.QP b)) Q E s:=by
 simp only [Nq,X7,ZJ]at hk
 have ta:ZL (Qi XC w) QV (Q14 (.QP a)) (.QP C):=by
  have:ZL (Qi XC w) QV (Q14 (.QP a)) oa.cls:=(Q1j ha).Q2k .now
  rw [hca]at this;exact this
 have tb:ZL (Qi XC w) QV (Q14 (.QP b)) (.QP C):=by
  have:ZL (Qi XC w) QV (Q14 (.QP b)) ob.cls:=(Q1j hb).Q2k .now
  rw [hcb]at this;exact this
 have L:ZL (Qi XC w) QV (Q1p (.QP a) "__lt__") (QB (.Qd "tuple.__lt__")):=ta.andThen (Q22 X hk.1)
 have La:ZL (Qi XC w) QV (Zw (.QP a) (.Qk "tuple")) QM:=ta.andThen (Q5q X hk.2)
 have Lb:ZL (Qi XC w) QV (Zw (.QP b) (.Qk "tuple")) QM:=tb.andThen (Q5q X hk.2)
 rw [keyLt'_oneType,oneLt'_eq]
 rw [QY QA]
 refine Q9 (wpAny_cRoomFor hu ?_)
 refine Q9 (LN L (PySem.F.slot_tuple_lt.bind _) ?_)
 refine Q20 (Q2V (b:=Builtin.«tuple.__lt__») My PySem.F.entry_tuple_lt ?_)
 refine Q6r (i:="tuple.__lt__") (Q7f:="tuple") (n:="__lt__") (Q1e:=.QP a) (Q9m:=[.QP b]) (kw:=[]) OB Mx La (PySem.F.args_tuple_lt_2 _ _) ?_
 refine Gf Lb ha hda hb hdb hne ?_
 exact Q3c h
end
end
end Mini
end
section
open PySem PySem.W PySem.Calls PyProof.Rows
namespace Mini
mutual
def S8 (K:Q1A) (Xb:QC QU):PT QU:=fun σ P=>on1 Xb fun a=>Ai a fun l=>∃(C:Qq) (ts:QC (QH×X3×QC QU)),Nq K C=QM/\QS l=.Qs (QCa fun t=>.QP t.1)/\Q2p < 64/\(∀t∈ts,t.1 < QO/\QS t.1=.sub C (.Qm t.2.1::t.2.2))/\(QCa (·.2.1)).QDu /\
   ∀us:QC (QH×X3×QC QU),QEo ts->Q8A (fun x y=>x.2.1 < y.2.1)->P .QG (Yt l (.Qs (QEp fun t=>.QP t.1)))
theorem VRs.refs {Λ:Lab}:∀ {ls:QC QH} {vs:QC QI},VRs Λ (QAx YU) vs->vs=QAx fun l=>.QP (Xr l)
 | [],vs,h=>by cases h;rfl
 | l::ls,vs,h=>by
  rw [XR]at h
  cases h with | Xu h1 h2=>rw [h1.2,VRs.refs h2];rfl
theorem QG6 {Λ:Lab}:∀ {ls:QC QH},(∀l∈ls,l < Xh)->VRs Λ (QAx YU) (QAx fun l=>.QP (Xr l))
 | [],_=>.Zl
 | l::ls,h=>.Xu ⟨h l (.Zc _),QA⟩ (QG6 fun k hk=>h k (.Q31 _ hk))
end
section
variable {prog:Program} {w:World} {A:Around} {E:Value->Shared->Prop} {s:Shared}
mutual
theorem Lg {vs:QC QI} (h2:Q0Q < 2):QDw (fun x=>x.2) (Q8B Xt)=Xt:=by
 rcases vs with _ | ⟨x,_ | ⟨y,r⟩⟩
 ·simp
 ·simp
 ·exact Xc h2 (ZI (QBZ 2 Q7b))
theorem M5 {α:Type} {R:α->α->Prop} {l:QC α} (h:ZF < 2):l.Pairwise R:=by
 rcases l with _ | ⟨x,_ | ⟨y,r⟩⟩
 ·exact .Zl
 ·exact List.pairwise_singleton _ _
 ·exact Xc h (ZI (QBZ 2 Q7b))
theorem Jt {a:Qq} {vs:QC QI} {n:QH} {Q:QI->QZ->Prop} (ho:Qc a=QB (Q6D "list" Xt n)) (h2:Q0Q < 2)
  (h:∀h' e,(∀b o,b≠a->Qc b=QB o->Z7 b=QB o)->Z7 a=QB (Q6D "list" Xt e)->Q .QG {s with YL:=h'}) :
  Qp (Qi XC w) A (Q0M (.Qd "list.sort") [.QP a]) Q E s:=by
 injections XC w A E s a vs n Q _ _ _
 refine Y2 slot_list_sort ⟨_,ho,QA⟩ entry_list_sort ?_ (args_list_sort _)
 rw [list_sort_plain]
 have ha:a < QD:=Qz ho
 refine Q9 (listItems_at ho QA ?_)
 refine Q9 (QDH ho QA ?_ (by rw [XS,X8];exact Sj h2) (XT _))
 have zO:∃e1,(Q6E a (ZY fun _=>(#[]:XM QI))).QBP a=QB (Q6D "list" #[] e1):=⟨_,QBa ho fun _=>#[]⟩
 obtain ⟨e1,ho1⟩:=zO
 refine Q9 (QG7 ho1 QA ?_)
 refine Q9 (wpAny_newTuple ?_ (by show Q0Q<=_;rw [X8];exact Sj h2))
 refine Q9 (wpAny_newList ?_ (XT _))
 refine XX ?_
 show Qp (Qi XC w) Q8u _ _ E {s with YL:=((Q6E a (ZY fun _=>(#[]:XM QI))).Q65 (Q6D "tuple" Xt 0)).Q65 (Q6D "list" #[] 0)}
 dsimp only
 have hn2:vs.toArray.size < 2:=by rw [XS];exact h2
 rw [QY hn2,QY hn2]
 refine Q9 (QF ?_)
 rw [StateT.run_pure]
 refine Q9 (QF ?_)
 dsimp only
 have ho2:(((Q6E a (ZY fun _=>(#[]:XM QI))).Q65 (Q6D "tuple" Xt 0)).Q65 (Q6D "list" #[] 0)).QBP a=QB (Q6D "list" #[] e1):=Qa _ (Qa _ ho1)
 refine Q9 (QG7 ho2 QA ?_)
 have hout:QDw (fun x=>x.2) (arrOf (SortSt.mk' general' (Q8B Xt) #[] 7 QG))=Xt:=by
  show QDw (fun x=>x.2) (Q8B Xt)=Xt
  exact Lg h2
 rw [hout]
 refine Q9 (QDH ho2 QA ?_ (XT _) (by rw [XS,X8];exact acP h2))
 simp only [bne_self_eq_false,XQ,Zf]
 have zO:∃e2,((((Q6E a (ZY fun _=>(#[]:XM QI))).Q65 (Q6D "tuple" Xt 0)).Q65 (Q6D "list" #[] 0)).QGc a (ZY fun _=>Xt)).QBP a=QB (Q6D "list" Xt e2):=⟨_,QBa ho2 fun _=>Xt⟩
 obtain ⟨e2,ho3⟩:=zO
 refine QF ⟨_,QA,h _ e2 ?_ ho3⟩;intros b o hb e
 refine (XU ..).QCO b o hb (Qa _ (Qa _ ((XU ..).QCO b o hb e)))
end
end
section
variable {c:Cx} {A:Around} {env:Env} {fm:Fm} {Λ:Lab} {σ:St}
theorem MT (hc:c.Ok) (hA:AOk A) {args:List Val} {as:List Value} {P:Val->St->Prop} (ha:VRs Λ args as) (h:S8 c.K args σ P):Sim c A env fm Λ (call (.builtin "list.sort") as) VR σ P:=by
 injections c A env fm Λ σ _ _ args as P _ _
 refine on1.el ha h ?_;intros v a h1 h;refine Ai.el h ?_;intros l ev h;subst ev
 ·skip
  obtain ⟨C,ts,hK,e,h64,hts,hnd,p⟩:=h
  refine Sim.of ?_;intros fz s ok r Q E q
  rw [show (ts.map fun t=>Val.ref t.1)=(ts.map (·.1)).map Val.ref by rw [List.map_map];rfl]at e
  obtain ⟨rfl,g1,vs,n,a1,a2⟩:=(r.listsV h1 e)
  have hvs:=a2.refs
  subst hvs
  have hlen:((ts.map (·.1)).map fun l=>Value.ref (Λ.f l)).length=ts.length:=by simp
  have hlt:∀t∈ts,t.1 < Λ.n:=fun t ht=>by rw [r.nn];exact (hts t ht).1
  have fin:∀(us:List (Nat×Int×List Val)) (h':Heap) (tk:Nat),us.Perm ts->us.Pairwise (fun x y=>x.2.1 < y.2.1)->Rel c fz env.locals Λ (σ.upd l (.list (us.map fun t=>.ref t.1))) {s with heap:=h',toks:=tk}->Q .none {s with heap:=h',toks:=tk} :=
   fun us h' tk hp hs r'=>q Λ _ .none .none _ (.refl _) (p us hp hs) rfl r'
  have orl:∀(us:List (Nat×Int×List Val)) e,us.Perm ts->OR c.prog c.w Λ (.list (us.map fun t=>.ref t.1)) (W.listOf ((us.map (·.1)).map fun l=>Value.ref (Λ.f l)).toArray e):=fun us e hp =>
   ⟨_,e,rfl,by
    rw [show (us.map fun t=>Val.ref t.1)=(us.map (·.1)).map Val.ref by rw [List.map_map];rfl]
    refine VRs.of_refs ?_
    intros l hl
    obtain ⟨t,ht,rfl⟩:=(List.mem_map.mp hl)
    exact hlt t (hp.mem_iff.mp ht)⟩
  by_cases h2:ts.length < 2
  ·refine Jt a1 (by rw [hlen];exact h2) ?_;intros h' e hk hget
   refine fin ts h' s.toks (.refl _) ?_ (r.upd (tk:=s.toks) g1 hk hget (orl ts e (.refl _)))
   exact M5 h2
  ·obtain ⟨m,F,_⟩:=r.fr
   have hne:∀t∈ts,Λ.f t.1≠Λ.f l:=by
    intros t ht q
    have:=r.inj _ _ (hlt t ht) (by rw [r.nn];exact g1) q
    have h3:=(hts t ht).2
    rw [this,e]at h3;cases h3
   have hob:∀ {h:Heap} {X:List (Addr×Obj)} (N:News c.g env.locals h (X++Db c.g env.locals s.heap (Λ.f l))) (t) (ht:t∈ts),∃vs n d tk,h.get? (Λ.f t.1)=some {cls:=.ref C,dict:=d,data:=.seq (.int t.2.1 tk::vs).toArray n}:=fun N t ht=>by
    refine ew1 (r.ob t.1 (hlt t ht)) fun o yq6h=>?_;refine an2 yq6h fun ho hor=>?_;clear yq6h
    rw [(hts t ht).2]at hor
    obtain (⟨vs,n,d,rfl,hv⟩):=hor
    cases hv with
    | cons h1 h2 =>
     obtain (⟨tk,rfl⟩):=h1
     have hm:=BS.mp (r.mem (hlt t ht) ho)
     exact ⟨_,n,d,tk,(N _ (List.mem_append_right _ (CF.mpr ⟨hne t ht,hm.1,hm.2.1,ho⟩))).1⟩
   have hty:∀ {h:Heap} {X:List (Addr×Obj)} (N:News c.g env.locals h (X++Db c.g env.locals s.heap (Λ.f l))),∀v∈((ts.map (·.1)).map fun l=>Value.ref (Λ.f l)),Looks (model c.prog c.w) h (typeOf v) (.ref C):=fun N v hv=>by
    refine ew1 (List.mem_map.mp hv) fun x yq6i=>?_;refine an2 yq6i fun hx yq6j=>?_;obtain rfl:=yq6j;clear yq6i
    refine ew1 (List.mem_map.mp hx) fun t yq6k=>?_;refine an2 yq6k fun ht yq6l=>?_;obtain rfl:=yq6l;clear yq6k
    refine ew4 (hob N t ht) fun vs n d tk hg=>?_
    exact (Looks.ld hg).andThen .now
   have he:((ts.map (·.1)).map fun l=>Value.ref (Λ.f l)).toArray.toList=((ts.map (·.1)).map fun l=>Value.ref (Λ.f l)):=by simp
   refine kas_lsort F (r.ledAt g1 a1) (.head Dp) he (by rw [hlen];exact acO h2) (by rw [hlen];exact h64) (T:=.ref C) (fun e1 h' F' N'=>hty (X:=[(Λ.f l,seqObj "list" #[] e1)]) N') ?_ ?_
   ·have:(Value.ref C == Value.ref C)=true:=by simp
    rw [this];rfl
   ·intros e1 h' F' N'
    let rk:Nat->Int:=fun i=>(ts.getD i (0,0,[])).2.1
    have hrk:∀i j,i < ts.length->j < ts.length->rk i=rk j->i=j:=by
     intros i j hi hj e
     have hi':i < (ts.map (·.2.1)).length:=by simpa using hi
     have hj':j < (ts.map (·.2.1)).length:=by simpa using hj
     refine (List.getElem_inj (h₀:=hi') (h₁:=hj') hnd).mp ?_
     simpa [rk,List.getD_eq_getElem?_getD,hi,hj] using e
    obtain ⟨p',hrun,gp,chn⟩:=(MP (n:=ts.length) (r:=rk) hrk (by exact acN h2))
    rw [hlen]
    refine hrun.wp (I:=fun s'=>s'={s with heap:=h'}) ?_ ?_ _ rfl
    ·intros i j C' s' hi hj hij hI hC
     subst hI
     have gi:∀i,i < ts.length->((ts.map (·.1)).map fun l=>Value.ref (Λ.f l)).getD i Value.none=.ref (Λ.f (ts.getD i (0,0,[])).1)/\ts.getD i (0,0,[])∈ts:=by
      intros i hi
      constructor
      ·simp [List.getD_eq_getElem?_getD,hi]
      ·rw [List.getD_eq_getElem?_getD,List.getElem?_eq_getElem hi];exact List.getElem_mem hi
     obtain ⟨ei,mi⟩:=gi i hi
     obtain ⟨ej,mj⟩:=gi j hj
     unfold kas_ask
     rw [ei,ej]
     obtain ⟨xs,n1,d1,t1,b1⟩:=(hob (X:=[(Λ.f l,seqObj "list" #[] e1)]) N' _ mi)
     obtain ⟨ys,n2,d2,t2,b2⟩:=(hob (X:=[(Λ.f l,seqObj "list" #[] e1)]) N' _ mj)
     have hX:c.K.In h':=hc.inK.keeps F'.keep
     exact JQ (s:={s with heap:=h'}) (show A.in1.units < cLine from (by have:=hA.units;show A.units+_ < _;exact acM this)) hX hK b1 rfl rfl b2 rfl rfl (fun q=>hij (hrk i j hi hj q)) (hC _ rfl)
    ·intros s' hI
     subst hI
     have hsz:=gp.size
     let us:=p'.toList.map fun i=>ts.getD i (0,0,[])
     have hperm:us.Perm ts:=by
      refine (gp.map _).trans (List.Perm.of_eq ?_)
      refine List.ext_getElem (by simp) ?_;intros i h1 h2
      simp at h1
      simp [List.getD_eq_getElem?_getD,h1]
     have hsort:us.Pairwise (fun x y=>x.2.1 < y.2.1):=by
      rw [List.pairwise_iff_getElem]
      intros i j hi hj hij
      simp only [us,List.length_map,Array.length_toList]at hi hj
      have:=chn i j hij (by exact acL hsz hj)
      simpa [us,RP,rk,Array.getD_eq_getD_getElem?,hi,hj] using this
     have hmap:(p'.toList.map fun i=>((ts.map (·.1)).map fun l=>Value.ref (Λ.f l)).getD i Value.none)=(us.map (·.1)).map fun l=>Value.ref (Λ.f l):=by
      simp only [us,List.map_map]
      refine List.map_congr_left ?_;intros i hi
      have hi':i < ts.length:=by have:=gp.mem_iff.mp hi;simpa using this
      simp [List.getD_eq_getElem?_getD,hi']
     rw [hmap]
     refine KasFin.intro F' N' (.head Dp) ?_;intros h'' c' F'' N''
     exact fin us h'' s.toks hperm hsort (r.turned (tk:=s.toks) g1 F F'' N'' (orl us c' hperm))
end
end Mini
end
section
open PySem PySem.W PySem.Calls PyProof.Rows
namespace Mini
noncomputable def KG (args:List Val):PT Val:=fun σ P=>on2 args fun fv a=>Ai a fun l=>Af (σ.hp l) fun xs=>P (.ref (σ.nx+2)) (((σ.alloc (.liter l 0)).alloc (.tuple [.ref σ.nx])).alloc (.mapo fv (σ.nx+1)))
noncomputable def Nb (K:Frag) (args:List Val):PT Val:=fun σ P=>on1 args fun a=>Ai a fun l=>Cq (σ.hp l) fun C xs=>Du K C=true/\D0 K C=true/\xs.length<=sizeLine/\0 < xs.length/\P (.ref σ.nx) (σ.alloc (.tuple xs))
noncomputable def Ta (K:Frag) (args:List Val):PT Val:=fun σ P=>on1 args fun v=>TR v σ P\/Ai v fun l=>Cq (σ.hp l) fun C xs=>D0 K C=true/\xs.length<=sizeLine/\P (.int xs.length) σ
noncomputable def Ek (cal:Av) (m tl il l:Nat) (fv:Val) (xs:List Val):List Val->Nat->List Val->PT (List Val)
 | [],i,acc=>fun σ P=>(σ.hp m=.mapo fv tl/\σ.hp tl=.tuple [.ref il]/\σ.hp il=.liter l i/\σ.hp l=.list xs)/\P acc (σ.upd il .any)
 | x::r,i,acc=>fun σ P=>(σ.hp m=.mapo fv tl/\σ.hp tl=.tuple [.ref il]/\σ.hp il=.liter l i/\σ.hp l=.list xs) /\
   cal fv [x] (σ.upd il (.liter l (i+1))) fun v σ'=>Ek cal m tl il l fv xs r (i+1) (acc++[v]) σ' P
noncomputable def FE (cal:Av) (m:Nat) (fv:Val) (tl:Nat):PT Val:=fun σ P =>
 ∃il l xs,xs.length<=sizeLine/\Ek cal m tl il l fv xs xs 0 [] σ fun vs σ'=>P (.ref σ'.nx) (σ'.alloc (.list vs))
section
variable {c:Cx} {A:Around} {env:Env} {fm:Fm} {Λ:Lab} {σ:St}
mutual
theorem Ju {Xb:QC QU} {as:QC QI} {P:QU->St->Prop} (ha:VRs Λ Xb as) (h:KG Xb σ P):Zq c A X0 fm Λ (Q0M (.Qk "map") as) VR σ P:=by
 injections c A X0 fm Λ σ Xb as P _ _
 refine QCK ha h ?_;intros fv v a b h1 h2 h;refine Q1W h ?_;intros l ev h;subst ev
 refine Q4n h ?_;intros xs e h
 ··refine Zn ?_;intros fz s ok r Q E q
   obtain ⟨QA,g1,vs,n,a1,a2⟩:=(Q0t h2 e)
   have z1:(Dy QV (Xr l)).YO=QD+1:=Q0u ..
   have z2:(FM QV (Xr l)).YO=QD+2:=by rw [Q0u,z1]
   have e1:=XL Λ QD
   have r1:=Q9B (tk:=Y6) (o:=.Q8m l 0) (co:={cls:=.Qk "list_iterator",YA:=.Xo #[.QP (Xr l),.Qm 0 0]}) ⟨QQ h2.1 e1.1,QA,by rw [e1.2 l h2.1];rfl⟩ QA
   have e2:=XL (Z5 QD) (Dy QV (Xr l)).YO
   have v1:VR (Z5 QD) (.QP QO) (.QP QD):=Q1i _ Q3a
   have r2:=Q9l (tk:=Y6) (o:=.YJ [.QP QO]) (co:={cls:=.Qk "tuple",YA:=.seq #[.QP QD]}) ⟨[.QP QD],0,QA,.Xu (v1.ext e2) .Zl⟩ QA
   have e3:=XL ((Z5 QD).Q65 (Dy QV (Xr l)).YO) (FM QV (Xr l)).YO
   have hn2:(Z5 QD).n=(Qw (.Q8m l 0)).nx:=QHD
   have v2:VR ((Z5 QD).Q65 (Dy QV (Xr l)).YO) (.QP (QO+1)) (.QP (Dy QV (Xr l)).YO):=Q1i _ hn2
   have r3:=r2.push (tk:=Y6) (o:=.QE2 fv (QO+1)) (co:={cls:=.Qk "map",YA:=.Xo #[.QP (Dy QV (Xr l)).YO,a]}) ⟨QQ v2.1 e3.1,a,by
    rw [e3.2 _ v2.1,<- v2.2],((h1.ext e1).ext e2).ext e3⟩ QA
   refine N2 (Al a1) ?_
   have v3:VR _ (.QP (QO+2)) (.QP (FM QV (Xr l)).YO):=Q1i (σ:=(Qw (.Q8m l 0)).Q8y (.YJ [.QP QO])) (FM QV (Xr l)).YO QHB
   rw [<- z2]
   exact q _ _ _ _ _ ((YY e2).QR e3) h v3 r3
theorem Lk (hc:Q3M) (hA:AOk A) {Xb:QC QU} {as:QC QI} {P:QU->St->Prop} (ha:VRs Λ Xb as) (h:Nb c.K Xb σ P):Zq c A X0 fm Λ (Q0M (.Qk "tuple") as) VR σ P:=by
 injections c A X0 fm Λ σ _ _ Xb as P _ _
 refine Q6q ha h ?_;intros v a h1 h;refine Q1W h ?_;intros l ev h;subst ev
 refine Cq.el h ?_;intros C xs e h
 ··obtain ⟨k1,k2,k3,k4,p⟩:=h
   refine Zn ?_;intros fz s ok r Q E q
   obtain ⟨o,ho,hor⟩:=(Q36 l h1.1)
   rw [e]at hor
   obtain ⟨vs,n,d,QA,hv⟩:=hor
   have hl:=QAp
   rw [h1.2]
   refine HB Q0Y (ZO Q0H) k1 k2 ho (by simpa [<- hl] using k3) (by simpa [<- hl] using k4) ?_;intros h' tk hk
   have r1:Rel c fz Qo Λ σ {s with YL:=h',Q0P:=tk}:=Q66 (tk:=tk) (dr:=Q1G) hk
   exact q _ _ _ _ _ (XL _ _) p (Q1i _ Q3a) (Q9l (tk:=tk) ⟨vs,0,QA,QAZ (XL _ _)⟩ QA)
theorem MV (hc:Q3M) {Xb:QC QU} {as:QC QI} {P:QU->St->Prop} (ha:VRs Λ Xb as) (h:Ta c.K Xb σ P):Zq c A X0 fm Λ (Q0M (.Qd "len") as) VR σ P:=by
 refine Q6q ha h fun v a h1 h=>Qy (fun h=>Kz h1 h) fun h=>Q1W h fun l ev h=>?_;subst ev
 refine Cq.el h fun C xs e h=>?_
 ··refine an3 h fun k1 k2 p=>?_
   refine Zn fun fz s ok r Q E q=>?_
   refine ew1 (Q36 l h1.1) fun o yq6N=>?_;refine an2 yq6N fun ho hor=>?_;clear yq6N
   rw [e]at hor
   obtain (⟨vs,n,d,QA,hv⟩):=hor
   have hl:=QAp
   rw [h1.2]
   refine KT (ZO Q0H) k1 ho QA QA (He k2 (hl.trans Q1x)) fun tk tk'=>?_
   exact q Λ _ _ _ σ (.Q1H _) p ⟨tk,by simp [hl]⟩ (Q99 (tk:=tk'))
theorem Ek.keep {YR:Av} {m tl il l:QH} {fv:QU} {xs:QC QU}:∀ {r:QC QU} {i:QH} {acc:QC QU} {σ:St} {P:QC QU->St->Prop},Ek YR m tl il l fv xs r i acc σ P->QS m=.QE2 fv tl/\QS tl=.YJ [.QP il]/\QS il=.Q8m l i/\QS l=.Qs xs
 | [],_,_,_,_,h=>h.1
 | _::_,_,_,_,_,h=>h.1
theorem Rel.mapAt {fz:Qq->QW ZC} {L:Qq} {s:QZ} (r:Rel c fz L Λ σ s) {m tl il l i:QH} {fv:QU} {xs:QC QU} (hm:m < Xh) (k:QS m=.QE2 fv tl/\QS tl=.YJ [.QP il]/\QS il=.Q8m l i/\QS l=.Qs xs) :
  ∃fc vs,tl < Xh/\il < Xh/\l < Xh/\VR Λ fv fc/\QAA QV (Xr m) (Xr tl) (Xr il) (Xr l) fc i/\Q2G (Xr l) (Q6u vs)/\VRs Λ xs vs:=by
 injections c Λ σ fz L s _ m tl il l i fv xs _ _
 obtain ⟨k1,k2,k3,k4⟩:=k
 obtain ⟨o,ho,hor⟩:=(Q36 m hm)
 rw [k1]at hor
 obtain ⟨htl,fc,QA,hfc⟩:=hor
 obtain ⟨ot,hot,hort⟩:=(Q36 tl htl)
 rw [k2]at hort
 obtain ⟨vs,n,QA,hv⟩:=hort
 cases hv with | Xu h1 h2 =>
 cases h2
 have hil:=h1.1
 rw [h1.2]at hot
 obtain ⟨oi,hoi,hori⟩:=(Q36 il hil)
 rw [k3]at hori
 obtain ⟨hl,hc1,hd1⟩:=hori
 obtain ⟨vs,n',hob,hvs⟩:=(r.lists (by rw [<- Q3a];exact hl) k4)
 exact ⟨fc,vs,htl,hil,hl,hfc,⟨⟨_,ho,QA,QA⟩,⟨_,n,hot,QA⟩,⟨oi,hoi,hc1,hd1⟩⟩,Al hob,hvs⟩
theorem VR.fn {Λ:Lab} {v:QU} {a b:QI} (h:VR Λ v a) (hr:∀l,v≠.QP l->Yk) (k:VR Λ v b):a=b:=by
 cases v with
 | QP l=>rw [h.2,k.2]
 | QG=>exact (hr 0 (by simp)).Q32
 | Yn _=>exact (hr 0 (by simp)).Q32
 | Qm _=>exact (hr 0 (by simp)).Q32
 | Xs _=>exact (hr 0 (by simp)).Q32
 | imm _=>exact (hr 0 (by simp)).Q32
theorem Room.by3 {d:QH} (hA:Q8h (d+1) A):Q8h d A.in1.in1.in1:=⟨Q0Y,by
  have:=Q7k
  exact acE this,by
  have:=Q5Q
  exact SN this⟩
theorem Iv {YR:Av} {d:QH} (hA:Q8h (d+1) A) (hcal:∀A',Q8h d A'->∀X0 fm fv Λ σ P vs as x,VR Λ fv x->VRs Λ vs as->YR fv vs σ P->Zq c A' X0 fm Λ (Q0M x as) VR σ P)
  {m tl:QH} {fv:QU} {x:QI} {P:QU->St->Prop} (hx:VR Λ (.QP m) x) (h:FE YR m fv tl σ P):Zq c A X0 fm Λ (Q0M (.Qk "list") [x]) VR σ P:=by
 injections c A X0 fm Λ σ YR d _ _ m tl fv x P _ _
 obtain ⟨il,l,xs,Q2U,h⟩:=h
 refine Zn ?_;intros fz s ok r Q E q
 have hm:=hx.1
 rw [hx.2]
 obtain ⟨fc0,vs0,htl,hil,hl,hfc0,hM0,_,_⟩:=(r.mapAt hm h.keep)
 have sfz:=Q56
 have sL:=Q7y
 have slab:∀k,k < Xh->Xr k≠QD:=fun k hk e=>Q5N k hk (by rw [e];exact .Zc _)
 refine IU hM0 (J:=fun k acc s'=>∃Za XF i Q6x,Q0A Za/\Rel c fz Qo Za XF s'/\(∀l,l < QDP->Q4W l∉[QD])/\(∃c,Q3p QD=QB {cls:=.Qk "list",YA:=.seq acc c})/\VRs Za Q6x Q4C/\i+k=Qn/\accv.length=i/\Ek YR m tl il l fv xs (Q72 i) i Q6x XF fun vs XF=>P (.QP Xg) (QDx (.Qs vs))) Qn ?_ ?_ ?_
 ·intros h' c' hk hS
  exact ⟨Λ,σ,0,[],.Q1H _,Q66 (tk:=Y6) (dr:=Q1G) hk,fun k hk' hb=>slab k hk' (Qe hb),⟨c',hS⟩,.Zl,by exact acD,QA,by simpa using h⟩
 ·intros k acc s' Q2T E'
  obtain ⟨Za,XF,i,Q6x,ext,r',hlab,⟨c',hS⟩,QBV,hik,hai,hgo⟩:=Q2T
  have hm':=QQ hm ext.1
  obtain ⟨fc,vs,htl',hil',hl',hfc,hM,hL,hvs⟩:=(r'.mapAt hm' QG8)
  have Q8C:=QG8
  rw [ext.2 m hm]at hM
  have hi:i < Qn:=by exact Sm hik
  have Q6U:Q72 i=xs[i]::Q72 (i+1):=YM hi
  rw [Q6U]at hgo
  obtain ⟨cx,hcx,hvx⟩:=(hvs.get (i:=i) (v:=xs[i]) (by simp [hi]))
  have ne1:Xr m≠Q4W il:=by
   intros q
   rw [<- ext.2 m hm]at q
   have:=QGW _ _ hm' hil' q
   rw [this,Q8C.2.2.1]at Q8C;cases Q8C.1
  have ne2:Q4W tl≠Q4W il:=by
   intros q
   have:=QGW _ _ htl' hil' q
   rw [this,Q8C.2.2.1]at Q8C;cases Q8C.2.1
  refine Nn hM ne1 ne2 hL (x:=cx) (by simpa using hcx) ?_;intros h2 hM2 hs2 E2
  have sS:QD≠Q4W il:=fun q=>hlab il hil' (by rw [<- q];exact .Zc _)
  have r2:Rel c fz Qo Za (QEa il (.Q8m l (i+1))) {s' with YL:=h2,Q0P:=QA3}:=by
   obtain ⟨oi,hoi,hc1,hd1⟩:=hM2.iter
   exact r'.upd (by rw [<- r'.nn];exact hil') (fun b o hb e=>(hs2.2 b hb).QR e) hoi ⟨hl',hc1,hd1⟩
  have hS2:QHL QD=QB {cls:=.Qk "list",YA:=.seq acc c'}:=(hs2.2 _ sS).QR hS
  have own1:∀b∈[QD],fz b=QG:=fun b hb=>by rw [Qe hb];exact sfz
  have r3:=r2.hold own1 sL hlab
  refine hcal _ hA.by3 X0 fm fv Za _ _ [xs[i]] [cx] fc hfc (.Xu hvx .Zl) hgo.2 _ _ _ E2 (Yl ext) r3 ?_;intros Λ3 s3 v a σ3 e3 hP hv r4
  obtain ⟨r5,hk5,hd5⟩:=r4.free Q9L own1 (fun b hb=>by rw [Qe hb];exact ⟨_,hS2⟩)
  have hS3:=hk5 _ (.Zc _) _ hS2
  have hsz:Q4c=i:=by have:=hacc.length;rw [hai]at this;simpa using this.symm
  refine ⟨a,QA,⟨c',hS3⟩,by exact acC Q2U hi hsz,Λ3,σ3,i+1,Q6x++[v],QDX e3,?_,hd5,⟨_,XO _ hS3 QA⟩,?_,by exact Sk hik,by simp [hai],hP⟩
  ·exact r5.growOwn (own:=[QD]) (tk:=s3.toks) (dr:=s3.drawn) own1 sL hd5 fun b o hb e=>(Yr _ _ (fun q=>hb (by rw [<- q];exact .Zc _))).QR e
  ·rw [Q3k];exact (QA8 e3).Q7o (.Xu hv .Zl)
 ·intros acc s' Q6g E'
  obtain ⟨Za,XF,i,Q6x,ext,r',hlab,⟨c',hS⟩,QBV,hik,hai,hgo⟩:=Q6g
  have hm':=QQ hm ext.1
  obtain ⟨fc,vs,htl',hil',hl',hfc,hM,hL,hvs⟩:=(r'.mapAt hm' QG8)
  rw [ext.2 m hm]at hM
  have hi:i=Qn:=by omega
  subst hi
  rw [Q4H]at hgo
  refine Pa (A:=Q58) Q0Y hM hL (by rw [QCe];simp) ?_;intros h2 he2 hio;refine ⟨QA,?_⟩
  have sS:QD≠Q4W il:=fun q=>hlab il hil' (by rw [<- q];exact .Zc _)
  have hS2:QHL QD=QB {cls:=.Qk "list",YA:=.seq acc c'}:=he2 _ _ sS hS
  obtain ⟨o',ho'⟩:=hio
  have r3:Rel c fz Qo Za (QEa il .any) {s' with YL:=h2,Q0P:=QA3}:=r'.upd (by rw [<- r'.nn];exact hil') (fun b o hb e=>he2 b o hb e) ho' ZN
  have QD3:=XL Za QD
  have r4:=r3.label (o:=.Qs Q6x) hS2 (QHK (fun q=>sL (by rw [q];exact .Zc _))) sfz QDl (fun k hk q=>hlab k hk (by rw [q];exact .Zc _)) ⟨Q4C,c',by simp [Q4X],QA8 QD3⟩
  exact q _ _ _ _ _ (QDX QD3) hgo.2 (Q1i _ r3.nn) r4
end
end
end Mini
end
section
open PySem
set_option maxRecDepth 100000
set_option maxHeartbeats 1000000
namespace Mini
mutual
def AI:XM QH:=#[14,4,0,0,4294967295,24,9,0,4294967295,13,4,8,12,0,1,23,15,0,1,16,35,24,9,0,4294967295,13,4,8,12,0,1,18,6,5,1]
abbrev Q7 (t:XM QH) (pc XH h:QH) (L:XM QCi) (I:QW QH) (F:QC Q59) (a:QW Qu) (se:QCj) :Q4t :=
 {Q0o:=AI,QD4:=t,lim:=YF,QF9:=0,pc,XH,handed:=h,marks:=#[],loops:=L,inner:=I,frames:=F,weight:=Zk,answer:=a,Q7S:=se}
def kp (b:Qu):Sre.Kept:={whole:=b}
def frG (pc XH:QH) (c:X3) (b:Qu):Q59:={wait:=.QG9,pc,XH,QAy:=QM,count:=c,kept:=kp b}
def frC (XH:QH):Q59:={wait:=.closeLoop,pc:=15,XH,QAy:=QM,loop:=0}
def frM (XH:QH):Q59:={wait:=.maxMore,pc:=32,XH,QAy:=QM,count:=0,kept:=kp QM,loop:=0}
def frT (XH:QH) (c:X3):Q59:={wait:=.maxTail,pc:=32,XH,QAy:=QM,count:=c,kept:=kp QJ,loop:=0}
def lpS (c:X3) (b:QW QH):XM QCi:=#[{pc:=15,count:=c,began:=b,outer:=QG}]
def Hy (t:XM QH):QH->QH->QH
 | 0,_=>0
 | n+1,p=>if Qr (Q2c p 0) then Hy t n (p+1)+1 else 0
theorem Ee (t:XM QH) (n p:QH):Hy t (n+1) p=if Qr (Q2c p 0) then Hy t n (p+1)+1 else 0:=QA
theorem UG (i:QH) (hi:i=9\/i=25) (c:QH) (se:QCj):∃se',Q4d AI i c se=.ok (Qr c,se'):=by
 injections i _ c se
 rcases hi with QA | QA
 ·have e:Q4d AI 9 c se=(do if <- Q73 12 c then ZU (QM,((Z3 8).add 67)) else Sre.inSet AI c 34 13 QM ((Z3 8).add 67)):=QA
  rw [e]
  have k:Q73 12 c=.ok (Qr c != QJ):=QA
  rw [k]
  cases Qr c with
  | QM=>exact ⟨_,QA⟩
  | QJ=>exact ⟨_,QA⟩
 ·have e:Q4d AI 25 c se=(do if <- Q73 12 c then ZU (QM,((Z3 8).add 67)) else Sre.inSet AI c 34 29 QM ((Z3 8).add 67)):=QA
  rw [e]
  have k:Q73 12 c=.ok (Qr c != QJ):=QA
  rw [k]
  cases Qr c with
  | QM=>exact ⟨_,QA⟩
  | QJ=>exact ⟨_,QA⟩
theorem Jx {t:XM QH} (i:QH) (hi:i=9\/i=25):∀n p f se,∃se',QBm AI t i n p f se=.ok (f+Hy t n p,se')
 | 0,p,f,se=>⟨se,QA⟩
 | n+1,p,f,se=>by
  obtain (⟨se1,h1⟩):=UG i hi (Q2c p 0) se
  unfold QBm
  rw [h1,Ee]
  cases hc:Qr (Q2c p 0) with
  | QM =>
   obtain (⟨se2,h2⟩):=Jx i hi n (p+1) (f+1) se1
   refine ⟨se2,?_⟩
   show QBm AI t i n (p+1) (f+1) se1=_
   rw [h2];simp;exact Ff
  | QJ=>exact ⟨se1,QA⟩
end
variable {t:Array Nat} {pc pos h:Nat} {L:Array Sre.Loop} {I:Option Nat} {F:List Sre.Frame} {se:Sre.Seen}
mutual
def A9 (t:XM QH) (p:QH):QH:=Hy t (YF - p) p
theorem Kx (t:XM QH):∀n p,Hy t n p<=n
 | 0,p=>Qh _
 | n+1,p=>by rw [Ee];split;have:=Kx t n (p+1);exact zq2 this;exact aec
theorem s5 (hF:Zk < 1000) (hp:XH<=YF) (hz:YF < 4294967295):∃se',(Q7 t 5 XH h #[] QG F QG se).Q3q=Q7 t 15 (XH+A9 t XH) (XH+A9 t XH) #[] QG (frG 5 (XH+A9 t XH) (A9 t XH) QJ::F) QG se':=by
 injections t XH h F se _ _ _
 have hr:¬((0:X3) > ((YF:X3) - XH)):=MD hp
 have hm:min 4294967295 ((YF:X3) - XH).Q1X=YF - XH:=KP (XD hz)
 obtain ⟨se2,hrun⟩:=Jx (t:=t) 9 (.inl QA) (YF - XH) XH 0 ((Z3 24).add 13)
 have e2:(Q7 t 5 XH h #[] QG F QG se).Q3q=(if (0:X3) > ((YF:X3) - XH) then (Q7 t 5 XH h #[] QG F QG (Z3 24)).say QJ else
   match QBm AI t 9 (min 4294967295 ((YF:X3) - XH).Q1X) XH 0 ((Z3 24).add 13) with
   | .Q7s why=>(Q7 t 5 XH h #[] QG F QG (Z3 24)).stick why
   | .ok (n,Q7S)=>if n < 0 then (Q7 t 5 XH h #[] QG F QG Q7S).say QJ else (Q7 t 5 (XH+n) h #[] QG F QG Q7S).afterRun .QG9 n ((Q7 t 5 (XH+n) h #[] QG F QG Q7S).Q4V QJ)):=QA
 rw [e2,QN hr,hm,hrun]
 dsimp only
 rw [QN (Q02 _),Q1D]
 refine ⟨se2,?_⟩
 unfold QCk Q0I
 rw [QN (by show ¬(Zk+1+0 > 16777216);exact Dt hF)]
 rfl
theorem s21 (hF:Zk < 1000) (hp:XH<=YF) (hz:YF < 4294967295):∃se',(Q7 t 21 XH h L (QB 0) F QG se).Q3q=Q7 t 31 (XH+A9 t XH) (XH+A9 t XH) L (QB 0) (frG 21 (XH+A9 t XH) (A9 t XH) QM::F) QG se':=by
 injections t XH h L F se _ _ _
 have hr:¬((0:X3) > ((YF:X3) - XH)):=MD hp
 have hm:min 4294967295 ((YF:X3) - XH).Q1X=YF - XH:=KP (XD hz)
 obtain ⟨se2,hrun⟩:=Jx (t:=t) 25 (.inr QA) (YF - XH) XH 0 ((Z3 24).add 13)
 have e2:(Q7 t 21 XH h L (QB 0) F QG se).Q3q=(if (0:X3) > ((YF:X3) - XH) then (Q7 t 21 XH h L (QB 0) F QG (Z3 24)).say QJ else
   match QBm AI t 25 (min 4294967295 ((YF:X3) - XH).Q1X) XH 0 ((Z3 24).add 13) with
   | .Q7s why=>(Q7 t 21 XH h L (QB 0) F QG (Z3 24)).stick why
   | .ok (n,Q7S)=>if n < 0 then (Q7 t 21 XH h L (QB 0) F QG Q7S).say QJ else (Q7 t 21 (XH+n) h L (QB 0) F QG Q7S).afterRun .QG9 n ((Q7 t 21 (XH+n) h L (QB 0) F QG Q7S).Q4V QM)):=QA
 rw [e2,QN hr,hm,hrun]
 dsimp only
 rw [QN (Q02 _),Q1D]
 refine ⟨se2,?_⟩
 unfold QCk Q0I
 rw [QN (by show ¬(Zk+1+0 > 16777216);exact Dt hF)]
 rfl
theorem s15 (hF:Zk < 1000):(Q7 t 15 XH h #[] QG F QG se).Q3q=Q7 t 31 XH XH (lpS (-1) QG) (QB 0) (frC XH::F) QG (Z3 23):=by
 have e2:(Q7 t 15 XH h #[] QG F QG se).Q3q=(Q7 t 15 XH h (lpS (-1) QG) (QB 0) F QG (Z3 23)).Q74 (frC XH) 31 XH QM:=QA
 rw [e2]
 unfold Q0I
 rw [QN (by show ¬(Zk+1+0 > 16777216);exact Dt hF)]
 rfl
theorem ahL (hF:Zk < 1000):(Q7 t 31 XH h (lpS (-1) QG) (QB 0) F QG se).Q3q=Q7 t 19 XH XH (lpS 0 (QB XH)) (QB 0) (frM XH::F) QG (Z3 18):=by
 have e2:(Q7 t 31 XH h (lpS (-1) QG) (QB 0) F QG se).Q3q=(Q7 t 32 XH h (lpS 0 (QB XH)) (QB 0) F QG (Z3 18)).Q74 (frM XH) 19 XH QM:=QA
 rw [e2]
 unfold Q0I
 rw [QN (by show ¬(Zk+1+0 > 16777216);exact Dt hF)]
 rfl
theorem aeO {q:QH} (hF:Zk < 1000):(Q7 t 31 XH h (lpS 0 (QB q)) (QB 0) F QG se).Q3q=Q7 t 32 XH XH (lpS 0 (QB q)) QG (frT XH 1::F) QG (Z3 18):=by
 have e2:(Q7 t 31 XH h (lpS 0 (QB q)) (QB 0) F QG se).Q3q=(Q7 t 32 XH h (lpS 0 (QB q)) QG F QG (Z3 18)).Q74 (frT XH 1) 32 XH QM:=QA
 rw [e2]
 unfold Q0I
 rw [QN (by show ¬(Zk+1+0 > 16777216);exact Dt hF)]
 rfl
theorem ahM (hp:XH >= YF):(Q7 t 19 XH h L I F QG se).Q3q=Q7 t 19 XH h L I F (QB QJ) (Z3 16):=by
 have e2:(Q7 t 19 XH h L I F QG se).Q3q=(if XH >= YF then (Q7 t 19 XH h L I F QG (Z3 16)).say QJ else
  match Q4d AI 19 (Q2c XH 0) (Z3 16) with
  | .Q7s why=>(Q7 t 19 XH h L I F QG (Z3 16)).stick why
  | .ok (QJ,Q7S)=>(Q7 t 19 XH h L I F QG Q7S).say QJ
  | .ok (QM,Q7S)=>Q7 t 21 (XH+1) h L I F QG Q7S):=QA
 rw [e2,QY hp];rfl
theorem s19 (hp:¬XH >= YF):(Q7 t 19 XH h L I F QG se).Q3q=(if (Q2c XH 0 == 35)=QM then Q7 t 21 (XH+1) h L I F QG (Z3 16) else Q7 t 19 XH h L I F (QB QJ) (Z3 16)):=by
 injections t XH h L I F se _
 have e2:(Q7 t 19 XH h L I F QG se).Q3q=(if XH >= YF then (Q7 t 19 XH h L I F QG (Z3 16)).say QJ else
  match Q4d AI 19 (Q2c XH 0) (Z3 16) with
  | .Q7s why=>(Q7 t 19 XH h L I F QG (Z3 16)).stick why
  | .ok (QJ,Q7S)=>(Q7 t 19 XH h L I F QG Q7S).say QJ
  | .ok (QM,Q7S)=>Q7 t 21 (XH+1) h L I F QG Q7S):=QA
 have e3:Q4d AI 19 (Q2c XH 0) (Z3 16)=.ok (Q2c XH 0 == 35,Z3 16):=QA
 rw [e2,QN hp,e3]
 cases Q2c XH 0 == 35 <;> rfl
def CL (t:XM QH) (p:QH):Qu:=p == YF || (p+1 == YF&&Q2c p 0 == 10)
theorem s32:(Q7 t 32 XH h L I F QG se).Q3q=(if CL t XH=QM then Q7 t 34 XH h L I F QG ((Z3 6).add 48) else Q7 t 32 XH h L I F (QB QJ) ((Z3 6).add 48)):=by
 have e2:(Q7 t 32 XH h L I F QG se).Q3q=(if CL t XH=QM then {Q7 t 32 XH h L I F QG ((Z3 6).add 48) with pc:=34} else (Q7 t 32 XH h L I F QG ((Z3 6).add 48)).say QJ):=QA
 rw [e2];rfl
theorem s34:(Q7 t 34 XH h L I F QG se).Q3q=Q7 t 34 XH XH L I F (QB QM) (Z3 1):=QA
theorem rT {p:QH} {c:X3} {b:Qu}:(Q7 t pc XH h L I (frT p c::F) (QB b) se).Q3q=Q7 t 32 p h L (QB 0) F (QB b) se:=QA
theorem rGt {pf p:QH} {c:X3} {w:Qu}:(Q7 t pc XH h L I (frG pf p c w::F) (QB QM) se).Q3q=Q7 t pf p h L I F (QB QM) se:=QA
theorem rG0 {pf p:QH} {w:Qu} (hpf:pf=5\/pf=21):(Q7 t pc XH h L I (frG pf p 0 w::F) (QB QJ) se).Q3q=Q7 t pf p h L I F (QB QJ) se:=by
 rcases hpf with QA | QA <;> cases w <;> rfl
theorem rGs {pf p c:QH} {w:Qu} (hF:Zk < 1000) (hpf:pf=5\/pf=21):(Q7 t pc XH h L I (frG pf p ((c+1:QH):X3) w::F) (QB QJ) se).Q3q=Q7 t (pf+10) (p - 1) (p - 1) L I (frG pf (p - 1) c w::F) QG se:=by
 have hc:((c+1:QH):X3) - 1=(c:X3):=by exact ia1 (Kg)
 have hn:¬((c:X3) < (0:QH)):=by omega
 rcases hpf with QA | QA
 all_goals
  cases w
  all_goals
   first
   | (
    have e2:(Q7 t pc XH h L I (frG 5 p ((c+1:QH):X3) QJ::F) (QB QJ) se).Q3q=(if ((c+1:QH):X3) - 1 < (0:QH) then Q7 t 5 p h L I F (QB QJ) se else (Q7 t 5 (p - 1) h L I F QG se).Q74 (frG 5 (p - 1) (((c+1:QH):X3) - 1) QJ) 15 (p - 1) QM):=QA
    rw [e2,hc,QN hn]
    unfold Q0I
    rw [QN (by show ¬(Zk+1+0 > 16777216);exact Dt hF)]
    rfl)
   | (
    have e2:(Q7 t pc XH h L I (frG 5 p ((c+1:QH):X3) QM::F) (QB QJ) se).Q3q=(if ((c+1:QH):X3) - 1 < (0:QH) then Q7 t 5 p h L I F (QB QJ) se else (Q7 t 5 (p - 1) h L I F QG se).Q74 (frG 5 (p - 1) (((c+1:QH):X3) - 1) QM) 15 (p - 1) QM):=QA
    rw [e2,hc,QN hn]
    unfold Q0I
    rw [QN (by show ¬(Zk+1+0 > 16777216);exact Dt hF)]
    rfl)
   | (
    have e2:(Q7 t pc XH h L I (frG 21 p ((c+1:QH):X3) QJ::F) (QB QJ) se).Q3q=(if ((c+1:QH):X3) - 1 < (0:QH) then Q7 t 21 p h L I F (QB QJ) se else (Q7 t 21 (p - 1) h L I F QG se).Q74 (frG 21 (p - 1) (((c+1:QH):X3) - 1) QJ) 31 (p - 1) QM):=QA
    rw [e2,hc,QN hn]
    unfold Q0I
    rw [QN (by show ¬(Zk+1+0 > 16777216);exact Dt hF)]
    rfl)
   | (
    have e2:(Q7 t pc XH h L I (frG 21 p ((c+1:QH):X3) QM::F) (QB QJ) se).Q3q=(if ((c+1:QH):X3) - 1 < (0:QH) then Q7 t 21 p h L I F (QB QJ) se else (Q7 t 21 (p - 1) h L I F QG se).Q74 (frG 21 (p - 1) (((c+1:QH):X3) - 1) QM) 31 (p - 1) QM):=QA
    rw [e2,hc,QN hn]
    unfold Q0I
    rw [QN (by show ¬(Zk+1+0 > 16777216);exact Dt hF)]
    rfl)
theorem rMt {p q:QH}:(Q7 t pc XH h (lpS 0 (QB q)) I (frM p::F) (QB QM) se).Q3q=Q7 t 32 p h (lpS 0 QG) I F (QB QM) se:=QA
theorem rMf {p q:QH} (hF:Zk < 1000):(Q7 t pc XH h (lpS 0 (QB q)) I (frM p::F) (QB QJ) se).Q3q=Q7 t 32 p p (lpS (-1) QG) QG (frT p 0::F) QG se:=by
 have e2:(Q7 t pc XH h (lpS 0 (QB q)) I (frM p::F) (QB QJ) se).Q3q=(Q7 t 32 p h (lpS (-1) QG) QG F QG se).Q74 (frT p 0) 32 p QM:=QA
 rw [e2]
 unfold Q0I
 rw [QN (by show ¬(Zk+1+0 > 16777216);exact Dt hF)]
 rfl
theorem rC {p:QH} {c:X3} {b':QW QH} {b:Qu}:(Q7 t pc XH h (lpS c b') I (frC p::F) (QB b) se).Q3q=Q7 t 15 p h #[] QG F (QB b) se:=QA
end
end Mini
end
section
open PySem
set_option maxHeartbeats 1000000
namespace Mini
variable {t:Array Nat} {pc pos h:Nat} {L:Array Sre.Loop} {I:Option Nat} {F:List Sre.Frame} {se:Sre.Seen}
mutual
def RR (K:QH) (m m':Q4t):Prop:=∃k,k<=K/\∀n,Ys (n+k) m=Ys n m'
theorem RR.one {m:Q4t} (h:QDy=QG):RR 1 m QEq:=⟨1,Qh _,fun n=>by
 conv=>lhs;unfold Ys
 rw [h];rfl⟩
theorem RR.refl {m:Q4t}:RR 0 m m:=⟨0,Qh _,fun n=>QA⟩
theorem RR.trans {a b:QH} {m m' m'':Q4t} (x:RR a m m') (y:RR b m' m''):RR (a+b) m m'':=by
 obtain (⟨k,hk,h1⟩):=x
 obtain (⟨l,hl,h2⟩):=y
 refine ⟨k+l,by exact aeb hk hl,fun n=>?_⟩
 rw [show n+(k+l)=(n+l)+k by exact aea,h1,h2]
theorem RR.mono {a b:QH} {m m':Q4t} (x:RR a m m') (h:a<=b):RR b m m':=let ⟨k,hk,r⟩:=x;⟨k,Y1 hk h,r⟩
theorem RR.step {K:QH} {m m1 m2:Q4t} (h:QDy=QG) (e:QEq=m1) (r:RR K m1 m2):RR (K+1) m m2:=by
 have:=(RR.one h)
 rw [e]at this
 exact (this.trans r).QBb (by exact ad9)
def Ans (t:XM QH) (K:QH) (m:Q4t) (b:Qu) (L:XM QCi) (I:QW QH) (F:QC Q59):Prop:=∃pc XH h se,RR K m (Q7 t pc XH h L I F (QB b) se)
theorem Yj {K:QH} {m m1:Q4t} {b:Qu} (h:QDy=QG) (e:QEq=m1) (r:Ans t K m1 b L I F):Ans t (K+1) m b L I F:=let ⟨pc,XH,h',se,r⟩:=r;⟨pc,XH,h',se,RR.step h e r⟩
theorem Ans.go {K K':QH} {m:Q4t} {b b':Qu} {L':XM QCi} {I':QW QH} {F':QC Q59} (x:Ans t K m b L I F) (y:∀pc XH h se,Ans t K' (Q7 t pc XH h L I F (QB b) se) b' L' I' F'):Ans t (K+K') m b' L' I' F':=by
 injections t L I F K K' m b b' L' I' F' _ _
 obtain ⟨pc,XH,h,se,r⟩:=x
 obtain ⟨pc',QAB,h',se',r'⟩:=y pc XH h se
 exact ⟨pc',QAB,h',se',r.trans r'⟩
theorem QAC {K K':QH} {m:Q4t} {b:Qu} (x:Ans t K m b L I F) (h:K<=K'):Ans t K' m b L I F:=let ⟨pc,XH,h',se,r⟩:=x;⟨pc,XH,h',se,r.mono h⟩
theorem Ans.here {b:Qu}:Ans t 0 (Q7 t pc XH h L I F (QB b) se) b L I F:=⟨pc,XH,h,se,.Q1H⟩
theorem Jo:Ans t 2 (Q7 t 32 XH h L I F QG se) (CL t XH) L I F:=by
 cases e:CL t XH with
 | QM =>
  refine Yj QA (m1:=Q7 t 34 XH h L I F QG ((Z3 6).add 48)) (by rw [s32,QY e]) ?_
  exact Yj QA s34 .QBc
 | QJ =>
  exact (Yj QA (m1:=Q7 t 32 XH h L I F (QB QJ) ((Z3 6).add 48)) (by rw [s32,QN (by rw [e];simp)]) .QBc).QBb (by exact Vd)
def Gx (t:XM QH) (p:QH):QH->Qu
 | 0=>CL t p
 | c+1=>CL t p || Gx t (p - 1) c
theorem b1 {q:QH} (hF:Zk+2 < 1000):∀c XH h se,Ans t (6*(c+1)) (Q7 t 31 XH h (lpS 0 (QB q)) (QB 0) (frG 21 XH c QM::F) QG se) (Gx t XH c) (lpS 0 (QB q)) (QB 0) F
 | 0,XH,h,se=>by
  have A:Ans t 4 (Q7 t 31 XH h (lpS 0 (QB q)) (QB 0) (frG 21 XH (0:QH) QM::F) QG se) (CL t XH) (lpS 0 (QB q)) (QB 0) (frG 21 XH (0:QH) QM::F):=by
   refine (Yj QA (aeO (by simp;exact SK hF)) ((Jo).go fun pc XH h se=>Yj (K:=0) QA rT .QBc)).QBb (by exact SJ)
  refine (A.go (K':=1) fun pc' QAB h' se'=>?_).QBb (by exact Vc)
  unfold Gx
  cases e:CL t XH with
  | QM=>exact Yj QA rGt .QBc
  | QJ=>exact Yj QA (rG0 (.inr QA)) .QBc
 | c+1,XH,h,se=>by
  have A:Ans t 4 (Q7 t 31 XH h (lpS 0 (QB q)) (QB 0) (frG 21 XH ((c+1:QH):X3) QM::F) QG se) (CL t XH) (lpS 0 (QB q)) (QB 0) (frG 21 XH ((c+1:QH):X3) QM::F):=by
   refine (Yj QA (aeO (by simp;exact SK hF)) ((Jo).go fun pc XH h se=>Yj (K:=0) QA rT .QBc)).QBb (by exact SJ)
  refine (A.go (K':=6*(c+1)+1) fun pc' QAB h' se'=>?_).QBb (by exact ad8)
  unfold Gx
  cases e:CL t XH with
  | QM=>exact (Yj (K:=0) QA rGt .QBc).QBb (by exact ad7)
  | QJ =>
   simp only [Q2D]
   exact Yj QA (rGs (by exact ad6 hF) (.inr QA)) (b1 hF c (XH - 1) _ _)
def E0 (t:XM QH) (p:QH):Qu:=(XV (p < YF)&&(Q2c p 0 == 35)&&Gx t (p+1+A9 t (p+1)) (A9 t (p+1))) || CL t p
theorem Hv (t:XM QH) (p:QH):A9 t p<=YF - p:=Kx t _ _
theorem b2 (hF:Zk+5 < 1000) (hz:YF < 4294967295) (hp:XH<=YF):Ans t (6*(YF+1)+12) (Q7 t 15 XH h #[] QG F QG se) (E0 t XH) #[] QG F:=by
 injections t XH h F se _ _ _
 have fin:∀pc' QAB h' se',Ans t 3 (Q7 t pc' QAB h' (lpS 0 (QB XH)) (QB 0) (frM XH::frC XH::F) (QB QM) se') QM #[] QG F:=fun pc' QAB h' se' =>
  (Yj QA rMt (Yj (K:=0) QA rC .QBc)).QBb (by exact Vb)
 have back:∀pc' QAB h' se',Ans t 5 (Q7 t pc' QAB h' (lpS 0 (QB XH)) (QB 0) (frM XH::frC XH::F) (QB QJ) se') (CL t XH) #[] QG F:=by
  intros pc' QAB h' se'
  refine (Yj QA (rMf (by simp;exact SI hF)) ((Jo).go (K':=2) fun pc XH h se=>Yj (K:=1) QA rT (Yj (K:=0) QA rC .QBc))).QBb (by exact Va)
 refine QAC (K:=(6*(YF+1)+9)+1+1) (Yj QA (s15 (by exact ad5 hF)) (Yj QA (ahL (by simp;exact SI hF)) ?_)) (by exact ad4)
 unfold E0
 by_cases hp2:XH >= YF
 ·rw [show XV (XH < YF)=QJ from Yf (by exact ad3 hp2)]
  simp only [Q7i,Q2D]
  exact (Yj QA (ahM hp2) (back _ _ _ _)).QBb (by exact SH)
 ·rw [show XV (XH < YF)=QM from Yu (by exact Tm hp2)]
  cases hc:Q2c XH 0 == 35 with
  | QJ =>
   simp only [QCF,Q7i,Q2D]
   exact (Yj QA (by rw [s19 hp2,QN (by rw [hc];simp)]) (back _ _ _ _)).QBb (by exact SH)
  | QM =>
   simp only [Bool.true_and]
   have hw:=Hv t (XH+1)
   obtain ⟨se2,e21⟩:=s21 (t:=t) (XH:=XH+1) (h:=XH) (L:=lpS 0 (QB XH)) (F:=frM XH::frC XH::F) (se:=((Z3 23).add 18).add 16) (by simp;exact ad1 hF) (by exact ad0 hp2) hz
   refine QAC (K:=(6*(A9 t (XH+1)+1)+5)+1+1) (Yj QA (m1:=Q7 t 21 (XH+1) XH (lpS 0 (QB XH)) (QB 0) (frM XH::frC XH::F) QG (((Z3 23).add 18).add 16)) (by rw [s19 hp2,QY hc]) (Yj QA e21 ((b1 (by simp;exact adZ hF) _ _ _ _).go ?_))) (by exact adY hp2 hw);intros pc' QAB h' se'
   cases hb:Gx t (XH+1+A9 t (XH+1)) (A9 t (XH+1)) with
   | QM=>exact (fin pc' QAB h' se').QBb (by exact U9)
   | QJ=>simp only [Q2D];exact back pc' QAB h' se'
def FT (t:XM QH) (p:QH):QH->Qu
 | 0=>E0 t p
 | c+1=>E0 t p || FT t (p - 1) c
theorem b3 (hF:Zk+6 < 1000) (hz:YF < 4294967295):∀c XH h se,XH<=YF->Ans t ((6*(YF+1)+14)*(c+1)) (Q7 t 15 XH h #[] QG (frG 5 XH c QJ::F) QG se) (FT t XH c) #[] QG F
 | 0,XH,h,se,hp=>by
  refine QAC ((b2 (by simp;omega) hz hp).go (K':=1) fun pc' QAB h' se'=>?_) (by omega)
  unfold FT
  cases e:E0 t XH with
  | QM=>exact Yj QA rGt .QBc
  | QJ=>exact Yj QA (rG0 (.inl QA)) .QBc
 | c+1,XH,h,se,hp=>by
  refine QAC ((b2 (by simp;omega) hz hp).go (K':=(6*(YF+1)+14)*(c+1)+1) fun pc' QAB h' se'=>?_) (by
   rw [show (6*(YF+1)+14)*(c+1+1)=(6*(YF+1)+14)*(c+1)+(6*(YF+1)+14) from Nat.mul_succ ..];omega)
  unfold FT
  cases e:E0 t XH with
  | QM=>exact (Yj (K:=0) QA rGt .QBc).QBb (by omega)
  | QJ =>
   simp only [Q2D]
   exact Yj QA (rGs (by exact adX hF) (.inl QA)) (b3 hF hz c (XH - 1) _ _ (by exact adW hp))
def rxJ (t:XM QH):Qu:=FT t (A9 t 0) (A9 t 0)
theorem OX (hz:YF < 1000000):∃pc XH h se k,k<=20000000000000/\∀n,Ys (n+k) (QAD AI t 0 0 YF QJ QJ)={Q7 t pc XH h #[] QG [] (QB (rxJ t)) se with outcome:=QB (if rxJ t then .matched else .failed)}:=by
 injections t _
 have e0:QAD AI t 0 0 YF QJ QJ=Q7 t 5 0 0 #[] QG [] QG (({}:QCj).add 14):=QA
 rw [e0]
 have hw:=Hv t 0
 obtain ⟨se2,e5⟩:=s5 (t:=t) (XH:=0) (h:=0) (F:=[]) (se:=(({}:QCj).add 14)) (by simp) (XT _) (by exact SG hz)
 rw [Q1D]at e5
 obtain ⟨pc,XH,h,se,r⟩:=Yj QA e5 (b3 (by simp) (by exact SG hz) (A9 t 0) (A9 t 0) _ _ (by omega))
 have r2:=r.trans (RR.one (m:=Q7 t pc XH h #[] QG [] (QB (FT t (A9 t 0) (A9 t 0))) se) QA)
 obtain ⟨k,hk,hr⟩:=r2
 have hb:(6*(YF+1)+14)*(A9 t 0+1)<=(6*1000000+14)*1000000:=Nat.mul_le_mul (by exact adV hz) (by exact adU hz hw)
 refine ⟨pc,XH,h,se,k,by omega,?_⟩;intros n
 rw [hr n]
 have e:(Q7 t pc XH h #[] QG [] (QB (FT t (A9 t 0) (A9 t 0))) se).Q3q={Q7 t pc XH h #[] QG [] (QB (rxJ t)) se with outcome:=QB (if rxJ t then .matched else .failed)}:=QA
 rw [e]
 cases n with
 | Q2Q=>rfl
 | Q2R n=>rfl
def Ws (l:QC QH):Prop:=∀c∈l,Qr c=QM
def Op (l:QC QH):Prop:=Ws l\/∃a b,Ws a/\Ws b/\l=a++35::b
theorem Hw (t:XM QH):∀n p,(∀i,i < n->Qr (Q2c (p+i) 0)=QM)->Hy t n p=n
 | 0,p,_=>QA
 | n+1,p,h=>by
  rw [Ee,QY (by simpa using h 0 (by exact Mc)),Hw t n (p+1) fun i hi=>by have:=h (i+1) (by exact SF hi);rwa [show p+1+i=p+(i+1) by exact Ff]]
theorem GS (t:XM QH):∀n p k,k < n->(∀i,i < k->Qr (Q2c (p+i) 0)=QM)->Qr (Q2c (p+k) 0)=QJ->Hy t n p=k
 | n+1,p,0,_,_,h=>by rw [Ee,QN (by rw [Q0f]at h;rw [h];simp)]
 | n+1,p,k+1,hk,h,hs=>by
  rw [Ee,QY (by simpa using h 0 (by exact Mc)),GS t n (p+1) k (by exact SE hk) (fun i hi=>by have:=h (i+1) (by exact SF hi);rwa [show p+1+i=p+(i+1) by exact Ff]) (by rwa [show p+1+k=p+(k+1) by exact Ff])]
theorem Hx (t:XM QH):∀n p i,i < Hy t n p->Qr (Q2c (p+i) 0)=QM
 | 0,p,i,h=>Xc h (Q02 _)
 | n+1,p,i,h=>by
  rw [Ee]at h
  split at h
  ·cases i with
   | Q2Q=>rw [Q0f];assumption
   | Q2R i=>have:=Hx t n (p+1) i (by exact SE h);rwa [show p+(i+1)=p+1+i by exact Me]
  ·omega
theorem Hj {t:XM QH}:∀c p,Gx t p c=QM->∃q,q<=p/\p<=q+c/\CL t q=QM
 | 0,p,h=>⟨p,Qh _,by exact SD,h⟩
 | c+1,p,h=>by
  unfold Gx at h
  cases e:CL t p with
  | QM=>exact ⟨p,Qh _,by exact Ks,e⟩
  | QJ=>rw [e]at h;refine ew1 (Hj c (p - 1) (by simpa using h)) fun q yq5A=>?_;refine an3 yq5A fun h1 h2 h3=>?_;clear yq5A;exact ⟨q,by exact SC h1,by exact SA h2,h3⟩
theorem Hg {t:XM QH}:∀c p,FT t p c=QM->∃q,q<=p/\p<=q+c/\E0 t q=QM
 | 0,p,h=>⟨p,Qh _,by exact SD,h⟩
 | c+1,p,h=>by
  unfold FT at h
  cases e:E0 t p with
  | QM=>exact ⟨p,Qh _,by exact Ks,e⟩
  | QJ=>rw [e]at h;refine ew1 (Hg c (p - 1) (by simpa using h)) fun q yq5B=>?_;refine an3 yq5B fun h1 h2 h3=>?_;clear yq5B;exact ⟨q,by exact SC h1,by exact SA h2,h3⟩
theorem K1 {t:XM QH} {p:QH} (h:CL t p=QM):p<=YF/\∀i,p<=i->i < YF->Qr (Q2c i 0)=QM:=by
 injections t p _
 unfold CL at h
 simp only [Q27,ZJ,X7]at h
 rcases h with h | zR
 ·exact ⟨by exact Mb h,fun i a b=>by omega⟩
 ·obtain ⟨h1,h2⟩:=zR
  refine ⟨by exact adS h1,?_⟩;intros i a b
  have:i=p:=by exact adR h1 a b
  subst this
  rw [h2];decide +XB
theorem MZ {l:QC QH} (h:rxJ Q2H=QM):Op l:=by
 refine ew1 (Hg _ _ h) fun q yq5C=>?_;refine an3 yq5C fun h1 _ h2=>?_;clear yq5C
 have hw:∀i,i < A9 Q2H 0->Qr (Q8D i 0)=QM:=fun i hi=>by simpa using Hx Q2H _ 0 i hi
 have hle:=Hv Q2H 0
 have gd:∀i (hi:i < ZF),Q8D i 0=l[i]:=fun i hi=>by simp [X9,hi]
 unfold E0 at h2
 simp only [Q27,X7,Xl,ZJ]at h2
 rcases h2 with ⟨⟨h3,h4⟩,h5⟩ | h3
 ·right
  refine ew1 (Hj _ _ h5) fun e yq5D=>?_;refine an3 yq5D fun e1 _ e2=>?_;clear yq5D
  obtain (⟨e3,e4⟩):=K1 e2
  have hql:q < ZF:=by simpa using h3
  refine ⟨l.take q,l.drop (q+1),?_,?_,?_⟩
  ·intro c hc
   obtain (⟨i,hi,QA⟩):=Zd hc
   rw [Xn]at hi
   rw [Q5h,<- gd i (QQ hi (Q46 _ _))]
   exact hw i (QQ hi (Y1 (Q7B _ _) h1))
  ·intro c hc
   obtain (⟨i,hi,QA⟩):=Zd hc
   rw [Q1g]at hi
   rw [Q5g,<- gd (q+1+i) (by exact Sz hi)]
   by_cases hi2:i < A9 Q2H (q+1)
   ·exact Hx Q2H _ (q+1) i hi2
   ·exact e4 _ (by exact adP e1 hi2) (by simp;exact Sz hi)
  ·have:l.drop q=35::l.drop (q+1):=by rw [YM hql,<- gd q hql,h4]
   rw [<- this,List.take_append_drop]
 ·left
  obtain (⟨e3,e4⟩):=K1 h3
  intro c hc
  obtain (⟨i,hi,QA⟩):=Zd hc
  rw [<- gd i hi]
  by_cases hi2:i < A9 Q2H 0
  ·exact hw i hi2
  ·exact e4 i (by exact adO h1 hi2) (by simpa using hi)
theorem Pk {t:XM QH} {p:QH} (h:CL t p=QM):∀c,Gx t p c=QM
 | 0=>h
 | c+1=>by unfold Gx;rw [h];rfl
theorem KY {t:XM QH} {p:QH} (h:E0 t p=QM):∀c,FT t p c=QM
 | 0=>h
 | c+1=>by unfold FT;rw [h];rfl
theorem TL {l:QC QH} (h:Op l):rxJ Q2H=QM:=by
 injections l _
 have gd:∀i (hi:i < ZF),Q8D i 0=l[i]:=fun i hi=>by simp [X9,hi]
 have fin:CL Q2H ZF=QM:=by unfold CL;simp
 rcases h with h | zR
 ·have e:A9 Q2H 0=ZF:=by
   unfold A9
   rw [Hw Q2H _ 0 fun i hi=>by
    rw [Q1D,gd i (by simpa using hi)];exact h _ (Q0E _)]
   simp
  unfold rxJ
  rw [e]
  refine KY ?_ _
  unfold E0
  rw [fin,Bool.or_true]
 ·obtain ⟨a,b,ha,hb,QA⟩:=zR
  have h35:Qr 35=QJ:=by decide +XB
  have e:A9 (a++35::b).Xe 0=ZE:=by
   refine GS _ _ 0 ZE (by simp) ?_ ?_
   ·intros i hi
    rw [Q1D,gd i (by simp;exact adN hi)]
    rw [List.getElem_append_left hi];exact ha _ (Q0E _)
   ·rw [Q1D,gd ZE (by simp)]
    simp [h35]
  have e2:A9 (a++35::b).Xe (ZE+1)=Q3r:=by
   unfold A9
   rw [Hw _ _ _ fun i hi=>by
    have hi':i < Q3r:=by simp at hi;exact adM hi
    rw [gd (ZE+1+i) (by simp;exact adL hi')]
    rw [List.getElem_append_right (by exact adK)]
    have:ZE+1+i - ZE=i+1:=by exact adJ
    simp only [this,Q6k]
    exact hb _ (Q0E _)]
   simp;exact adI
  unfold rxJ
  rw [e]
  refine KY ?_ _
  unfold E0
  rw [e2]
  have h1:XV (ZE < (a++35::b).QAE)=QM:=by simp
  have h2:((a++35::b).toArray.getD ZE 0 == 35)=QM:=by rw [gd ZE (by simp)];simp
  rw [h1,h2,Pk (by rw [show ZE+1+Q3r=(a++35::b).ZT by simp;exact Ff];exact fin)]
  rfl
end
end Mini
end
section
open PySem PySem.W PySem.Calls PyProof.Rows
set_option maxRecDepth 100000
set_option maxHeartbeats 1000000
namespace Mini
mutual
theorem Cc {m:Q4t} (h:QAz=QM):∀n,Ys n m=m
 | 0=>QA
 | n+1=>QY h
theorem DE:∀a b (m:Q4t),Ys (a+b) m=Ys b (Ys a m)
 | 0,b,m=>by rw [Q1D];rfl
 | a+1,b,m=>by
  by_cases h:QAz=QM
  ·rw [Cc h,Cc h,Cc h]
  ·have e:∀c,Ys (c+1) m=Ys c QEq:=fun c=>QN h
   rw [show a+1+b=(a+b)+1 by exact adH,e,e]
   exact DE a b QEq
end
section
variable {prog:Program} {w:World} {A:Around} {E:Value->Shared->Prop} {s:Shared}
mutual
theorem Ge {mf:Q4t} (hf:mf.outcome.isSome=QM) {Q:Q4t->QZ->Prop} (hq:Q mf s) (QGA:QH):∀k (m:Q4t),1<=QGA->k<=4*QGA->(∀n,Ys (n+k) m=mf)->Qp (Qi XC w) A (Builtin.Re.reDrive QGA m) Q E s:=by
 induction QGA with
 | Q2Q=>intro k m h1;exact Xc h1 (by decide)
 | Q2R QGA ih =>
  intro k m _ hk h
  show Qp _ _ (if (Ys Q0g m).Q8E=QM then _ else _) _ _ _
  by_cases ho:(Ys Q0g m).Q8E=QM
  ·rw [QY ho]
   have e:Ys Q0g m=mf:=by
    rw [<- h Q0g,DE,Cc ho]
   rw [e]
   exact QF hq
  ·rw [QN ho]
   refine Q9 (Q0X ?_)
   have h4:4 < k:=by
    rcases Q3l 4 k with q | q
    ·exact q
    ·exfalso
     have:Ys 4 m=mf:=by rw [<- h (4 - k),Q9U q]
     exact ho (by show (Ys 4 m).Q8E=QM;rw [this];exact hf)
   refine ih (k - 4) _ (by exact adG hk h4) (by exact adF hk h4) fun n=>?_
   rw [show Q0g=4 from QA,<- DE,show 4+(n+(k - 4))=n+k by exact adE h4]
   exact h n
theorem C5 {p:QH->Qu} {g:QH->XA} {Q:PUnit->QZ->Prop} (hq:Q ⟨⟩ s):∀(l:QC QH),Qp (Qi XC w) A (QFx l QCl fun i _=>if p i=QM then (do rule (g i);ZU (ZW QCl)) else ZU (ZW QCl)) Q E s
 | []=>by rw [Q2a];exact QF hq
 | i::l=>by
  rw [Q19]
  refine Q9 ?_
  cases p i with
  | QM=>rw [QY QA];exact Q9 (Q0X (QF (C5 hq l)))
  | QJ=>rw [QN Qj];exact QF (C5 hq l)
theorem OY {t:XM QH} (hz:YF < 1000000) {Q:QW Q4t->QZ->Prop} (h1:rxJ t=QM->∀m,m.start=0->m.lastmark=-1->Q (QB m) s) (h0:rxJ t=QJ->Q QG s) :
  Qp (Qi XC w) A (Q7T (QAD AI t 0 0 YF QJ QJ)) Q E s:=by
 injections XC w A E s t _ Q _ _
 obtain ⟨pc,XH,h,se,k,hk,hr⟩:=(OX hz)
 unfold Q7T
 refine Q9 (Ge QA ?_ (2 ^ 64) k _ (by exact U8) (by exact Vq hk) hr)
 refine Q9 (C5 ?_ _)
 dsimp only
 cases hj:rxJ t with
 | QM=>exact QF (h1 hj _ QA QA)
 | QJ=>exact QF (h0 hj)
theorem TZ (v:QI):Builtin.Re.reNamed "re.Pattern.match" "match" ["string","pos","endpos"] 1 [v] []=ZU [QB v,QG,QG]:=by with_unfolding_all rfl
theorem Q1q {x:X6} {t:Tok} {p ct:Qq} {pt fl f3 f4:QI} {u1 u2:Tok} {its:XM QI} {n:QH} {op oc:ZC} {Q:Builtin.Re.ReTarget->QZ->Prop}
  (hp:Qc p=QB op) (hpd:QEr=.Xo #[pt,fl,.Qm 0 u1,f3,f4,.QP ct,.Qm 0 u2]) (hc:Qc ct=QB oc) (hcd:QHM=.seq its n) (hi:(QEs Q3U).map (·.Q1X)=AI)
  (h:Q {pattern:=.QP p,string:=.Xs x t,Q0o:=AI,QD4:=Q8s,kind:=0,groups:=0,XH:=0,lim:=Q1U} s) (hz:Q1U < 1000000) :
  Qp (Qi XC w) A (Q8k "re.Pattern.match" "match" ⟨[.QP p,.Xs x t],[]⟩) Q E s:=by
 injections XC w A E s x t p ct pt fl f3 f4 u1 u2 its n op oc Q _ _ _ _ _ _ _
 unfold Q8k
 dsimp only
 refine Q9 (Zi (TZ _) ?_)
 dsimp only
 refine Q9 (QF (Q9 (QF ?_)))
 refine Q9 (Q80 hp hpd ?_)
 refine Q9 (m:=Builtin.Re.reTextOf (.Xs x t)) (Zi (a:=(Q8s,0)) QA ?_)
 dsimp only
 have e6:Builtin.Re.reRawNat ((#[pt,fl,.Qm 0 u1,f3,f4,.QP ct,.Qm 0 u2]:XM QI).Q4f 6 .QG)=0:=QA
 rw [e6,QN (show ¬(((0:QH) == 0&&(0:QH) == 1)=QM) by decide),QN (show ¬(((0:QH) == 1&&(0:QH) == 0)=QM) by decide)]
 refine Q9 (m:=Builtin.Re.reNoCollectionInside (.Xs x t) 0) (Zi (a:=()) QA ?_)
 unfold Builtin.Re.reRawItems
 refine Q9 (Q9 (m:=QDv (.QP ct)) (Yv hc hcd (QF ?_)))
 refine QF ?_
 have e1:min (Int.toNat 0) Q1U=0:=Nat.zero_min _
 have e2:min (2 ^ 63 - 1:X3).Q1X Q1U=Q1U:=Q45 (by omega)
 rw [e1,e2]
 show Q {pattern:=.QP p,string:=.Xs x t,Q0o:=(QEs Q3U).map (·.Q1X),QD4:=Q8s,kind:=0,groups:=0,XH:=0,lim:=Q1U} s
 rw [hi]
 exact h
theorem JN {x:X6} {t:Tok} {p ct:Qq} {pt fl f3 f4:QI} {u1 u2:Tok} {its:XM QI} {n:QH} {op oc:ZC} {R:Q2n->QZ->Prop}
  (hp:Qc p=QB op) (hpd:QEr=.Xo #[pt,fl,.Qm 0 u1,f3,f4,.QP ct,.Qm 0 u2]) (hc:Qc ct=QB oc) (hcd:QHM=.seq its n) (hi:(QEs Q3U).map (·.Q1X)=AI)
  (hz:Q1U < 1000000) (h1:rxJ Q8s=QM->∀(h':ZP) (co:ZC),(∀b o,Qc b=QB o->Z7 b=QB o)->QC2=QJ->R (.Q4x (.ret (.QP Q0d))) {s with YL:=Q8U co}) (h0:rxJ Q8s=QJ->R (.Q4x (.ret .QG)) s) :
  Qp (Qi XC w) A (Builtin.«re.Pattern.match» ⟨[.QP p,.Xs x t],[]⟩) R E s:=by
 unfold Builtin.«re.Pattern.match»
 refine Q9 (Q1q hp hpd hc hcd hi ?_ hz)
 unfold Builtin.Re.reAnswer
 dsimp only
 refine Q9 (OY hz (fun hj m hm1 hm2=>?_) (fun hj=>QF (h0 hj)))
 dsimp only
 unfold Builtin.Re.reNewMatch
 dsimp only [List.range_zero]
 simp only [List.any_nil,XQ,Zf,QAu]
 refine Q9 (Q9 ?_)
 delta Q9z
 refine Xk ?_ (by size_fits)
 exact Xk (QF (h1 hj _ _ (fun b o e=>Qa _ e) QA)) (by size_fits)
theorem NO:Q3i Q9q "re.Pattern.match"=QB Builtin.«re.Pattern.match»:=Q2l (by kernel_rfl)
theorem M6:QBg "re.Pattern.match"=QM:=by decide +XB
theorem Fn:Q6R (.Qk "re.Pattern") (.Qk "module")=ZU QJ:=by rw [YS];kernel_rfl
theorem Uk {p:Qq} {x:X6} {t:Tok} {op:ZC} {Q:YV->QZ->Prop} (hp:Qc p=QB op) (hc:op.cls=.Qk "re.Pattern") {vs:XM QI} (hd:QEr=.Xo vs) (h:Q () s):Qp (Qi XC w) A (Q1o "re.Pattern.match" ⟨[.QP p,.Xs x t],[]⟩) Q E s:=by
 injections XC w A E s p x t op Q _ _ vs _ _
 obtain ⟨hh,g,d,tk,os⟩:=s
 obtain ⟨c1,d1,dt1,sl1⟩:=op
 replace hc:c1=.Qk "re.Pattern":=hc
 replace hd:dt1=.Xo vs:=hd
 subst hc hd
 have hT:(⟨hh,g,d,tk,os⟩:QZ).QAe (.QP p) "re.Pattern":=⟨_,hp,QA⟩
 have f1:=Fn
 unfold Q1o
 repeat (any_goals (first | assumption | wp_step))
theorem Pp {u p ct:Qq} {x:X6} {t:Tok} {o op oc:ZC} {pt fl f3 f4:QI} {u1 u2:Tok} {its:XM QI} {n:QH} {R:Q7w->QZ->Prop}
  (hu:Qc u=QB o) (hob:o={cls:=.Qk "builtin_function_or_method",YA:=.Xo #[.Qd "re.Pattern.match",.QP p]}) (hp:Qc p=QB op) (hpc:op.cls=.Qk "re.Pattern")
  (hpd:QEr=.Xo #[pt,fl,.Qm 0 u1,f3,f4,.QP ct,.Qm 0 u2]) (hc:Qc ct=QB oc) (hcd:QHM=.seq its n) (hi:(QEs Q3U).map (·.Q1X)=AI)
  (hz:Q1U < 1000000) (h1:rxJ Q8s=QM->∀(h':ZP) (co:ZC),(∀b o,Qc b=QB o->Z7 b=QB o)->QC2=QJ->R (.ok (.ret (.QP Q0d))) {s with YL:=Q8U co}) (h0:rxJ Q8s=QJ->R (.ok (.ret .QG)) s) :
  Q1J (Qi XC w) A (.Q0M (.QP u) ⟨[.Xs x t],[]⟩) R s:=by
 refine HY (Q1e:=.QP p) (Q2C M6 _) hu (.inl hob) (fun A Q hq=>Uk hp hpc hpd hq) (ZV NO ?_)
 exact JN hp hpd hc hcd hi hz h1 h0
end
end
end Mini
end
section
open PySem PySem.W PySem.Calls PyProof.Rows
namespace Mini
noncomputable def aeP (K:Frag) (u:Addr):Prop:=∃p ct pt fl f3 f4 u1 u2 its n op oc,K.lookup u=some {cls:=.type "builtin_function_or_method",data:=.fields #[.builtin "re.Pattern.match",.ref p]} /\
 K.lookup p=some op/\op.cls=.type "re.Pattern"/\op.data=.fields #[pt,fl,.int 0 u1,f3,f4,.ref ct,.int 0 u2]/\K.lookup ct=some oc/\oc.data=.seq its n/\(its.map Builtin.Re.reRawOf).map (·.toNat)=AI
noncomputable def pRx (K:Frag) (u:Addr) (args:List Val):PT Val:=fun σ P=>on1 args fun a=>EI a fun x=>aeP K u/\x.cps.size < 1000000/\(rxJ x.cps=true->P (.ref σ.nx) (σ.alloc .any))/\(rxJ x.cps=false->P .none σ)
section
variable {c:Cx} {A:Around} {Λ:Lab} {σ:St}
theorem NR (hc:c.Ok) {L:Addr} {u:Addr} {args:List Val} {as:List Value} {P:Val->St->Prop} (ha:VRs Λ args as) (h:pRx c.K u args σ P):Bz c A L Λ (.ref u) as σ P:=fun fz s R r q=>by
 refine on1.el ha h fun v a h1 h=>EI.el h fun x ev h=>?_;subst ev;obtain (⟨t,rfl⟩):=h1
 ·skip
  refine an4 h fun yq5I hz h1 h0=>?_;obtain (⟨p,ct,pt,fl,f3,f4,u1,u2,its,n,op,oc,k1,k2,k3,k4,k5,k6,k7⟩):=yq5I
  have X:=hc.inK.keeps r.gkeep
  refine Pp (X _ _ k1) rfl (X _ _ k2) k3 k4 (X _ _ k5) k6 k7 hz (fun hj h' co hk hf=>?_) (fun hj=>q Λ s _ _ σ (.refl _) (h0 hj) rfl r)
  have r1:Rel c fz L Λ σ {s with heap:=h',toks:=s.toks}:=r.grow (tk:=s.toks) (dr:=s.drawn) hk
  exact q _ _ (.ref σ.nx) _ _ (Lab.push_ext _ _) (h1 hj) (VR.new _ r.nn) (r1.push (tk:=s.toks) (o:=.any) (co:=co) trivial hf)
end
end Mini
end
section
open PySem PySem.W PySem.Calls PyProof.Rows
namespace Mini
noncomputable def AD (G:Pg):Av:=fun f args σ P=>match f with
 | .imm u=>(match u with
  | .builtin id=>if id="tuple.__new__" then KE G.K args σ P else if id="sum" then ae4 args σ P else if id="len" then Ta G.K args σ P else if id="list.sort" then S8 G.K args σ P else pB id args σ P
  | .type T=>if T="map" then KG args σ P else if T="tuple" then Nb G.K args σ P else pTy T args σ P
  | _=>False)
 | .ref l=>FH (σ.hp l) fun id self=>pBm id (self::args) σ P
 | _=>False
noncomputable def Ti (G:Pg) (rec:Av):Av:=fun f args σ P=>match f with
 | .imm u=>(match u with
  | .ref a=>pFn G rec a args σ P\/TQ G rec a args σ P\/Nd G rec a args σ P\/JG G rec none a args σ P\/pRx G.K a args σ P
  | .type T=>(T="list"/\on1 args fun a=>Ai a fun m=>DF (σ.hp m) fun fv tl=>FE rec m fv tl σ P)\/AD G (.imm (.type T)) args σ P
  | u=>AD G (.imm u) args σ P)
 | .ref l=>(CE (σ.hp l) fun f C=>pFn G rec f (.imm (.ref C)::args) σ P)\/(Cr (σ.hp l) fun _ _=>IK G rec l args σ P)\/AD G (.ref l) args σ P
 | f=>AD G f args σ P
noncomputable def Ae (G:Pg):Nat->Av
 | 0=>AD G
 | d+1=>Ti G (Ae G d)
section
variable {c:Cx} {G:Pg}
mutual
theorem Cm (hc:Q3M) (hK:G.K=c.K) {A:Q2t} (hA:AOk A) {X0:Env} {fm:Fm} {fv:QU} {Λ:Lab} {σ:St} {P:QU->St->Prop} {vs:QC QU} {as:QC QI} {x:QI} (hx:VR Λ fv x) (ha:VRs Λ vs as) (h:AD G fv vs σ P):Zq c A X0 fm Λ (Q0M x as) VR σ P:=by
 injections c G _ _ A _ X0 fm fv Λ σ P vs as x _ _ _
 cases fv with
 | imm u =>
  injections u zI
  cases u
  case Qd id =>
   cases hx
   refine Q0c h ?_ ?_
   ·intros e k
    subst e;rw [hK]at k;exact (Jc hc ha k).sim
   intros h;refine Q0c h ?_ ?_
   ·intros e k
    subst e;exact OL hA ha k
   intros h;refine Q0c h ?_ ?_
   ·intros e k
    subst e;rw [hK]at k;exact MV hc ha k
   intros h;refine Q0c h ?_ fun h=>aeN ha h
   ·intros e k
    subst e;rw [hK]at k;exact MT hc hA ha k
  case Qk T =>
   cases hx
   refine Q0c h ?_ ?_
   ·intros e k
    subst e;exact Ju ha k
   intros h;refine Q0c h ?_ fun h=>Tw hA ha h
   ·intros e k
    subst e;rw [hK]at k;exact Lk hc hA ha k
  all_goals exact Qy
 | QP l=>exact FH.el h fun id Q1e e h=>TG hx e ha h
 | _=>exact Qy
theorem Eg (hc:Q3M) (hK:G.K=c.K) (hg:GlOk c QGB):∀(d:QH) {A:Q2t} (_:Q8h d A) {X0:Env} {fm:Fm} (fv:QU) (Λ:Lab) (σ:St) (P:QU->St->Prop) (vs:QC QU) (as:QC QI) (x:QI),VR Λ fv x->VRs Λ vs as->Ae G d fv vs σ P->Zq c A X0 fm Λ (Q0M x as) VR σ P
 | 0,A,hA,X0,fm,fv,Λ,σ,P,vs,as,x,hx,ha,h=>Cm hc hK QEt hx ha h
 | d+1,A,hA,X0,fm,fv,Λ,σ,P,vs,as,x,hx,ha,h=>by
  have S:∀A' Q2S fm' n,Q8h d A'->Snd c A' Q2S fm' G (Ae G d) n:=fun A' Q2S fm' n hA'=>S5 hc hA'.aok hK hg (fun X0 fm fv Λ σ P vs as x hx ha h=>Eg hc hK hg d hA' fv Λ σ P vs as x hx ha h) n Q2S fm'
  replace h:Ti G (Ae G d) fv vs σ P:=h
  cases fv with
  | imm u =>
   cases u
   case QP a =>
    cases hx
    refine Q6h h (fun h=>?_) fun h=>Qy (fun h=>?_) fun h=>Qy (fun h=>?_) fun h=>Qy (fun h=>?_) fun h=>?_
    ·exact (Fc hc hK (by have:=Q5Q;exact Ie this) (fun Q2S fm' n=>S _ Q2S fm' n (Q8V Q2S)) ha h).sim
    ·exact (NS hc hK hA S ha h).sim
    ·exact (LD hc hK hA S ha h).sim
    ·exact (NU hc hK (by have:=Q5Q;exact Ie this) (fun Q2S fm' n=>S _ Q2S fm' n (Q8V Q2S)) ha (fun P l h=>by cases h) h).sim
    ·rw [hK]at h;exact (NR hc ha h).sim
   case Qk T =>
    refine Q6h h (fun h=>?_) fun h=>Cm hc hK QEt hx ha h
    obtain (⟨eT,k⟩):=h
    subst eT
    cases hx
    refine Q6q ha k fun v a h1 h=>Q1W h fun m ev h=>?_;subst ev
    refine DF.el h fun fv tl e3 h=>?_
    exact Iv hA (fun A' hA' X0 fm fv Λ σ P vs as x hx ha h=>Eg hc hK hg d hA' fv Λ σ P vs as x hx ha h) h1 h
   all_goals exact Cm hc hK QEt hx ha h
  | QP l =>
   refine Q6h h (fun h=>CE.el h fun f C e h=>?_) fun h=>Qy (fun h=>Cr.el h fun _ _ e h=>?_) fun h=>Cm hc hK QEt hx ha h
   ·refine Bz.sim (fun fz s R r q=>?_)
    refine ew1 (Q36 _ hx.1) fun o yq3E=>?_;refine an2 yq3E fun ho hor=>?_;clear yq3E
    rw [e]at hor
    rw [hx.2]
    exact method_call (by rw [ho,hor]) (Fc hc hK (by have:=Q5Q;exact Ie this) (fun Q2S fm' n=>S _ Q2S fm' n (Q8V Q2S)) (.Xu (show VR Λ (.imm (.QP C)) (.QP C) from QA) ha) h fz s R r q)
   ·exact (NT hc (by have:=Q5Q;exact Ie this) (fun Q2S fm' n=>S _ Q2S fm' n (Q8V Q2S)) hx ha h).sim
  | _=>exact Cm hc hK QEt hx ha h
end
end
end Mini
end
section
open PySem PySem.W PySem.Calls PyProof.Rows
namespace Mini
section
variable {G:Pg} {cal:Av} {n:Nat} {fm:Fm} {σ:Mini.St}
mutual
theorem Fb {k:Const} {u:QH} {p:Pos} {P:QU->QE->Prop} (h:JH k σ P):ev G YR (n+1) fm (.Q4a k u p) σ P:=h
theorem JW {x:X6} {p:Pos} {P:QU->QE->Prop} (h1:(x == ("__debug__":X6))=QJ) (h2:(x == ("__classdict__":X6))=QJ) (h:BI QGB fm x σ P):ev G YR (n+1) fm (.Q0v x p) σ P:=⟨h1,h2,h⟩
theorem ajs {l r:Qf} {op:Q6P} {p:Pos} {P:QU->QE->Prop} (h:ev G YR n fm l σ fun a σ=>ev G YR n fm r σ fun b σ=>CP op a b σ P):ev G YR (n+1) fm (.BinOp l op r p) σ P:=h
theorem af5 {l r:Qf} {op:QGu} {p:Pos} {P:QU->QE->Prop} (hm:Q6B op r=QJ) (h:ev G YR n fm l σ fun a σ=>ev G YR n fm r σ fun b σ=>BK op a b σ P):ev G YR (n+1) fm (.Q8S l [op] [r] p) σ P:=⟨hm,h⟩
theorem agD {es:QC Qf} {k:QH} {p:Pos} {P:QU->QE->Prop} (hs:Am es=QM) (h:A6 (ev G YR n fm) es σ fun vs σ=>Q0Q<=Xa/\P (.QP QO) (Qw (.YJ vs))):ev G YR (n+1) fm (.Zp es k p) σ P:=⟨hs,h⟩
theorem aiS {es:QC Qf} {p:Pos} {P:QU->QE->Prop} (hs:Am es=QM) (h:A6 (ev G YR n fm) es σ fun vs σ=>Q0Q<=Xa/\P (.QP QO) (Qw (.Qs vs))):ev G YR (n+1) fm (.QC es p) σ P:=⟨hs,h⟩
theorem agF {p:Pos} {P:QU->QE->Prop} (h:P (.QP QO) (Qw (.Q01 []))):ev G YR (n+1) fm (.Dict [] [] p) σ P:=h
theorem aiX {o:Qf} {a:X6} {p:Pos} {P:QU->QE->Prop} (h0:BY o=QM) (h:ev G YR n fm o σ fun v σ=>BB G.K v a σ P):ev G YR (n+1) fm (.Q1r o a p) σ P:=⟨h0,h⟩
theorem agE {v:Qf} {lo hi st:QW Qf} {q p:Pos} {P:QU->QE->Prop} (h:ev G YR n fm v σ fun a σ=>EY (ev G YR n fm) lo σ fun x σ=>EY (ev G YR n fm) hi σ fun y σ=>EY (ev G YR n fm) st σ fun z σ=>Bs a x y z σ P):ev G YR (n+1) fm (.Q2E v (.QBG lo hi st q) p) σ P:=h
theorem S3 {P:Fl->QE->Prop} (h:P .YC σ):exs G YR (n+1) fm [] σ P:=h
theorem Ar {s:YW} {r:QC YW} {P:Fl->QE->Prop} (h:ex1 G YR n fm s σ (Fx (exs G YR n fm r) P)):exs G YR (n+1) fm (s::r) σ P:=h
theorem ahx {v:Qf} {p:Pos} {P:Fl->QE->Prop} (hc:A3 v=QJ) (h:ev G YR n fm v σ fun _ σ=>P .YC σ):ex1 G YR (n+1) fm (.Qf v p) σ P:=⟨hc,h⟩
theorem aja {e:Qf} {p:Pos} {P:Fl->QE->Prop} (h:ev G YR n fm e σ fun v σ=>P (.ret v) σ):ex1 G YR (n+1) fm (.Return (QB e) p) σ P:=h
theorem ahw {p:Pos} {P:Fl->QE->Prop} (h:P (.ret .QG) σ):ex1 G YR (n+1) fm (.Return QG p) σ P:=h
theorem ajI {t:Qf} {b o:QC YW} {p:Pos} {P:Fl->QE->Prop} (h:tst G YR n fm t σ fun c σ=>(c=QM->exs G YR n fm b σ P)/\(c=QJ->exs G YR n fm o σ P)):ex1 G YR (n+1) fm (.If t b o p) σ P:=h
theorem DL {t:Qf} {b:QC YW} {p:Pos} {P:Fl->QE->Prop} (k:QH) (h:CZ (tst G YR n fm t) (exs G YR n fm b) k σ P):ex1 G YR (n+1) fm (.While t b [] p) σ P:=⟨k,h⟩
theorem ajb {t it:Qf} {b:QC YW} {p:Pos} {P:Fl->QE->Prop} (h:IJ QGB fm (ev G YR n fm) it σ fun src σ=>Gl (asg G YR n fm t) (exs G YR n fm b) t src σ P):ex1 G YR (n+1) fm (.For t it b [] p) σ P:=h
theorem aje {x:Qf} {p:Pos} {P:Qu->QE->Prop} (h:tst G YR n fm x σ fun b σ=>P (!b) σ):tst G YR (n+1) fm (.QEc .Not x p) σ P:=h
theorem ahE {op:QEY} {vs:QC Qf} {p:Pos} {P:Qu->QE->Prop} (h:BL (tst G YR n fm) op vs σ P):tst G YR (n+1) fm (.QEY op vs p) σ P:=h
theorem ajf {l r:Qf} {op:QGu} {p:Pos} {P:Qu->QE->Prop} (hm:Q6B op r=QJ) (h:ev G YR n fm l σ fun a σ=>ev G YR n fm r σ fun b σ=>BK op a b σ fun v σ=>AC G.K v σ P):tst G YR (n+1) fm (.Q8S l [op] [r] p) σ P:=⟨hm,h⟩
theorem ahC {x:X6} {p:Pos} {P:Qu->QE->Prop} (h:ev G YR n fm (.Q0v x p) σ fun v σ=>AC G.K v σ P):tst G YR (n+1) fm (.Q0v x p) σ P:=h
theorem ahD {f:Qf} {as:QC Qf} {kw:QC QEW} {p:Pos} {P:Qu->QE->Prop} (h:ev G YR n fm (.QAm f as kw p) σ fun v σ=>AC G.K v σ P):tst G YR (n+1) fm (.QAm f as kw p) σ P:=h
theorem ahF {o:Qf} {a:X6} {p:Pos} {P:Qu->QE->Prop} (h:ev G YR n fm (.Q1r o a p) σ fun v σ=>AC G.K v σ P):tst G YR (n+1) fm (.Q1r o a p) σ P:=h
theorem Om {x:X6} {p:Pos} {v:QU} {P:YV->QE->Prop} (h:Br fm x v σ P):asg G YR (n+1) fm (.Q0v x p) v σ P:=h
theorem PK {es:QC Qf} {k:QH} {p:Pos} {v:QU} {P:YV->QE->Prop} (hs:Am es=QM) (h:AR G.K v QAc σ fun vs σ=>EH (asg G YR n fm) es vs σ P):asg G YR (n+1) fm (.Zp es k p) v σ P:=⟨hs,h⟩
theorem ai9 {o:Qf} {a:X6} {p:Pos} {v:QU} {P:YV->QE->Prop} (h:ev G YR n fm o σ fun ov σ=>Co G.K ov a v σ P):asg G YR (n+1) fm (.Q1r o a p) v σ P:=h
theorem ajG {o i:Qf} {p:Pos} {v:QU} {P:YV->QE->Prop} (h:ev G YR n fm o σ fun ov σ=>ev G YR n fm i σ fun iv σ=>C0 ov iv v σ P):asg G YR (n+1) fm (.Q2E o i p) v σ P:=h
end
end
end Mini
end
section
open PySem PySem.W PySem.Calls PyProof.Rows
namespace Mini
section
variable {gl:Str->Option Value} {fm:Fm} {bs:List (Str×Val)} {hp:Nat->Ob} {nx:Nat} {x:Str}
theorem T3 {v:Val} {l:Nat} {P:Val->Mini.St->Prop} {σ:Mini.St} (h:fm.sc.names.lookup x=some .cell\/fm.sc.names.lookup x=some .free) (h1:fm.cl.lookup x=some l) (h2:σ.hp l=.cell (some v)) (k:P v σ):BI gl fm x σ P:=by
 unfold BI
 rcases h with h | h <;> rw [h] <;> show Ad (fm.cl.lookup x) _ <;> rw [h1] <;> refine BD.mk h2 ?_ <;> exact k
end
end Mini
end
section
open PySem PySem.W PySem.Calls PyProof.Rows
namespace Mini
theorem A8 (a b:String):(Str.ofString a=Str.ofString b)=(a=b):=by
 apply propext
 constructor
 ·intro h
  rw [Str.ofString_eq_toList,Str.ofString_eq_toList]at h
  have h2:a.toList.map Char.toNat=b.toList.map Char.toNat:=by
   have:=congrArg (fun s=>s.cps.toList) h
   simpa using this
  have h3:a.toList=b.toList:=(List.map_inj_right fun x y e=>Char.toNat_inj.mp e).mp h2
  exact String.toList_inj.mp h3
 ·intro h;rw [h]
section
variable {σ:Mini.St} {x y:Str} {v:Val} {o:Ob} {k l:Nat}
mutual
theorem AT:(Q5F x v).loc y=if y=x then QB v else Xv y:=QA
theorem Ah:(Q5F x v).nx=QO:=QA
theorem DN:(Qw o).loc=Xv:=QA
theorem Ab:(Qw o).nx=QO+1:=QA
theorem CC:(Yt l o).loc=Xv:=QA
theorem Ac:(Yt l o).nx=QO:=QA
theorem Bp:(Yt l o).hp k=if k=l then o else QS k:=QA
end
end
noncomputable def Nr (sc:Scope) (x:Str):Bool:=!(x == ("__debug__":Str))&&!(x == ("__classdict__":Str))&&(sc.names.lookup x == some .local)
noncomputable def HO (sc:Scope) (x:Str):Bool:=!(x == ("__debug__":Str))&&!(x == ("__classdict__":Str))&&(sc.names.lookup x == some .globalImplicit)
section
variable {G:Pg} {cal:Av} {n:Nat} {fm:Fm} {σ:Mini.St} {x:Str} {p:Pos}
mutual
theorem af3 {v:QU} {P:QU->QE->Prop} (h:Nr Zo x=QM) (h2:Xv x=QB v) (k:P v σ):ev G YR (n+1) fm (.Q0v x p) σ P:=by
 simp only [Nr,X7,Z9,ZJ]at h
 refine JW h.1.1 h.1.2 ?_
 unfold BI
 rw [h.2];dsimp only;rw [h2];exact k
theorem aiU {v:QI} {P:QU->QE->Prop} (h:HO Zo x=QM) (h2:QGB x=QB v) (k:P (.imm v) σ):ev G YR (n+1) fm (.Q0v x p) σ P:=by
 simp only [HO,X7,Z9,ZJ]at h
 refine JW h.1.1 h.1.2 ?_
 unfold BI
 rw [h.2];dsimp only;rw [h2];exact k
theorem ajH {v:QU} {P:YV->QE->Prop} (h:(ZH x == QB .Q5v)=QM) (k:P () (Q5F x v)):asg G YR (n+1) fm (.Q0v x p) v σ P:=by
 refine Om ?_
 unfold Br
 rw [Z0 h];exact k
theorem Mh {ts:QC Qf} {e:Qf} {P:Fl->QE->Prop} (hc:A3 e=QJ) (key:(A3 e=QJ/\Am ts=QM/\Bg ts e=QJ)/\ev G YR n fm e σ fun v σ=>(match BV Zo ts e with
   | QB Q41=>AR G.K v Q2q σ fun vs σ=>AH fm Q4T Q3R σ fun _ σ=>P .YC σ
   | QG=>A7 (asg G YR n fm) v ts σ fun _ σ=>P .YC σ)):ex1 G YR (n+1) fm (.Q6w ts e p) σ P:=by
 injections G YR n fm σ p ts e P _ _
 rcases ts with _ | ⟨t,_ | ⟨t2,r⟩⟩
 ·exact key
 ·cases e
  case ZB=>cases hc
  all_goals exact key
 ·exact key
theorem aeJ {ts:QC Qf} {e:Qf} {P:Fl->QE->Prop} (h1:(A3 e=QJ/\Am ts=QM/\Bg ts e=QJ)) (h2:BV Zo ts e=QG) (h:ev G YR n fm e σ fun v σ=>A7 (asg G YR n fm) v ts σ fun _ σ=>P .YC σ):ex1 G YR (n+1) fm (.Q6w ts e p) σ P:=by
 have key:(A3 e=QJ/\Am ts=QM/\Bg ts e=QJ)/\ev G YR n fm e σ fun v σ=>(match BV Zo ts e with
   | QB Q41=>AR G.K v Q2q σ fun vs σ=>AH fm Q4T Q3R σ fun _ σ=>P .YC σ
   | QG=>A7 (asg G YR n fm) v ts σ fun _ σ=>P .YC σ):=⟨h1,by rw [h2];exact h⟩
 exact Mh h1.1 key
theorem Mg {ts:QC Qf} {e:Qf} {Q41:QC X6} {P:Fl->QE->Prop} (h1:(A3 e=QJ/\Am ts=QM/\Bg ts e=QJ)) (h2:BV Zo ts e=QB Q41) (h:ev G YR n fm e σ fun v σ=>AR G.K v Q2q σ fun vs σ=>AH fm Q4T Q3R σ fun _ σ=>P .YC σ):ex1 G YR (n+1) fm (.Q6w ts e p) σ P:=by
 have key:(A3 e=QJ/\Am ts=QM/\Bg ts e=QJ)/\ev G YR n fm e σ fun v σ=>(match BV Zo ts e with
   | QB Q41=>AR G.K v Q2q σ fun vs σ=>AH fm Q4T Q3R σ fun _ σ=>P .YC σ
   | QG=>A7 (asg G YR n fm) v ts σ fun _ σ=>P .YC σ):=⟨h1,by rw [h2];exact h⟩
 exact Mh h1.1 key
theorem aeI {op:Q6P} {e:Qf} {q:Pos} {P:Fl->QE->Prop} (h1:(x == ("__classdict__":X6))=QJ) (h:BI QGB fm x σ fun a σ=>ev G YR n fm e σ fun b σ=>Oj fm x op P a b σ):ex1 G YR (n+1) fm (.QDo (.Q0v x q) op e p) σ P:=by
 exact ⟨h1,h⟩
theorem Tn {tg elt:Qf} {g:Qx} {gs:QC Qx} {Qv:Q0J} {q:Pos} {P:Fl->QE->Prop} (h1:B2 tg=QJ) (cl:QC (X6×QH))
  (h:Hb fm Qv cl (ev G YR n fm) (ev G YR n ⟨Aj Qv Zo,cl,Q2M,Q2N⟩) (tst G YR n ⟨Aj Qv Zo,cl,Q2M,Q2N⟩) (asg G YR n ⟨Aj Qv Zo,cl,Q2M,Q2N⟩) elt g gs σ fun v σ=>asg G YR n fm tg v σ fun _ σ=>P .YC σ) :
  ex1 G YR (n+1) fm (.Q6w [tg] (.ZB elt (g::gs) Qv q) p) σ P:=⟨h1,cl,h⟩
theorem ajc {o i:Qf} {q:Pos} {P:Fl->QE->Prop} (h:ev G YR n fm o σ fun ov σ=>ev G YR n fm i σ fun iv σ=>C1 ov iv σ fun _ σ=>P .YC σ):ex1 G YR (n+1) fm (.Delete [.Q2E o i q] p) σ P:=h
theorem ahy {P:Fl->QE->Prop} (h:P .QAh σ):ex1 G YR (n+1) fm (.Continue p) σ P:=h
theorem ajd {P:Fl->QE->Prop} (h:P .brk σ):ex1 G YR (n+1) fm (.Break p) σ P:=h
theorem NP {t b o:Qf} {P:QU->QE->Prop} (h:tst G YR n fm t σ fun c σ=>(c=QM->ev G YR n fm b σ P)/\(c=QJ->ev G YR n fm o σ P)):ev G YR (n+1) fm (.IfExp t b o p) σ P:=h
theorem NQ {elt:Qf} {g:Qx} {gs:QC Qx} {Qv:Q0J} {P:QU->QE->Prop} (cl:QC (X6×QH))
  (h:Hb fm Qv cl (ev G YR n fm) (ev G YR n ⟨Aj Qv Zo,cl,Q2M,Q2N⟩) (tst G YR n ⟨Aj Qv Zo,cl,Q2M,Q2N⟩) (asg G YR n ⟨Aj Qv Zo,cl,Q2M,Q2N⟩) elt g gs σ P):ev G YR (n+1) fm (.ZB elt (g::gs) Qv p) σ P:=⟨cl,h⟩
theorem af4 {Xb:Q53} {YZ:Qf} {Qv:Q0J} {P:QU->QE->Prop} (h:TS G.K fm Xb YZ Qv p σ P):ev G YR (n+1) fm (.Lambda Xb YZ Qv p) σ P:=h
theorem aiT {v i:Qf} {P:QU->QE->Prop} (hs:Cf i=QJ) (h:ev G YR n fm v σ fun a σ=>ev G YR n fm i σ fun b σ=>FF a b σ P):ev G YR (n+1) fm (.Q2E v i p) σ P:=by
 cases i
 case QBG=>cases hs
 all_goals exact ⟨hs,h⟩
theorem aiW {f:Qf} {Xb:QC Qf} {P:QU->QE->Prop} (hf:T7 f=QJ) (hs:Am Xb=QM) (h:ev G YR n fm f σ fun v σ=>A6 (ev G YR n fm) Xb σ fun vs σ=>Bw G.K σ v/\YR v vs σ P):ev G YR (n+1) fm (.QAm f Xb [] p) σ P:=by
 cases f
 case Q1r=>cases hf
 all_goals exact ⟨hs,h⟩
theorem aiR {o:Qf} {Q1u:X6} {apos:Pos} {Xb:QC Qf} {P:QU->QE->Prop} (hs:(BY o=QM/\Am Xb=QM/\Q4b < 30/\(QEd == p.line)=QM))
  (h:ev G YR n fm o σ fun v σ=>DW G.K v Q1u σ fun q σ=>A6 (ev G YR n fm) Xb σ fun vs σ=>Bw G.K σ q.1/\YR q.1 (q.2++vs) σ P):ev G YR (n+1) fm (.QAm (.Q1r o Q1u apos) Xb [] p) σ P:=⟨hs,h⟩
end
end
end Mini
end
section
open PySem PySem.W PySem.Calls PyProof.Rows
set_option maxRecDepth 100000
set_option maxHeartbeats 2000000
namespace Mine01
open Mini
mutual
def fdO (o:ZC):QFw:=match Q1v with
 | .Q7Y fd=>fd
 | _=>kla_fn "" "" Zs (.Q0v "" Zs) Zs [] .QG .QG .QG
def Ub (K:Q1A) (x:X6):QW QI:=match nsIn K Q3W x with
 | QB (QB v)=>QB v
 | QB QG=>if x="__name__" then QG else bootBuiltins x
 | QG=>QG
theorem aiG {α:Type} {l:QC α} (h:ZF=0):l=[]:=Zu h
theorem Nv {α:Type} {l:QC α} {n:QH} (h:ZF=n+1):∃a r,l=a::r/\Q7b=n:=by
 cases l with
 | Zl=>cases h
 | Xu a r=>exact ⟨a,r,QA,QEA h⟩
theorem IV {α:Type} {l:QC α} (h:ZF=1):∃a0,l=[a0]:=by
 refine ew2 (Nv h) fun x r yq7R=>?_;refine an2 yq7R fun e k=>?_;clear yq7R
 rw [aiG k]at e
 exact ⟨x,e⟩
theorem Nw {α:Type} {l:QC α} (h:ZF=2):∃a0 a1,l=[a0,a1]:=by
 refine ew2 (Nv h) fun x r yq7S=>?_;refine an2 yq7S fun e k=>?_;clear yq7S
 obtain (⟨a1,f⟩):=IV k
 rw [f]at e
 exact ⟨x,a1,e⟩
theorem Pb {α:Type} {l:QC α} (h:ZF=3):∃a0 a1 a2,l=[a0,a1,a2]:=by
 refine ew2 (Nv h) fun x r yq7T=>?_;refine an2 yq7T fun e k=>?_;clear yq7T
 refine ew2 (Nw k) fun a1 a2 f=>?_
 rw [f]at e
 exact ⟨x,a1,a2,e⟩
theorem afN {α:Type} {l:QC α} (h:ZF=4):∃a0 a1 a2 a3,l=[a0,a1,a2,a3]:=by
 refine ew2 (Nv h) fun x r yq7U=>?_;refine an2 yq7U fun e k=>?_;clear yq7U
 refine ew3 (Pb k) fun a1 a2 a3 f=>?_
 rw [f]at e
 exact ⟨x,a1,a2,a3,e⟩
theorem afM {α:Type} {l:QC α} (h:ZF=5):∃a0 a1 a2 a3 a4,l=[a0,a1,a2,a3,a4]:=by
 refine ew2 (Nv h) fun x r yq7V=>?_;refine an2 yq7V fun e k=>?_;clear yq7V
 refine ew4 (afN k) fun a1 a2 a3 a4 f=>?_
 rw [f]at e
 exact ⟨x,a1,a2,a3,a4,e⟩
def G (P:Ql):Pg:=⟨K P,Ub (K P)⟩
theorem FV (P:Ql):Q83 (K P) 99 (fdO (o99 P)) (fnB (sub (st 4) 4)) ["_cls","a","b","size"] [] where
 at':=⟨_,_,_,QA⟩
 Q0o:=by kernel_rfl
 co:=by kernel_rfl
 gen:=by kernel_rfl
 YZ:=by kernel_rfl
 clo:=by kernel_rfl
 gl:=by kernel_rfl
 bl:=by kernel_rfl
 kd:=by kernel_rfl
 QA6:=fun S as h=>by
  refine ew4 (afN h) fun a0 a1 a2 a3 yq7W=>?_;obtain QA:=yq7W
  kernel_rfl
theorem FU (P:Ql):Q83 (K P) 106 (fdO (aiA P)) (fnB (sub (st 4) 5)) ["cls","iterable"] [] where
 at':=⟨_,_,_,QA⟩
 Q0o:=by kernel_rfl
 co:=by kernel_rfl
 gen:=by kernel_rfl
 YZ:=by kernel_rfl
 clo:=by kernel_rfl
 gl:=by kernel_rfl
 bl:=by kernel_rfl
 kd:=by kernel_rfl
 QA6:=fun S as h=>by
  refine ew2 (Nw h) fun a0 a1 yq7X=>?_;obtain QA:=yq7X
  kernel_rfl
theorem B7 (P:Ql):Q83 (K P) 177 (fdO (aiz P)) (fnB (sub (st 6) 1)) ["self","isjunk","a","b","autojunk"] [] where
 at':=⟨_,_,_,QA⟩
 Q0o:=by kernel_rfl
 co:=by kernel_rfl
 gen:=by kernel_rfl
 YZ:=by kernel_rfl
 clo:=by kernel_rfl
 gl:=by kernel_rfl
 bl:=by kernel_rfl
 kd:=by kernel_rfl
 QA6:=fun S as h=>by
  refine ew5 (afM h) fun a0 a1 a2 a3 a4 yq7Y=>?_;obtain QA:=yq7Y
  kernel_rfl
theorem BN (P:Ql):Q83 (K P) 184 (fdO (aiy P)) (fnB (sub (st 6) 2)) ["self","a","b"] [] where
 at':=⟨_,_,_,QA⟩
 Q0o:=by kernel_rfl
 co:=by kernel_rfl
 gen:=by kernel_rfl
 YZ:=by kernel_rfl
 clo:=by kernel_rfl
 gl:=by kernel_rfl
 bl:=by kernel_rfl
 kd:=by kernel_rfl
 QA6:=fun S as h=>by
  refine ew3 (Pb h) fun a0 a1 a2 yq7Z=>?_;obtain QA:=yq7Z
  kernel_rfl
theorem BP (P:Ql):Q83 (K P) 191 (fdO (aix P)) (fnB (sub (st 6) 3)) ["self","a"] [] where
 at':=⟨_,_,_,QA⟩
 Q0o:=by kernel_rfl
 co:=by kernel_rfl
 gen:=by kernel_rfl
 YZ:=by kernel_rfl
 clo:=by kernel_rfl
 gl:=by kernel_rfl
 bl:=by kernel_rfl
 kd:=by kernel_rfl
 QA6:=fun S as h=>by
  refine ew2 (Nw h) fun a0 a1 yq80=>?_;obtain QA:=yq80
  kernel_rfl
theorem BO (P:Ql):Q83 (K P) 198 (fdO (aiw P)) (fnB (sub (st 6) 4)) ["self","b"] [] where
 at':=⟨_,_,_,QA⟩
 Q0o:=by kernel_rfl
 co:=by kernel_rfl
 gen:=by kernel_rfl
 YZ:=by kernel_rfl
 clo:=by kernel_rfl
 gl:=by kernel_rfl
 bl:=by kernel_rfl
 kd:=by kernel_rfl
 QA6:=fun S as h=>by
  refine ew2 (Nw h) fun a0 a1 yq81=>?_;obtain QA:=yq81
  kernel_rfl
theorem BF (P:Ql):Q83 (K P) 205 (fdO (aiv P)) (fnB (sub (st 6) 5)) ["self"] [] where
 at':=⟨_,_,_,QA⟩
 Q0o:=by kernel_rfl
 co:=by kernel_rfl
 gen:=by kernel_rfl
 YZ:=by kernel_rfl
 clo:=by kernel_rfl
 gl:=by kernel_rfl
 bl:=by kernel_rfl
 kd:=by kernel_rfl
 QA6:=fun S as h=>by
  obtain (⟨a0,QA⟩):=IV h
  kernel_rfl
theorem AY (P:Ql):Q83 (K P) 213 (fdO (aiu P)) (fnB (sub (st 6) 6)) ["self","alo","ahi","blo","bhi"] [] where
 at':=⟨_,_,_,QA⟩
 Q0o:=by kernel_rfl
 co:=by kernel_rfl
 gen:=by kernel_rfl
 YZ:=by kernel_rfl
 clo:=by kernel_rfl
 gl:=by kernel_rfl
 bl:=by kernel_rfl
 kd:=by kernel_rfl
 QA6:=fun S as h=>by
  refine ew5 (afM h) fun a0 a1 a2 a3 a4 yq82=>?_;obtain QA:=yq82
  kernel_rfl
theorem AU (P:Ql):Q83 (K P) 220 (fdO (ait P)) (fnB (sub (st 6) 7)) ["self"] [] where
 at':=⟨_,_,_,QA⟩
 Q0o:=by kernel_rfl
 co:=by kernel_rfl
 gen:=by kernel_rfl
 YZ:=by kernel_rfl
 clo:=by kernel_rfl
 gl:=by kernel_rfl
 bl:=by kernel_rfl
 kd:=by kernel_rfl
 QA6:=fun S as h=>by
  obtain (⟨a0,QA⟩):=IV h
  kernel_rfl
theorem E1 (P:Ql):Q83 (K P) 277 (fdO (ais P)) (fnB (st 8)) ["line"] [("pat",.QP 269)] where
 at':=⟨_,_,_,QA⟩
 Q0o:=by kernel_rfl
 co:=by kernel_rfl
 gen:=by kernel_rfl
 YZ:=by kernel_rfl
 clo:=by kernel_rfl
 gl:=by kernel_rfl
 bl:=by kernel_rfl
 kd:=by kernel_rfl
 QA6:=fun S as h=>by
  obtain (⟨a0,QA⟩):=IV h
  kernel_rfl
theorem HR (P:Ql):Q83 (K P) 284 (fdO (air P)) (fnB (st 10)) ["d"] [] where
 at':=⟨_,_,_,QA⟩
 Q0o:=by kernel_rfl
 co:=by kernel_rfl
 gen:=by kernel_rfl
 YZ:=by kernel_rfl
 clo:=by kernel_rfl
 gl:=by kernel_rfl
 bl:=by kernel_rfl
 kd:=by kernel_rfl
 QA6:=fun S as h=>by
  obtain (⟨a0,QA⟩):=IV h
  kernel_rfl
theorem Gu (P:Ql):Q83 (K P) 289 (fdO (aiq P)) (fnB (st 11)) ["isjunk","first","second"] [] where
 at':=⟨_,_,_,QA⟩
 Q0o:=by kernel_rfl
 co:=by kernel_rfl
 gen:=by kernel_rfl
 YZ:=by kernel_rfl
 clo:=by kernel_rfl
 gl:=by kernel_rfl
 bl:=by kernel_rfl
 kd:=by kernel_rfl
 QA6:=fun S as h=>by
  refine ew3 (Pb h) fun a0 a1 a2 yq83=>?_;obtain QA:=yq83
  kernel_rfl
theorem CI (P:Ql):Q83 (K P) 294 (fdO (aip P)) (fnB (st 12)) ["blocks","first","second"] [] where
 at':=⟨_,_,_,QA⟩
 Q0o:=by kernel_rfl
 co:=by kernel_rfl
 gen:=by kernel_rfl
 YZ:=by kernel_rfl
 clo:=by kernel_rfl
 gl:=by kernel_rfl
 bl:=by kernel_rfl
 kd:=by kernel_rfl
 QA6:=fun S as h=>by
  refine ew3 (Pb h) fun a0 a1 a2 yq84=>?_;obtain QA:=yq84
  kernel_rfl
theorem Ud (P:Ql):Q83 (K P) 299 (fdO (AO P)) (fnB (st 13)) ["script"] [] where
 at':=⟨_,_,_,QA⟩
 Q0o:=by kernel_rfl
 co:=by kernel_rfl
 gen:=by kernel_rfl
 YZ:=by kernel_rfl
 clo:=by kernel_rfl
 gl:=by kernel_rfl
 bl:=by kernel_rfl
 kd:=by kernel_rfl
 QA6:=fun S as h=>by
  obtain (⟨a0,QA⟩):=IV h
  kernel_rfl
end
end Mine01
end
section
open PySem PySem.W PySem.Calls PyProof.Rows
set_option maxRecDepth 100000
set_option maxHeartbeats 2000000
namespace Mine01
open Mini
mutual
theorem Ts (P:Ql):TupK (K P) 152 153 99 (.Qk "type") where
 obj:=⟨_,_,_,_,QA,by kernel_rfl⟩
 Q0M:=fun S=>by kernel_rfl
 typ:=fun S=>by kernel_rfl
 mro:=⟨[.QP 152,.Qk "tuple",.Qk "object"],QA,fun S=>by kernel_rfl⟩
 made:=fun S=>by kernel_rfl
 QBc:=fun S=>by kernel_rfl
 isT:=fun S=>by kernel_rfl
 sub:=fun S=>by kernel_rfl
 Q1e:=fun S=>by kernel_rfl
 top:=fun S=>by kernel_rfl
 init:=fun S=>by kernel_rfl
 check:=fun S t=>by kernel_rfl
 reads:=by kernel_rfl
 new:=by kernel_rfl
 sm:=by kernel_rfl
theorem afX (P:Ql):(G P).gl "tuple"=QB (.Qk "tuple"):=by kernel_rfl
theorem aiO (P:Ql):(G P).gl "len"=QB (.Qd "len"):=by kernel_rfl
theorem afY (P:Ql):(G P).gl "range"=QB (.Qk "range"):=by kernel_rfl
theorem aiM (P:Ql):(G P).gl "set"=QB (.Qk "set"):=by kernel_rfl
theorem agB (P:Ql):(G P).gl "list"=QB (.Qk "list"):=by kernel_rfl
theorem aiN (P:Ql):(G P).gl "map"=QB (.Qk "map"):=by kernel_rfl
theorem Ph (P:Ql):(G P).gl "enumerate"=QB (.Qk "enumerate"):=by kernel_rfl
theorem aiL (P:Ql):(G P).gl "sum"=QB (.Qd "sum"):=by kernel_rfl
theorem aiP (P:Ql):(G P).gl "chr"=QB (.Qd "chr"):=by kernel_rfl
theorem af1 (P:Ql):(G P).gl "Match"=QB (.QP 152):=by kernel_rfl
theorem ajr (P:Ql):(G P).gl "SequenceMatcher"=QB (.QP 259):=by kernel_rfl
theorem aiQ (P:Ql):(G P).gl "IS_LINE_JUNK"=QB (.QP 277):=by kernel_rfl
theorem af0 (P:Ql):(G P).gl "_law_dress"=QB (.QP 284):=by kernel_rfl
theorem UJ (P:Ql):(G P).gl "_law_blocks"=QB (.QP 289):=by kernel_rfl
theorem Ua (P:Ql):(G P).gl "_law_goes_no_further"=QB (.QP 294):=by kernel_rfl
theorem Np (P:Ql):makesIn (K P) 259=QM:=by kernel_rfl
theorem TK (P:Ql):aeP (K P) 269:=⟨268,267,_,_,_,_,_,_,_,_,_,_,QA,QA,QA,QA,QA,QA,by kernel_rfl⟩
theorem agv (P:Ql):Ch (G P).K 259 "set_seqs" 184=QM:=by kernel_rfl
theorem agx (P:Ql):Ch (G P).K 259 "set_seq1" 191=QM:=by kernel_rfl
theorem agw (P:Ql):Ch (G P).K 259 "set_seq2" 198=QM:=by kernel_rfl
theorem afJ (P:Ql):Ch (G P).K 259 "_SequenceMatcher__chain_b" 205=QM:=by kernel_rfl
theorem aiC (P:Ql):Ch (G P).K 259 "find_longest_match" 213=QM:=by kernel_rfl
theorem aiB (P:Ql):Ch (G P).K 259 "get_matching_blocks" 220=QM:=by kernel_rfl
end
end Mine01
end
section
open PySem PySem.W PySem.Calls PyProof.Rows
set_option genInjectivity false
set_option genSizeOf false
namespace Mini
mutual
structure Gro (σ XF:QE):Prop where
 nx:QO<=Xg
 loc:Y9=Xv
 hp:∀l,l < QO->X4 l=QS l
structure QGC (X:QC QH) (σ XF:QE):Prop where
 nx:QO<=Xg
 loc:Y9=Xv
 hp:∀l,l < QO->l∉X->X4 l=QS l
structure YP (X:QC QH) (σ XF:QE):Prop where
 nx:QO<=Xg
 hp:∀l,l < QO->l∉X->X4 l=QS l
theorem GroH.refl {X:QC QH} {σ:QE}:YP X σ σ:=⟨Qh _,fun _ _ _=>QA⟩
theorem Q2d {X:QC QH} {a b d:QE} (h:YP X a b) (k:YP X b d):YP X a d:=⟨Y1 QEu k.nx,fun l hl hx=>(k.hp l (QQ hl QEu) hx).QR (h.hp l hl hx)⟩
theorem GroH.mono {X Y:QC QH} {a b:QE} (h:YP X a b) (s:∀l∈X,l∈Y):YP Y a b:=⟨QEu,fun l hl hx=>h.hp l hl fun q=>hx (s l q)⟩
theorem GroH.set {X:QC QH} {a b:QE} (h:YP X a b) {x:X6} {v:QU}:YP X a (b.set x v):=⟨QEu,h.hp⟩
theorem GroH.alloc {X:QC QH} {a b:QE} (h:YP X a b) {o:Ob}:YP X a (b.alloc o):=⟨Q5w QEu,fun l hl hx=>(QN (Y5 (QQ hl QEu))).QR (h.hp l hl hx)⟩
theorem GroH.upd {X:QC QH} {a b:QE} (h:YP X a b) {l:QH} {o:Ob} (hl:l∈X\/a.nx<=l):YP X a (b.upd l o):=⟨QEu,fun k hk hx=>(QN (fun q=>by subst q;rcases hl with r | r;exact hx r;exact acB hk r)).QR (h.hp k hk hx)⟩
theorem GroH.loc {X:QC QH} {a b:QE} (h:YP X a b) {f g:X6->QW QU}:YP X {a with loc:=f} {b with loc:=g}:=⟨QEu,h.hp⟩
end
section
variable {G:Pg} {cal:Av} {n:Nat} {fm:Fm} {σ:Mini.St} {x:Str} {p:Pos}
mutual
theorem AE {a:Qq} {Xb:QC QU} {fd:QFw} {YZ:QC YW} {xs:QC X6} {dv:QC (X6×QI)} {P:QU->QE->Prop} (F:Q83 G.K a fd YZ xs dv) (hl:Q4b=Qn) (h1:Fa Q1M=QM) (h2:D9 Q1M (xs++QAr (·.1))=QM) (n:QH)
  (h:∀σ1:QE,Q24=QS->YB=QO->(∀x v,(AK xs Xb dv).reverse.lookup x=QB v->ZX x=QB v)->exs G YR n ⟨Q1M,[],QA5,QG⟩ YZ σ1 fun fl XF=>P (Lo fl) {XF with loc:=Xv}):pFn G YR a Xb σ P :=
 ⟨fd,YZ,xs,dv,n,F,hl,h1,h2,h _ QA QA fun x v e=>e⟩
theorem BQ {d:QH} {a:Qq} {Xb:QC QU} {P:QU->QE->Prop} (h:pFn G (Ae G d) a Xb σ P):Ae G (d+1) (.imm (.QP a)) Xb σ P:=.inl h
theorem LJ {d:QH} {a:Qq} {Xb:QC QU} {P:QU->QE->Prop} (h:Nd G (Ae G d) a Xb σ P):Ae G (d+1) (.imm (.QP a)) Xb σ P:=.inr (.inr (.inl h))
theorem N1 {d:QH} {a:Qq} {Xb:QC QU} {P:QU->QE->Prop} (h:TQ G (Ae G d) a Xb σ P):Ae G (d+1) (.imm (.QP a)) Xb σ P:=.inr (.inl h)
theorem N4 {d:QH} {a:Qq} {Xb:QC QU} {P:QU->QE->Prop} (h:JG G (Ae G d) QG a Xb σ P):Ae G (d+1) (.imm (.QP a)) Xb σ P:=.inr (.inr (.inr (.inl h)))
theorem Pw {d:QH} {a:Qq} {Xb:QC QU} {P:QU->QE->Prop} (h:pRx G.K a Xb σ P):Ae G (d+1) (.imm (.QP a)) Xb σ P:=.inr (.inr (.inr (.inr h)))
theorem A0 {d:QH} {id:XA} {Xb:QC QU} {P:QU->QE->Prop} (h:AD G (.imm (.Qd id)) Xb σ P):Ae G d (.imm (.Qd id)) Xb σ P:=by cases d <;> exact h
theorem D6 {d:QH} {T:XA} {Xb:QC QU} {P:QU->QE->Prop} (hT:T≠"list") (h:AD G (.imm (.Qk T)) Xb σ P):Ae G d (.imm (.Qk T)) Xb σ P:=by
 cases d with
 | Q2Q=>exact h
 | Q2R d =>
  exact YG h
theorem Ug {i:X3} {u:QH} {P:QU->QE->Prop} (h:P (.Qm i) σ):ev G YR (n+1) fm (.Q4a (.Qm i) u p) σ P:=Fb h
theorem Uf {y:X6} {u:QH} {P:QU->QE->Prop} (h:P (.Xs y) σ):ev G YR (n+1) fm (.Q4a (.Xs y) u p) σ P:=Fb h
theorem agI {b:Qu} {u:QH} {P:QU->QE->Prop} (h:P (.Yn b) σ):ev G YR (n+1) fm (.Q4a (.Yn b) u p) σ P:=Fb h
theorem agG {u:QH} {P:QU->QE->Prop} (h:P .QG σ):ev G YR (n+1) fm (.Q4a .QG u p) σ P:=Fb h
theorem ahO {f:Qf->PT QU} {P:QC QU->QE->Prop} (h:P [] σ):A6 f [] σ P:=h
theorem agr {f:Qf->PT QU} {e:Qf} {es:QC Qf} {P:QC QU->QE->Prop} (h:f e σ fun v σ=>A6 f es σ fun vs σ=>P (v::vs) σ):A6 f (e::es) σ P:=h
theorem ags {a:Qf->QU->PT YV} {v:QU} {P:YV->QE->Prop} (h:P () σ):A7 a v [] σ P:=h
theorem ae3 {a:Qf->QU->PT YV} {v:QU} {t:Qf} {ts:QC Qf} {P:YV->QE->Prop} (h:a t v σ fun _ σ=>A7 a v ts σ P):A7 a v (t::ts) σ P:=h
theorem O1 {a:Qf->QU->PT YV} {vs:QC QU} {P:YV->QE->Prop} (h:P () σ):EH a [] vs σ P:=by cases vs <;> exact h
theorem II {a:Qf->QU->PT YV} {v:QU} {vs:QC QU} {t:Qf} {ts:QC Qf} {P:YV->QE->Prop} (h:a t v σ fun _ σ=>EH a ts vs σ P):EH a (t::ts) (v::vs) σ P:=h
theorem agl {vs:QC QU} {P:YV->QE->Prop} (h:P () σ):AH fm [] vs σ P:=h
theorem aeS {v:QU} {vs:QC QU} {xs:QC X6} {P:YV->QE->Prop} (hx:(ZH x == QB .Q5v)=QM) (h:AH fm xs vs (Q5F x v) P):AH fm (x::xs) (v::vs) σ P:=by
 show Br fm x v σ _
 unfold Br
 rw [Z0 hx];exact h
theorem AB {k:PT Fl} {P:Fl->QE->Prop} (h:k σ P):Fx k P .YC σ:=h
theorem TI {k:PT Fl} {v:QU} {P:Fl->QE->Prop} (h:P (.ret v) σ):Fx k P (.ret v) σ:=h
theorem agk {k:PT Fl} {P:Fl->QE->Prop} (h:P .QAh σ):Fx k P .QAh σ:=h
theorem ahJ {k:PT Fl} {P:Fl->QE->Prop} (h:P .brk σ):Fx k P .brk σ:=h
theorem agC {K:Q1A} {l d:QH} {C:Qq} {Y4:QC (X6×QU)} {u:QU} {P:QU->QE->Prop} (h1:QS l=.Q5C C d) (h2:QS d=.Q1V Y4) (h3:KJ K C x=QM) (h4:BJ Y4 x=QB u) (h5:Bf u=QM) (h:P u σ):BB K (.QP l) x σ P:=by
 refine Zy (Zy ?_);refine Bt.mk h1 ?_;refine AX.mk h2 ?_;refine ⟨h3,?_⟩;rw [h4]
 exact ⟨h5,h⟩
theorem OW {K:Q1A} {l d:QH} {C:Qq} {Y4:QC (X6×QU)} {u:QU} {P:YV->QE->Prop} (h1:QS l=.Q5C C d) (h2:QS d=.Q1V Y4) (h3:IA K C x=QM) (h4:Yo<=900) (h:P () (Yt d (.Q1V (BC x u Y4)))):Co K (.QP l) x u σ P:=by
 refine Bt.mk h1 ?_;refine AX.mk h2 ?_
 exact ⟨h3,h4,h⟩
theorem agz {K:Q1A} {l d:QH} {C f:Qq} {Y4:QC (X6×QU)} {P:QU×QC QU->QE->Prop} (h1:QS l=.Q5C C d) (h2:QS d=.Q1V Y4) (h3:Ch K C x f=QM) (h4:BJ Y4 x=QG) (h:P (.imm (.QP f),[.QP l]) σ):DW K (.QP l) x σ P:=by
 refine Zy (Zy ?_);refine Bt.mk h1 ?_;refine AX.mk h2 ?_
 exact ⟨f,h3,h4,h⟩
theorem Uc {K:Q1A} {l:QH} {Y4:QC (Yb×QU)} {P:QU->QE->Prop} (h1:QS l=.Q01 Y4) (h:P (.QP QO) (Qw (.bm "dict.get" (.QP l)))):BB K (.QP l) "get" σ P:=by
 refine Zy (YG (Zy ?_));refine Q9e h1 ?_;exact ⟨QA,h⟩
theorem UK {K:Q1A} {l:QH} {xs:QC Yb} {P:QU->QE->Prop} (h1:QS l=.set xs) (h:P (.QP QO) (Qw (.bm "set.__contains__" (.QP l)))):BB K (.QP l) "__contains__" σ P:=by
 refine Zy (YG (YG ?_));refine QFD h1 ?_;exact ⟨QA,h⟩
theorem agy {K:Q1A} {l:QH} {xs:QC QU} {b:BM} {P:QU×QC QU->QE->Prop} (h1:QS l=.Qs xs) (hb:F5 "list" x=QB b) (h:P (.imm (.Qd QEP),[.QP l]) σ):DW K (.QP l) x σ P:=by
 refine Zy (YG (Zy ?_));refine Q3z h1 ?_;show Ad (F5 _ _) _;rw [hb];exact h
theorem agA {K:Q1A} {l:QH} {xs:QC (Yb×QU)} {b:BM} {P:QU×QC QU->QE->Prop} (h1:QS l=.Q01 xs) (hb:F5 "dict" x=QB b) (h:P (.imm (.Qd QEP),[.QP l]) σ):DW K (.QP l) x σ P:=by
 refine Zy (YG (YG (Zy ?_)));refine Q9e h1 ?_;show Ad (F5 _ _) _;rw [hb];exact h
theorem aiK {K:Q1A} {l:QH} {xs:QC Yb} {b:BM} {P:QU×QC QU->QE->Prop} (h1:QS l=.set xs) (hb:F5 "set" x=QB b) (h:P (.imm (.Qd QEP),[.QP l]) σ):DW K (.QP l) x σ P:=by
 refine Zy (YG (YG (YG ?_)));refine QFD h1 ?_;show Ad (F5 _ _) _;rw [hb];exact h
theorem ajJ {a b:X3} {P:QU->QE->Prop} (h:P (.Yn (XV (a < b))) σ):BK .Lt (.Qm a) (.Qm b) σ P:=h
theorem ajK {a b:X3} {P:QU->QE->Prop} (h:P (.Yn (XV (a<=b))) σ):BK .LtE (.Qm a) (.Qm b) σ P:=h
theorem ai1 {a b:X3} {P:QU->QE->Prop} (h:P (.Yn (XV (b < a))) σ):BK .Gt (.Qm a) (.Qm b) σ P:=h
theorem ajL {a b:X3} {P:QU->QE->Prop} (h:P (.Yn (XV (b<=a))) σ):BK .GtE (.Qm a) (.Qm b) σ P:=h
theorem Tj {a b:X3} {P:QU->QE->Prop} (h:P (.Yn (a == b)) σ):BK .Eq (.Qm a) (.Qm b) σ P:=h
theorem ajy {a b:X3} {P:QU->QE->Prop} (h:P (.Yn (a != b)) σ):BK .QGt (.Qm a) (.Qm b) σ P:=h
theorem OD {K:Q1A} {b:Qu} {P:Qu->QE->Prop} (h:P b σ):AC K (.Yn b) σ P:=YG (YG h)
theorem ahB {K:Q1A} {i:X3} {P:Qu->QE->Prop} (h:P (i != 0) σ):AC K (.Qm i) σ P:=YG (YG h)
theorem agj {K:Q1A} {P:Qu->QE->Prop} (h:P QJ σ):AC K .QG σ P:=YG (YG h)
theorem ajF {a b:X3} {P:QU->QE->Prop} (h:P (.Qm (a+b)) σ):CP .Add (.Qm a) (.Qm b) σ P:=h
theorem ajE {a b:X3} {P:QU->QE->Prop} (h:P (.Qm (a - b)) σ):CP .Sub (.Qm a) (.Qm b) σ P:=h
theorem BE {c:Qu} {A B:Prop} (h1:c=QM->A) (h2:c=QJ->B):(c=QM->A)/\(c=QJ->B):=⟨h1,h2⟩
end
end
end Mini
end
section
open PySem PySem.W PySem.Calls PyProof.Rows
namespace Mini
mutual
theorem Ax {α:Type} {Q3D:QE->Prop} {Q9J:α->PT Fl} {xs:QC α} {σ:QE} {P:Fl->QE->Prop} (I:QH->QE->Prop) (B:QE->Prop) (V:QU->QE->Prop)
  (h0:I 0 σ) (hs:∀t σ,I t σ->Q3D σ)
  (ht:∀t x σ,xs[t]?=QB x->I t σ->∀R:Fl->QE->Prop,(∀XF,I (t+1) XF->R .YC XF)->(∀XF,I (t+1) XF->R .QAh XF)->(∀XF,B XF->R .brk XF)->(∀v XF,V v XF->R (.ret v) XF)->Q9J x σ R)
  (he:∀XF,I Qn XF->P .YC XF) (hb:∀XF,B XF->P .YC XF) (hv:∀v XF,V v XF->P (.ret v) XF):AS Q3D Q9J xs σ P:=by
 have key:∀(r:QC α) (t:QH) (σ:QE),Q72 t=r->t+Q7b=Qn->I t σ->AS Q3D Q9J r σ P:=by
  intro r
  induction r with
  | Zl=>intro t σ e el h;exact ⟨hs t σ h,he σ (by rw [<- el];exact h)⟩
  | Xu x r ih =>
   intro t σ e el h
   have hx:xs[t]?=QB x:=by rw [<- List.head?_drop,e];rfl
   have hr:Q72 (t+1)=r:=by rw [<- List.tail_drop,e];rfl
   have hl:t+1+Q7b=Qn:=by rw [<- el,XZ];exact Ff
   exact ⟨hs t σ h,ht t x σ hx h _ (fun XF k=>ih (t+1) XF hr hl k) (fun XF k=>ih (t+1) XF hr hl k) (fun XF k=>hb XF k) (fun v XF k=>hv v XF k)⟩
 exact key xs 0 σ QA (by simp) h0
theorem BX {t:PT Qu} {b:PT Fl} {n:QH} {σ:QE} {P:Fl->QE->Prop} (I:QH->QE->Prop) (E:QE->Prop) (h0:I n σ)
  (ht:∀n σ,I n σ->∀(R:Fl->QE->Prop) (Q:QE->Prop),(∀m XF,m < n->I m XF->R .YC XF)->(∀m XF,m < n->I m XF->R .QAh XF)->(∀XF,E XF->Q XF)->t σ fun c σ=>(c=QM->b σ R)/\(c=QJ->Q σ))
  (he:∀XF,E XF->P .YC XF):CZ t b (n+1) σ P:=by
 have key:∀k n σ,n < k->I n σ->CZ t b k σ P:=by
  intro k
  induction k with
  | Q2Q=>intro n σ h;omega
  | Q2R k ih =>
   intro n σ h hI
   exact ht n σ hI _ _ (fun m XF hm k=>ih m XF (by exact Kp h hm) k) (fun m XF hm k=>ih m XF (by exact Kp h hm) k) he
 exact key (n+1) n σ (by exact Hq) h0
end
section
variable {G:Pg} {cal:Av} {n:Nat} {fm:Fm} {σ:Mini.St} {x:Str} {p:Pos}
mutual
theorem Na {t:Qf->PT Qu} {op:QEY} {e:Qf} {r:QC Qf} {P:Qu->QE->Prop} (h:t e σ fun b σ=>match op,b with
   | .And,QJ=>P QJ σ
   | .Or,QM=>P QM σ
   | _,_=>BL t op r σ P):BL t op (e::r) σ P:=h
def IL (t:Qf->PT Qu) (r:QC Qf) (P:Qu->QE->Prop):Qu->QE->Prop:=fun b σ=>(b=QM->BL t .And r σ P)/\(b=QJ->P QJ σ)
theorem ae2 {t:Qf->PT Qu} {e:Qf} {r:QC Qf} {P:Qu->QE->Prop} (h:t e σ (IL t r P)):BL t .And (e::r) σ P:=by
 refine Na ?_
 have:(fun b σ=>match BoolOp.And,b with
   | .And,QJ=>P QJ σ
   | .Or,QM=>P QM σ
   | _,_=>BL t .And r σ P)=IL t r P:=by
  funext b σ
  apply QEv
  cases b
  ·exact ⟨fun h=>⟨fun q=>(by cases q),fun _=>h⟩,fun h=>h.2 QA⟩
  ·exact ⟨fun h=>⟨fun _=>h,fun q=>(by cases q)⟩,fun h=>h.1 QA⟩
 rw [this];exact h
theorem Aw {t:Qf->PT Qu} {r:QC Qf} {b:Qu} {P:Qu->QE->Prop} (h1:b=QM->BL t .And r σ P) (h2:b=QJ->P QJ σ):IL t r P b σ:=⟨h1,h2⟩
theorem ajl {t:Qf->PT Qu} {r:QC Qf} {P:Qu->QE->Prop} (h2:P QJ σ):IL t r P QJ σ:=⟨fun q=>(by cases q),fun _=>h2⟩
theorem ajk {t:Qf->PT Qu} {r:QC Qf} {P:Qu->QE->Prop} (h2:BL t .And r σ P):IL t r P QM σ:=⟨fun _=>h2,fun q=>(by cases q)⟩
theorem ae0 {t:Qf->PT Qu} {P:Qu->QE->Prop} (h:P QM σ):BL t .And [] σ P:=h
def NF (e:Qf):Qu:=(Dl e).QAT
theorem ajg {l:QH} {P:Src->QE->Prop} (h:P (.seq l) σ):Tu P (.QP l) σ:=h
theorem ajh {l:QH} {xs:QC QU} {P:Src->QE->Prop} (e:QS l=.Qs xs) (h:P (.enum l) σ):Tv P (.QP l) σ:=by
 exact h
theorem ahI {e:Qf} {t:Qf->PT QU} {P:Src->QE->Prop} (he:NF e=QJ) (hs:Bv e=QJ) (h:t e σ (Tu P)):IJ QGB fm t e σ P:=by
 unfold IJ
 cases e2:Dl e with
 | QG=>exact ⟨hs,h⟩
 | QB x=>unfold NF at he;rw [e2]at he;cases he
theorem aeL {e:Qf} {q:Pos} {t:Qf->PT QU} {P:Src->QE->Prop} (hs:B2 e=QJ) (hx:HO Zo "enumerate"=QM) (hg:QGB "enumerate"=QB (.Qk "enumerate"))
  (h:t e σ (Tv P)):IJ QGB fm t (.QAm (.Q0v "enumerate" p) [e] [] q) σ P:=by
 unfold IJ
 rw [show Dl (.QAm (.Q0v "enumerate" p) [e] [] q)=QB e from (show (if ("enumerate":X6)="enumerate" then QB e else QG)=QB e from QY QA)]
 refine ⟨hs,?_⟩
 simp only [HO,X7,Z9,ZJ]at hx
 unfold BI
 rw [hx.2];dsimp only;rw [hg]
 exact ⟨QA,h⟩
theorem ago {asg:QU->PT YV} {bod:PT Fl} {tg:Qf} {l:QH} {xs:QC QU} {P:Fl->QE->Prop} (h:QS l=.Qs xs) (k:AS (fun σ=>QS l=.Qs xs) (fun x σ P=>asg x σ fun _ σ=>bod σ P) xs σ P):Gl asg bod tg (.seq l) σ P:=by
 refine Zy ?_;refine Q3z h ?_;exact k
theorem M7 {asg:QU->PT YV} {bod:PT Fl} {tg:Qf} {l:QH} {a b s:X3} {P:Fl->QE->Prop} (h:QS l=.Q7A a b s) (h1:Q0b a b s=QM) (h2:0<=XG a b s) (k:AS (fun _=>Q3x) (fun x σ P=>asg x σ fun _ σ=>bod σ P) ((Ay a b s).map .Qm) σ P):Gl asg bod tg (.seq l) σ P:=by
 refine YG (YG (Zy ?_));refine By.mk h ?_;exact ⟨h1,h2,k⟩
theorem agq {asg:QU->PT YV} {bod:PT Fl} {tg:Qf} {l:QH} {xs:QC QU} {P:Fl->QE->Prop} (h:QS l=.Qs xs) (ht:Td tg=QM) (k:AS (fun σ=>QS l=.Qs xs) (fun (p:QH×QU) σ P=>asg (.QP QO) (Qw (.YJ [.Qm p.1,p.2])) fun _ σ=>bod σ P) (Cw xs) σ P):Gl asg bod tg (.enum l) σ P:=by
 refine Q3z h ?_;exact ⟨ht,k⟩
theorem ahN {asg:QU->PT YV} {bod:PT Fl} {tg:Qf} {l:QH} {xs:QC Yb} {P:Fl->QE->Prop} (h:QS l=.set xs) (k:S9 asg bod l xs σ P):Gl asg bod tg (.seq l) σ P:=by
 refine YG (YG (YG (YG (Zy ?_))));refine QFD h ?_;exact k
theorem agp {asg:QU->PT YV} {bod:PT Fl} {tg:Qf} {l d:QH} {Y4:QC (Yb×QU)} {P:Fl->QE->Prop} (h:QS l=.QBv d) (hd:d < QO) (h2:QS d=.Q01 Y4) (k:Nf asg bod d Y4 σ P):Gl asg bod tg (.seq l) σ P:=by
 refine YG (YG (YG (YG (YG ?_))));exact CD.mk h ⟨hd,Q9e h2 k⟩
theorem DQ {k n:QH} (h:k < n):Q49 (k:X3) n=QB k:=by
 unfold Q49
 dsimp only
 rw [QN (show ¬(k:X3) < 0 by omega),QY (by simp;omega)]
 simp
theorem Ao {l:QH} {xs:QC QU} {i:X3} {k:QH} {v:QU} {P:QU->QE->Prop} (h:QS l=.Qs xs) (hi:i=k) (hv:xs[k]?=QB v) (hs:k < 2 ^ 63) (p:P v σ):FF (.QP l) (.Qm i) σ P:=by
 subst hi
 have hk:k < Qn:=(QX hv).1
 refine Zy ⟨⟨by omega,by omega⟩,Zy ?_⟩;refine Q3z h ?_
 exact ⟨k,v,DQ hk,hv,p⟩
theorem Bu (k:Yb):Bn Q8n=QB k:=by cases k <;> rfl
def KS:Yb->Yb->Qu
 | .i _,.i _=>QM
 | .s _,.s _=>QM
 | _,_=>QJ
theorem K6 {a b:Yb} {P:QU->QE->Prop} (hk:KS a b=QM) (h:P (.Yn (XV (a=b))) σ):BK .Eq a.val b.val σ P:=by
 cases a with
 | i x=>cases b with
  | i y =>
   have:XV (Key.i x=Key.i y)=(x == y):=by by_cases e:x=y <;> simp [e]
   rw [this]at h;exact h
  | s y=>exact Xc hk Qj
 | s x=>cases b with
  | i y=>exact Xc hk Qj
  | s y =>
   have:XV (Q8F x=Q8F y)=(x == y):=by by_cases e:x=y <;> simp [e]
   rw [this]at h;exact h
theorem F3 {l:QH} {xs:QC QU} {d:QH} {P:QU->QE->Prop} (h:QS l=.Qs xs) (hl:Qn<=Xa) (p:P (.Qm Qn) σ):Ae G d (.imm (.Qd "len")) [.QP l] σ P:=by
 refine A0 ?_
 unfold AD;dsimp only
 rw [QN (by decide),QN (by decide),QY QA]
 refine ⟨QA,.inl ?_⟩
 refine YG (Zy ?_);refine Q3z h ?_;exact ⟨hl,p⟩
theorem Bc {l:QH} {xs:QC QU} {v:QU} {d:QH} {P:QU->QE->Prop} (h:QS l=.Qs xs) (hl:Qn<=Xa) (p:P .QG (Yt l (.Qs (xs++[v])))):Ae G d (.imm (.Qd "list.append")) [.QP l,v] σ P:=by
 refine A0 ?_
 unfold AD;dsimp only
 rw [QN (by decide),QN (by decide),QN (by decide),QN (by decide)]
 unfold pB
 rw [QN (by decide),QY QA]
 refine ⟨QA,?_⟩;refine Q3z h ?_;exact ⟨hl,p⟩
theorem Um {l:QH} {ys:QC QU} {y:QU} {d:QH} {P:QU->QE->Prop} (h:QS l=.Qs (ys++[y])) (hl:(ys++[y]).ZT<=Xa) (p:P y (Yt l (.Qs ys))):Ae G d (.imm (.Qd "list.pop")) [.QP l] σ P:=by
 refine A0 ?_
 unfold AD;dsimp only
 rw [QN (by decide),QN (by decide),QN (by decide),QN (by decide)]
 unfold pB
 rw [QN (by decide),QN (by decide),QY QA]
 refine ⟨QA,?_⟩;refine Q3z h ?_;exact ⟨hl,ys,y,QA,p⟩
theorem Uo {l:QH} {Y4:QC (Yb×QU)} {kv v:QU} {k:Yb} {d:QH} {P:QU->QE->Prop} (h:QS l=.Q01 Y4) (hk:kv=Q8n) (p:P ((Ak Y4 k).Q4f v) σ):Ae G d (.imm (.Qd "dict.get")) [.QP l,kv,v] σ P:=by
 subst hk
 refine A0 ?_
 unfold AD;dsimp only
 rw [QN (by decide),QN (by decide),QN (by decide),QN (by decide)]
 unfold pB
 rw [QN (by decide),QN (by decide),QN (by decide),QY QA]
 refine ⟨QA,?_⟩;refine Q9e h ?_;show Ad (Bn _) _;rw [Bu];exact p
theorem GB {l:QH} {Y4:QC (Yb×QU)} {kv v:QU} {k:Yb} {d:QH} {P:QU->QE->Prop} (h:QS l=.Q01 Y4) (hk:kv=Q8n) (hl:Yo<=Xa)
  (p1:∀u,Ak Y4 k=QB u->P u σ) (p2:Ak Y4 k=QG->P v (Yt l (.Q01 (Ce Y4 k v)))):Ae G d (.imm (.Qd "dict.setdefault")) [.QP l,kv,v] σ P:=by
 subst hk
 refine A0 ?_
 unfold AD;dsimp only
 rw [QN (by decide),QN (by decide),QN (by decide),QN (by decide)]
 unfold pB
 rw [QN (by decide),QN (by decide),QN (by decide),QN (by decide),QY QA]
 refine ⟨QA,?_⟩;refine Q9e h ?_;show Ad (Bn _) _;rw [Bu]
 refine ⟨hl,?_⟩
 cases e:Ak Y4 k with
 | QG=>exact p2 e
 | QB u=>exact p1 u e
theorem Up {l:QH} {xs:QC Yb} {kv:QU} {k:Yb} {d:QH} {P:QU->QE->Prop} (h:QS l=.set xs) (hk:kv=Q8n) (hl:Qn+1 < Q47) (p:P .QG (Yt l (.set (if k∈xs then xs else xs++[k])))):Ae G d (.imm (.Qd "set.add")) [.QP l,kv] σ P:=by
 subst hk
 refine A0 ?_
 unfold AD;dsimp only
 rw [QN (by decide),QN (by decide),QN (by decide),QN (by decide)]
 unfold pB
 rw [QN (by decide),QN (by decide),QN (by decide),QN (by decide),QN (by decide),QY QA]
 refine ⟨QA,?_⟩;refine QFD h ?_;show Ad (Bn _) _;rw [Bu];exact ⟨hl,p⟩
theorem Pv {l:QH} {Y4:QC (Yb×QU)} {d:QH} {P:QU->QE->Prop} (h:QS l=.Q01 Y4) (p:P (.QP QO) (Qw (.QBv l))):Ae G d (.imm (.Qd "dict.keys")) [.QP l] σ P:=by
 refine A0 ?_
 unfold AD;dsimp only
 rw [QN (by decide),QN (by decide),QN (by decide),QN (by decide)]
 unfold pB
 rw [QN (by decide),QN (by decide),QN (by decide),QN (by decide),QN (by decide),QN (by decide),QN (by decide),QY QA]
 refine ⟨QA,?_⟩;refine Q9e h ?_;exact p
theorem Ps {l:QH} {C:Qq} {ts:QC (QH×X3×QC QU)} {d:QH} {P:QU->QE->Prop} (hC:Nq G.K C=QM) (h:QS l=.Qs (QCa fun t=>.QP t.1)) (hl:Q2p < 64) (ho:∀t∈ts,t.1 < QO/\QS t.1=.sub C (.Qm t.2.1::t.2.2)) (hn:(QCa (·.2.1)).QDu)
  (p:∀us:QC (QH×X3×QC QU),QEo ts->Q8A (fun x y=>x.2.1 < y.2.1)->P .QG (Yt l (.Qs (QEp fun t=>.QP t.1)))):Ae G d (.imm (.Qd "list.sort")) [.QP l] σ P:=by
 refine A0 ?_
 unfold AD;dsimp only
 rw [QN (by decide),QN (by decide),QN (by decide),QY QA]
 exact ⟨QA,C,ts,hC,h,hl,ho,hn,p⟩
theorem N0 {l m:QH} {Y4:QC (Yb×QU)} {kv v:QU} {k:Yb} {d:QH} {P:QU->QE->Prop} (hm:QS m=.bm "dict.get" (.QP l)) (h:QS l=.Q01 Y4) (hk:kv=Q8n) (p:P ((Ak Y4 k).Q4f v) σ):Ae G d (.QP m) [kv,v] σ P:=by
 subst hk
 have:AD G (.QP m) [Q8n,v] σ P:=by
  refine FH.mk hm ?_;show pBm _ _ _ _
  unfold pBm
  rw [QY QA]
  refine ⟨QA,?_⟩;refine Q9e h ?_;show Ad (Bn _) _;rw [Bu];exact p
 cases d with
 | Q2Q=>exact this
 | Q2R d=>exact YG (YG this)
theorem HW {l m:QH} {xs:QC Yb} {kv:QU} {k:Yb} {d:QH} {P:QU->QE->Prop} (hm:QS m=.bm "set.__contains__" (.QP l)) (h:QS l=.set xs) (hk:kv=Q8n) (p:P (.Yn (XV (k∈xs))) σ):Ae G d (.QP m) [kv] σ P:=by
 subst hk
 have:AD G (.QP m) [Q8n] σ P:=by
  refine FH.mk hm ?_;show pBm _ _ _ _
  unfold pBm
  rw [QN (by decide),QY QA]
  refine ⟨QA,?_⟩;refine QFD h ?_;show Ad (Bn _) _;rw [Bu];exact p
 cases d with
 | Q2Q=>exact this
 | Q2R d=>exact YG (YG this)
theorem Ho {C t p0 fN:QH} {mc:QI} {xs:QC QU} {d:QH} {P:QU->QE->Prop} (T:TupK G.K C p0 fN mc) (h:QS t=.YJ xs) (hl:Qn<=Xa) (p:P (.QP QO) (Qw (.sub C xs))):Ae G d (.imm (.Qd "tuple.__new__")) [.imm (.QP C),.QP t] σ P:=by
 refine A0 ?_
 unfold AD;dsimp only
 rw [QY QA]
 exact ⟨QA,Cs.mk QA (QAt ⟨p0,fN,mc,T⟩ (Zy ⟨xs,h,hl,p⟩))⟩
theorem af6 {a b:X3} {d:QH} {P:QU->QE->Prop} (p:P (.QP QO) (Qw (.Q7A a b 1))):Ae G d (.imm (.Qk "range")) [.Qm a,.Qm b] σ P:=by
 refine D6 (by decide) ?_
 unfold AD;dsimp only
 rw [QN (by decide),QN (by decide)]
 unfold pTy;rw [QY QA];exact .inr ⟨QA,p⟩
theorem UL {a:X3} {d:QH} {P:QU->QE->Prop} (p:P (.QP QO) (Qw (.Q7A 0 a 1))):Ae G d (.imm (.Qk "range")) [.Qm a] σ P:=by
 refine D6 (by decide) ?_
 unfold AD;dsimp only
 rw [QN (by decide),QN (by decide)]
 unfold pTy;rw [QY QA];exact .inl ⟨QA,p⟩
theorem aiY {d:QH} {P:QU->QE->Prop} (p:P (.QP QO) (Qw (.set []))):Ae G d (.imm (.Qk "set")) [] σ P:=by
 refine D6 (by decide) ?_
 unfold AD;dsimp only
 rw [QN (by decide),QN (by decide)]
 unfold pTy;rw [QN (by decide),QY QA];exact p
theorem UI {K:Q1A} {P:QU×QC QU->QE->Prop} (p:P (.imm (.Qd "tuple.__new__"),[]) σ):DW K (.imm (.Qk "tuple")) "__new__" σ P:=by
 exact YG (JI.mk QA ⟨QA,QA,p⟩)
theorem ajq {K:Q1A} {id:XA} {A:Prop} (h:A):Bw K σ (.imm (.Qd id))/\A:=⟨ZN,h⟩
theorem ajn {K:Q1A} {T:XA} {A:Prop} (h:A):Bw K σ (.imm (.Qk T))/\A:=⟨ZN,h⟩
theorem ajo {K:Q1A} {a:Qq} {A:Prop} (k:keepIn K (.QP a)=QM) (h:A):Bw K σ (.imm (.QP a))/\A:=⟨.inl k,h⟩
theorem ajp {K:Q1A} {l:QH} {id:XA} {s:QU} {A:Prop} (k:QS l=.bm id s) (h:A):Bw K σ (.QP l)/\A:=⟨Zy (FH.mk k ZN),h⟩
theorem Ms {K:Q1A} {l n:QH} {xs:QC QU} {P:QC QU->QE->Prop} (h:QS l=.YJ xs) (hn:Qn=n) (p:P xs σ):AR K (.QP l) n σ P:=by
 refine Zy ?_;refine Cp.mk h ?_;exact ⟨hn,p⟩
theorem Mt {K:Q1A} {l n:QH} {C:Qq} {xs:QC QU} {P:QC QU->QE->Prop} (h:QS l=.sub C xs) (hs:Du K C=QM) (hn:Qn=n) (p:P xs σ):AR K (.QP l) n σ P:=by
 refine YG ?_;refine Cq.mk h ?_;exact ⟨hs,hn,p⟩
theorem OU {l:QH} {Y4:QC (Yb×QU)} {kv v:QU} {k:Yb} {P:YV->QE->Prop} (h:QS l=.Q01 Y4) (hk:kv=Q8n) (hl:Yo<=Xa) (p:P () (Yt l (.Q01 (Ce Y4 k v)))):C0 (.QP l) kv v σ P:=by
 subst hk
 refine Q9e h ?_;show Ad (Bn _) _;rw [Bu];exact ⟨hl,p⟩
theorem Pm {l:QH} {Y4:QC (Yb×QU)} {kv:QU} {k:Yb} {P:YV->QE->Prop} (h:QS l=.Q01 Y4) (hk:kv=Q8n) (hl:Yo<=Xa) (hh:(Ak Y4 k).QAT=QM) (p:P () (Yt l (.Q01 (EL Y4 k)))):C1 (.QP l) kv σ P:=by
 subst hk
 refine Q9e h ?_;show Ad (Bn _) _;rw [Bu];exact ⟨hl,hh,p⟩
theorem ajz {l:QH} {P:QU->QE->Prop} (p:P (.Yn QJ) σ):BK .Is (.QP l) .QG σ P:=p
theorem aiZ {P:QU->QE->Prop} (p:P (.Yn QM) σ):BK .Is .QG .QG σ P:=p
theorem ai0 {i:X3} {P:QU->QE->Prop} (p:P (.Yn QJ) σ):BK .Is (.Qm i) .QG σ P:=p
theorem ajw {P:QU->QE->Prop} (p:P (.Yn QJ) σ):BK .QFN .QG .QG σ P:=p
theorem ajv {l:QH} {P:QU->QE->Prop} (p:P (.Yn QM) σ):BK .QFN (.QP l) .QG σ P:=p
theorem ajx {a b:Qu} {P:QU->QE->Prop} (p:P (.Yn (!(a == b))) σ):BK .QFN (.Yn a) (.Yn b) σ P:=p
theorem OC {K:Q1A} {l:QH} {xs:QC QU} {P:Qu->QE->Prop} (h:QS l=.Qs xs) (hl:Qn<=Xa) (p:P (!xs.isEmpty) σ):AC K (.QP l) σ P:=by
 refine YG (YG ?_)
 refine Zy ?_;refine Q3z h ?_;exact ⟨hl,p⟩
def UC (x:X6) (a:X3) (P:Fl->QE->Prop):QU->QE->Prop:=fun v σ=>Bi v fun j=>P .YC (Q5F x (.Qm (a+j)))
theorem ai4 {a j:X3} {P:Fl->QE->Prop} (h:P .YC (Q5F x (.Qm (a+j)))):UC x a P (.Qm j) σ:=h
theorem ahz {e:Qf} {q:Pos} {a:X3} {P:Fl->QE->Prop} (h1:((x == ("__classdict__":X6))=QJ/\(ZH x == QB .Q5v)=QM)) (h3:Xv x=QB (.Qm a)) (h:ev G YR n fm e σ (UC x a P)):ex1 G YR (n+1) fm (.QDo (.Q0v x q) .Add e p) σ P:=by
 refine aeI h1.1 ?_
 unfold BI
 rw [Z0 h1.2];dsimp only;rw [h3]
 have e2:Oj fm x .Add P (.Qm a)=UC x a P:=by
  funext v XF
  cases v with
  | Qm j =>
   refine QEv ⟨fun h=>?_,fun h=>⟨QA,?_⟩⟩
   ·have h:=h.2
    unfold Br at h
    rw [Z0 h1.2]at h
    exact h
   ·unfold Br
    rw [Z0 h1.2]
    exact h
  | _=>rfl
 show ev G YR n fm e σ (Oj fm x .Add P (.Qm a))
 rw [e2]
 exact h
theorem agL {xs:QC QU} {A:Prop} (h1:Qn<=Xa) (h2:A):Qn<=Xa/\A:=⟨h1,h2⟩
theorem DZ {x:X6} {v w:QU} (h:v=w):(Q5F x v).loc x=QB w:=(QY QA).QR (Z4 QB h)
theorem afK {y:X6} {o:Ob} {w:QW QU} (h:Xv y=w):(Qw o).loc y=w:=h
theorem T0 {y:X6} {l:QH} {o:Ob} {w:QW QU} (h:Xv y=w):(Yt l o).loc y=w:=h
theorem HN {x:X6} {v:QU} {k:QH} {o:Ob} (h:QS k=o):(Q5F x v).hp k=o:=h
theorem FQ {k:QH} {o o':Ob} (q:k≠QO) (h:QS k=o):(Qw o').hp k=o:=(QN q).QR h
theorem D3 {k:QH} {o o':Ob} (q:k=QO) (h:o'=o):(Qw o').hp k=o:=(QY q).QR h
theorem Ct {k l:QH} {o o':Ob} (q:k≠l) (h:QS k=o):(Yt l o').hp k=o:=(QN q).QR h
theorem Cu {k l:QH} {o o':Ob} (q:k=l) (h:o'=o):(Yt l o').hp k=o:=(QY q).QR h
theorem agi {y1 y2:X6} {p1 p2 q r:Pos} {k m:QH} {e1 e2:Qf} {P:Fl->QE->Prop} (h1:(A3 (.Zp [e1,e2] m r)=QJ/\Am [.Zp [.Q0v y1 p1,.Q0v y2 p2] k q]=QM/\Bg [.Zp [.Q0v y1 p1,.Q0v y2 p2] k q] (.Zp [e1,e2] m r)=QJ))
  (h2:BV Zo [.Zp [.Q0v y1 p1,.Q0v y2 p2] k q] (.Zp [e1,e2] m r)=QB [y1,y2]) (h:ev G YR n fm (.Zp [e1,e2] m r) σ fun v σ=>AR G.K v 2 σ fun vs σ=>AH fm [y2,y1] Q3R σ fun _ σ=>P .YC σ):ex1 G YR (n+1) fm (.Q6w [.Zp [.Q0v y1 p1,.Q0v y2 p2] k q] (.Zp [e1,e2] m r) p) σ P:=Mg h1 h2 h
theorem agh {y1 y2 y3:X6} {p1 p2 p3 q r:Pos} {k m:QH} {e1 e2 e3:Qf} {P:Fl->QE->Prop} (h1:(A3 (.Zp [e1,e2,e3] m r)=QJ/\Am [.Zp [.Q0v y1 p1,.Q0v y2 p2,.Q0v y3 p3] k q]=QM/\Bg [.Zp [.Q0v y1 p1,.Q0v y2 p2,.Q0v y3 p3] k q] (.Zp [e1,e2,e3] m r)=QJ))
  (h2:BV Zo [.Zp [.Q0v y1 p1,.Q0v y2 p2,.Q0v y3 p3] k q] (.Zp [e1,e2,e3] m r)=QB [y1,y2,y3]) (h:ev G YR n fm (.Zp [e1,e2,e3] m r) σ fun v σ=>AR G.K v 3 σ fun vs σ=>AH fm [y3,y2,y1] Q3R σ fun _ σ=>P .YC σ):ex1 G YR (n+1) fm (.Q6w [.Zp [.Q0v y1 p1,.Q0v y2 p2,.Q0v y3 p3] k q] (.Zp [e1,e2,e3] m r) p) σ P:=Mg h1 h2 h
theorem aeR {a b:QU} {xs:QC X6} {P:YV->QE->Prop} (h:AH fm xs [b,a] σ P):AH fm xs [a,b].Q5x σ P:=h
theorem aeQ {a b c:QU} {xs:QC X6} {P:YV->QE->Prop} (h:AH fm xs [c,b,a] σ P):AH fm xs [a,b,c].Q5x σ P:=h
theorem HS {st:YW} {P:Fl->QE->Prop} (K:QE->Prop) (h:∀R:Fl->QE->Prop,(∀XF,K XF->R .YC XF)->ex1 G YR n fm st σ R) (k:∀XF,K XF->P .YC XF):ex1 G YR n fm st σ P:=h P k
theorem F8 {y x:X6} {v:QU} {r:QC (X6×QU)}:BJ ((y,v)::r) x=if y=x then QB v else BJ r x:=by
 unfold BJ
 rw [Q17]
 by_cases h:y=x
 ·subst h;simp
 ·rw [QN h,show (y == x)=QJ from Yi h]
theorem UN {x:X6}:BJ [] x=QG:=QA
theorem F7 {y x:X6} {u v:QU} {r:QC (X6×QU)}:BC x u ((y,v)::r)=if y=x then (y,u)::r else (y,v)::BC x u r:=by
 rw [HZ]
 by_cases h:y=x
 ·subst h;simp
 ·rw [QN h,QN (by simpa using h)]
theorem UM {x:X6} {u:QU}:BC x u []=[(x,u)]:=QA
theorem ahK {K:Q1A} {l d:QH} {C:Qq} {Y4 kvs':QC (X6×QU)} {u:QU} {P:YV->QE->Prop} (h1:QS l=.Q5C C d) (h2:QS d=.Q1V Y4) (h3:IA K C x=QM) (h4:QE9 Yo 900=QM) (h5:BC x u Y4=kvs') (h:P () (Yt d (.Q1V kvs'))):Co K (.QP l) x u σ P:=OW h1 h2 h3 (Q0z h4) (by rw [h5];exact h)
theorem ajm {x y:X6} {v:QU} {w:QW QU} (q:(y == x)=QJ) (h:Xv y=w):(Q5F x v).loc y=w:=(QN (Q7J q)).QR h
theorem ai8 {x:X6} {v:QU} {r:QC (X6×QU)}:BJ ((x,v)::r) x=QB v:=F8.trans (QY QA)
theorem ai7 {x y:X6} {v:QU} {r:QC (X6×QU)} {w:QW QU} (q:(y == x)=QJ) (h:BJ r x=w):BJ ((y,v)::r) x=w:=F8.trans ((QN (Q7J q)).QR h)
theorem ai6 {x:X6} {u v:QU} {r:QC (X6×QU)}:BC x u ((x,v)::r)=(x,u)::r:=F7.trans (QY QA)
theorem ai5 {x y:X6} {u v:QU} {r s:QC (X6×QU)} (q:(y == x)=QJ) (h:BC x u r=s):BC x u ((y,v)::r)=(y,v)::s:=F7.trans ((QN (Q7J q)).QR (Z4 _ h))
theorem afw {l:QH} {o:Ob} (h:l < QO):l < (Qw o).nx:=Q2O h
theorem UH {o:Ob}:QO < (Qw o).nx:=Xx _
theorem afr {l k:QH} {o:Ob} (h:l < QO):l < (Yt k o).nx:=h
theorem afs {l:QH} {x:X6} {v:QU} (h:l < QO):l < (Q5F x v).nx:=h
theorem afB {l:QH} {o:Ob} (h:l<=QO):l<=(Qw o).nx:=Q5w h
theorem afx {l k:QH} {o:Ob} (h:l<=QO):l<=(Yt k o).nx:=h
theorem afy {l:QH} {x:X6} {v:QU} (h:l<=QO):l<=(Q5F x v).nx:=h
theorem afp {k l:QH} (h:k < l):k≠l:=Y5 h
theorem afq {k l:QH} (h:l < k):k≠l:=Yp h
theorem agt {a b:QH} (h:a < b):a < b+1:=Q2O h
theorem agu {a b:QH} (h:a<=b):a<=b+1:=Q5w h
theorem aft {a:QH}:a < a+1:=Xx _
theorem afo {k l:QH} (h:l≠k):k≠l:=fun e=>h QGV
theorem ajB {A B:Prop} (h:B):(QJ=QM->A)/\(QJ=QJ->B):=⟨fun q=>(by cases q),fun _=>h⟩
theorem ajA {A B:Prop} (h:A):(QM=QM->A)/\(QM=QJ->B):=⟨fun _=>h,fun q=>(by cases q)⟩
theorem GroX.of {X:QC QH} {σ σ1 XF:QE} (hh:Q24=QS) (hn:YB=QO) (h:YP X σ1 XF):QGC X σ {XF with loc:=Xv} :=
 ⟨by rw [<- hn];exact QEu,QA,fun l hl hx=>by rw [<- hh];exact h.hp l (by rw [hn];exact hl) hx⟩
theorem Gro.of {σ σ1 XF:QE} (hh:Q24=QS) (hn:YB=QO) (h:YP [] σ1 XF):Gro σ {XF with loc:=Xv} :=
 ⟨by rw [<- hn];exact QEu,QA,fun l hl=>by rw [<- hh];exact h.hp l (by rw [hn];exact hl) (by simp)⟩
end
end
end Mini
end
section
open Lean
set_option compiler.extract_closed false
namespace Mini
def NA (k:Name) (s:String) (l:List Syntax):Syntax:=mkNode k (mkAtom s::l).toArray
def Tb (l:List Syntax):Syntax:=mkNode `null l.toArray
def Ny (l:List Syntax):Syntax:=mkNode `Lean.Parser.Tactic.tacticSeq #[mkNode `Lean.Parser.Tactic.tacticSeq1Indented #[Tb (l.intersperse (mkAtom ";"))]]
def Nz (s:String) (l:List Syntax):Syntax:=NA (.str `Lean.Parser.Tactic s) s l
def afR (l:List Syntax):Syntax:=Nz "first" [Tb (l.map fun a=>NA `group "|" [a])]
def afQ (l:Syntax):Syntax:=NA `Lean.Parser.Tactic.withReducible "with_reducible" [Ny [l]]
def afO:List String:="!m | 0 (PySem.W.tacticKp_flats \"kp_flats ) | 1 (PySem.W.tacticKeq_rows \"keq_rows ) | 2 (PySem.W.tacticKas_types \"kas_types ) | 3 (PySem.W.tacticKwd_less \"kwd_less ) | 4 (PySem.W.tacticKts_caught \"kts_caught ) | 5 (PySem.W.tacticKaf_pre \"kaf_pre ) | 6 (PySem.W.tacticKc_close \"kc_close ) | 7 (PySem.W.tacticKcj_m \"kcj_m ) | 8 (PySem.W.tacticKln_le \"kln_le ) | 9 (PySem.W.tacticKd_all \"kd_all ) | ! (T.exact \"exact rfl ) | _ (T.withReducible \"with_reducible (T.tacticSeq (T.tacticSeq1Indented (N (T.exact \"exact rfl ) ) ) ) ) | ; (T.exact \"exact (E.anonymousCtor \"⟨ (N rfl \", rfl \", rfl ) \"⟩ ) ) | , (T.exact \"exact (E.anonymousCtor \"⟨ (N rfl \", rfl ) \"⟩ ) ) | + (T.exact \"exact (E.anonymousCtor \"⟨ (N rfl \", rfl \", (E.byTactic \"by (T.tacticSeq (T.tacticSeq1Indented (N (T.decide \"decide (T.optConfig (N ) ) ) ) ) ) ) \", rfl ) \"⟩ ) ) | ( (T.withReducible \"with_reducible (T.tacticSeq (T.tacticSeq1Indented (N (T.apply \"apply afp ) ) ) ) ) | [ (T.withReducible \"with_reducible (T.tacticSeq (T.tacticSeq1Indented (N (T.apply \"apply afq ) ) ) ) ) | ~ (T.withReducible \"with_reducible (T.tacticSeq (T.tacticSeq1Indented (N (T.assumption \"assumption ) ) ) ) ) | ^ (T.simp \"simp (T.optConfig (N ) ) (N ) (N \"only ) (N \"[ (N (T.simpLemma (N ) (N ) Ah ) \", (T.simpLemma (N ) (N ) Ab ) \", (T.simpLemma (N ) (N ) Ac ) ) \"] ) (N ) ) | - (T.tacticTry_ \"try (T.tacticSeq (T.tacticSeq1Indented (N (T.dsimp \"dsimp (T.optConfig (N ) ) (N ) (N \"only ) (N \"[ (N (T.simpLemma (N ) (N ) List.nil_append ) \", (T.simpLemma (N ) (N ) List.cons_append ) \", (T.simpLemma (N ) (N ) BM.id ) ) \"] ) (N ) ) ) ) ) ) | = (T.simp \"simp (T.optConfig (N ) ) (N ) (N ) (N \"[ (N (T.simpLemma (N ) (N ) sizeLine_eq ) ) \"] ) (N ) ) | * (T.first \"first (N (group \"| (T.tacticSeq (T.tacticSeq1Indented (N (T.withReducible \"with_reducible (T.tacticSeq (T.tacticSeq1Indented (N (T.assumption \"assumption ) ) ) ) ) ) ) ) ) (group \"| (T.tacticSeq (T.tacticSeq1Indented (N (PySem.W.tacticKp_flats \"kp_flats ) ) ) ) ) ) ) | . (T.done \"done ) | > (T.decide \"decide (T.optConfig (N ) ) ) | & (T.omega \"omega (T.optConfig (N ) ) ) | % (tacticKernel_rfl \"kernel_rfl ) | ) (T.focus \"focus (T.tacticSeq (T.tacticSeq1Indented (N (T.first \"first (N (group \"| (T.tacticSeq (T.tacticSeq1Indented (N (T.apply \"apply Or.inr ) \"; (PySem.W.tacticKwd_less \"kwd_less ) ) ) ) ) (group \"| (T.tacticSeq (T.tacticSeq1Indented (N (T.apply \"apply Or.inl ) \"; (T.simp \"simp (T.optConfig (N ) ) (N ) (N ) (N ) (N ) ) \"; (T.done \"done ) ) ) ) ) ) ) ) ) ) ) | a (T.assumption \"assumption )".splitOn " | "
def afP (c:Char):Syntax:=kq ((((afO.drop 1).find? fun w=>w.front == c).getD "a (T.assumption \"assumption )").drop 2).toString []
def D1 (f:Bool) (s:String):MacroM Syntax :=
 let t:=afR (((s.splitOn " ").drop 1).map fun w =>
  let l:=w.splitOn ":"
  let ts:=(l.getD 1 "").toList.map afP
  Ny (if (l.headD "").isEmpty then ts else afQ (Nz "apply" [mkIdent (l.headD "").toName])::ts))
 pure (if f then Nz "focus" [Ny [t]] else t)
mutual
theorem afv {a b c:QH} (h:b<=c) (k:a < b):a < c:=QQ k h
theorem afA {a b c:QH} (h:b<=c) (k:a<=b):a<=c:=Y1 k h
theorem afu {a b c:QH} (h:b < c) (k:a<=b):a < c:=Q5S k h
theorem Ni {a b c:QH} (h:a+b < c):a < c:=Q5S (Q6K _ _) h
theorem afz {a c:QH} (h:a < c):a<=c:=XD h
theorem afC {a b c:QH} (h:a+b < c):a<=c:=XD (Ni h)
theorem afL {α:Type} {l:QC α} {x:α} {n:QH} (h:ZF<=n):(l++[x]).ZT<=n+1:=Y1 (QAF Xw) (Nat.add_le_add_right h 1)
theorem GroH.updR {X:QC QH} {a b:QE} {l:QH} {o:Ob} (hl:l∈X\/a.nx<=l) (h:YP X a b):YP X a (b.upd l o):=h.upd hl
end
end Mini
end
section
open PySem PySem.W PySem.Calls PyProof.Rows
set_option genInjectivity false
set_option genSizeOf false
namespace Mini
mutual
theorem Dh {Y4:QC (Yb×QU)} {k j:Yb} {v:QU}:Ak (Y4++[(k,v)]) j=match Ak Y4 j with | QB u=>QB u | QG=>if k=j then QB v else QG:=by
 injections Y4 k j v
 unfold Ak
 rw [List.find?_append]
 cases e:Q8N (fun kv=>XV (kv.1=j)) with
 | QB u=>rfl
 | QG =>
  by_cases hk:k=j
  ·simp [hk]
  ·simp [hk]
theorem Lu {Y4:QC (Yb×QU)} {k:Yb} {v:QU} (h:Ak Y4 k=QG):Ce Y4 k v=Y4++[(k,v)]:=by
 unfold Ce
 rw [QN]
 unfold Ak at h
 simp only [Q3g,Q3N,Xl]at h
 simp only [Q4A,Xl,not_exists,not_and]
 intro x hx;exact h x hx
theorem BU {Y4:QC (Yb×QU)} {k:Yb}:(Ak Y4 k).QAT=QM↔k∈Q2i (·.1):=by
 unfold Ak
 rw [Option.isSome_map,List.find?_isSome]
 simp only [Xl,QEw]
theorem Lw {Y4:QC (Yb×QU)} {k j:Yb}:Ak (EL Y4 k) j=if j=k then QG else Ak Y4 j:=by
 unfold Ak EL
 rw [List.find?_filter]
 by_cases h:j=k
 ·subst h
  rw [QY QA]
  simp
 ·rw [QN h]
  have:(fun a:Yb×QU=>(!XV (a.1=k)&&XV (a.1=j)))=fun a=>XV (a.1=j):=by
   funext a
   by_cases e:a.1=j
   ·have:¬a.1=k:=fun q=>h (by rw [<- e,q])
    simp [e,h]
   ·simp [e]
  simp only [Bool.decide_and,Bool.decide_eq_true,this,Bool.not_eq_eq_eq_not,Q4Q,decide_eq_false_iff_not]
  first
  | rfl
  | (congr 2;funext a;by_cases e:a.1=j <;> simp [e,h])
theorem HK (Y4:QC (Yb×QU)) (k:Yb):(EL Y4 k).ZT<=Yo:=Q42 ..
def B6 (B:QC Yb) (k:Yb):QC QH:=(X5 Xm).Q9D fun i=>XV (B[i]?=QB k)
theorem Di {B:QC Yb} {t:QH} {e k:Yb} (h:B[t]?=QB e):B6 (Q1s (t+1)) k=if e=k then B6 (Q1s t) k++[t] else B6 (Q1s t) k:=by
 injections B t e k _
 have ht:t < Xm:=(QX h).1
 unfold B6
 rw [Xn,Xn,Ye ht,Ye (XD ht),Q3G,Q5T]
 have e1:(X5 t).Q9D (fun i=>XV ((Q1s (t+1))[i]?=QB k))=(X5 t).Q9D fun i=>XV ((Q1s t)[i]?=QB k):=by
  apply List.filter_congr
  intros i hi
  have:=List.mem_range.mp hi
  rw [ZZ,ZZ,QY (by exact Le this),QY this]
 rw [e1]
 have e2:[t].Q9D (fun i=>XV ((Q1s (t+1))[i]?=QB k))=if e=k then [t] else []:=by
  rw [Q1k,ZZ,QY (Xx t),h]
  by_cases q:e=k
  ·simp [q]
  ·simp [q]
 rw [e2]
 split <;> simp
theorem LA {B:QC Yb} {k:Yb} (h:k∉B):B6 B k=[]:=by
 unfold B6
 rw [Q75]
 intro i hi q
 exact h (XE (by simpa using q))
theorem IR {B:QC Yb} {k:Yb} {i:QH}:i∈B6 B k↔B[i]?=QB k:=by
 unfold B6
 rw [QBO,List.mem_range]
 constructor
 ·intro h;simpa using h.2
 ·intro h;exact ⟨(QX h).1,by simpa using h⟩
theorem I3 (B:QC Yb) (k:Yb):(B6 B k).Pairwise (· < ·):=List.Pairwise.filter _ Q3d
theorem Az {B:QC Yb} {t:QH} {e k:Yb} (h:B[t]?=QB e):k∈Q1s (t+1)↔k∈Q1s t\/k=e:=by
 rw [QCm,h];simp
structure L1 (hp:QH->Ob) (lo hi:QH) (Y4:QC (Yb×QU)) (B:QC Yb):Prop where
 has:∀k,k∈B->∃l,Ak Y4 k=QB (.QP l)/\lo<=l/\l < hi/\hp l=.Qs ((B6 B k).map fun i:QH=>.Qm i)
 not:∀k,k∉B->Ak Y4 k=QG
 inj:∀k k' l,Ak Y4 k=QB (.QP l)->Ak Y4 k'=QB (.QP l)->k=k'
 nd:(Q2i (·.1)).QDu
 len:Yo<=Xm
theorem L1.nil {hp:QH->Ob} {lo hi:QH}:L1 hp lo hi [] [] where
 has:=fun k h=>by cases h
 not:=fun k h=>QA
 inj:=fun k k' l h=>by cases h
 nd:=.Zl
 len:=Qh _
theorem L1.old {hp hp':QH->Ob} {lo hi hi':QH} {Y4:QC (Yb×QU)} {B:QC Yb} {t l:QH} {e:Yb} (L:L1 hp lo hi Y4 (Q1s t)) (h:B[t]?=QB e) (hg:Ak Y4 e=QB (.QP l)) (hh:hi<=hi')
  (h1:hp' l=.Qs ((B6 (Q1s t) e++[t]).map fun i:QH=>.Qm i)) (h2:∀k,lo<=k->k < hi->k≠l->hp' k=hp k):L1 hp' lo hi' Y4 (Q1s (t+1)) where
 has:=fun k hk=>by
  by_cases q:e=k
  ·subst q
   have:e∈Q1s t:=Q15 fun n=>by rw [L.not e n]at hg;cases hg
   refine ew1 (QHN e this) fun l' yq0s=>?_;refine an4 yq0s fun g1 g2 g3 g4=>?_;clear yq0s
   rw [hg]at g1;cases g1
   exact ⟨l,hg,g2,by exact Be hh g3,by rw [h1,Di h,QY QA]⟩
  ·have hk':k∈Q1s t:=((Az h).mp hk).Q91 fun r=>q QEx
   refine ew1 (QHN k hk') fun l' yq0t=>?_;refine an4 yq0t fun g1 g2 g3 g4=>?_;clear yq0t
   have:l'≠l:=fun r=>q (L.inj e k l hg (by rw [g1,r]))
   exact ⟨l',g1,g2,by exact Be hh g3,by rw [h2 l' g2 g3 this,g4,Di h,QN q]⟩
 not:=fun k hk=>L.not k fun r=>hk ((Az h).mpr (.inl r))
 inj:=L.inj
 nd:=L.nd
 len:=by
  have ht:t < Xm:=(QX h).1
  exact Y1 L.len (by rw [Xn,Xn,Ye ht,Ye (XD ht)];exact Q1B t)
theorem L1.new {hp hp':QH->Ob} {lo hi hi':QH} {Y4:QC (Yb×QU)} {B:QC Yb} {t l:QH} {e:Yb} (L:L1 hp lo hi Y4 (Q1s t)) (h:B[t]?=QB e) (hg:Ak Y4 e=QG) (hl:hi<=l) (hl0:lo<=l) (hh:l < hi')
  (h1:hp' l=.Qs [.Qm (t:QH)]) (h2:∀k,lo<=k->k < hi->hp' k=hp k):L1 hp' lo hi' (Y4++[(e,.QP l)]) (Q1s (t+1)) where
 has:=fun k hk=>by
  rw [Dh]
  by_cases q:e=k
  ·subst q
   rw [hg]
   refine ⟨l,QY QA,hl0,hh,?_⟩
   have:e∉Q1s t:=fun r=>by refine ew1 (QHN e r) fun l' yq0u=>?_;refine an2 yq0u fun g1 _=>?_;clear yq0u;rw [hg]at g1;cases g1
   rw [h1,Di h,QY QA,LA this];rfl
  ·have hk':k∈Q1s t:=((Az h).mp hk).Q91 fun r=>q QEx
   refine ew1 (QHN k hk') fun l' yq0v=>?_;refine an4 yq0v fun g1 g2 g3 g4=>?_;clear yq0v
   rw [g1]
   exact ⟨l',QA,g2,by exact aet hl hh g3,by rw [h2 l' g2 g3,g4,Di h,QN q]⟩
 not:=fun k hk=>by
  have n:¬(k∈Q1s t\/k=e):=fun r=>hk ((Az h).mpr r)
  rw [Dh,L.not k fun r=>n (.inl r)]
  exact QN fun r=>n (.inr QEx)
 inj:=fun k k' l' a b=>by
  have lt:∀j l',Ak Y4 j=QB (.QP l')->l' < hi:=fun j l' g=>by
   have:j∈Q1s t:=Q15 fun n=>by rw [L.not j n]at g;cases g
   refine ew1 (QHN j this) fun l2 yq0w=>?_;refine an4 yq0w fun g1 g2 g3 g4=>?_;clear yq0w
   rw [g]at g1;cases g1;exact g3
  rw [Dh]at a b
  cases ea:Ak Y4 k with
  | QB u =>
   rw [ea]at a;cases a
   cases eb:Ak Y4 k' with
   | QB u'=>rw [eb]at b;cases b;exact L.inj k k' l' ea eb
   | QG =>
    rw [eb]at b;dsimp only at b
    split at b
    ·cases b;have:=lt k _ ea;omega
    ·cases b
  | QG =>
   rw [ea]at a;dsimp only at a
   split at a
   ·rename_i ek
    cases a
    cases eb:Ak Y4 k' with
    | QB u'=>rw [eb]at b;cases b;have:=lt k' _ eb;omega
    | QG =>
     rw [eb]at b;dsimp only at b
     split at b
     ·rename_i ek';rw [<- ek,<- ek']
     ·cases b
   ·cases a
 nd:=by
  rw [Qt,Q5n]
  refine ⟨L.nd,by simp,fun x hx y hy=>?_⟩
  simp only [XR,Q4w,Xi]at hy
  subst hy
  intro q
  subst q
  have:=BU.mpr hx
  rw [hg]at this;cases this
 len:=by
  have ht:t < Xm:=(QX h).1
  have:=L.len
  rw [Xn,Ye (XD ht)]at this
  rw [Xw,Q06,Xn,Ye ht];exact Q6J this
end
end Mini
end
section
set_option genInjectivity false
set_option genSizeOf false
namespace Mini
structure Win where
 alo:Nat
 ahi:Nat
 blo:Nat
 bhi:Nat
instance:Nonempty Win:=⟨⟨0,0,0,0⟩⟩
section
variable (M:Nat->Nat->Bool) (U:Nat->Bool)
mutual
def An (a0 b0:QH):QH->QH->QH
 | 0,j=>if (M 0 j&&!U j&&XV (a0<=0)&&XV (b0<=j))=QM then 1 else 0
 | i+1,j=>if (M (i+1) j&&!U j&&XV (a0<=i+1)&&XV (b0<=j))=QM then (match j with | 0=>0 | j'+1=>An a0 b0 i j')+1 else 0
def FA (a0 b0 i j:QH):QH:=match i,j with
 | i'+1,j'+1=>An M U a0 b0 i' j'
 | _,_=>0
theorem AQ (a0 b0 i j:QH):An M U a0 b0 i j=if M i j=QM/\U j=QJ/\a0<=i/\b0<=j then FA M U a0 b0 i j+1 else 0:=by
 injections M U a0 b0 i j
 cases i with
 | Q2Q =>
  show (if (M 0 j&&!U j&&XV (a0<=0)&&XV (b0<=j))=QM then 1 else 0)=(if M 0 j=QM/\U j=QJ/\a0<=0/\b0<=j then 1 else 0)
  by_cases h:M 0 j=QM/\U j=QJ/\a0<=0/\b0<=j
  ·rw [QY h,QY (by simp [h.1,h.2.1,h.2.2.2];exact Q7q h.2.2.1)]
  ·rw [QN h,QN]
   intros q
   simp only [X7,Z9,Xl]at q
   exact h ⟨q.1.1.1,q.1.1.2,q.1.2,q.2⟩
 | Q2R i =>
  injections i zI
  have e:FA M U a0 b0 (i+1) j=(match j with | 0=>0 | j'+1=>An M U a0 b0 i j'):=by cases j <;> rfl
  rw [e]
  show (if (M (i+1) j&&!U j&&XV (a0<=i+1)&&XV (b0<=j))=QM then (match j with | 0=>0 | j'+1=>An M U a0 b0 i j')+1 else 0)=_
  by_cases h:M (i+1) j=QM/\U j=QJ/\a0<=i+1/\b0<=j
  ·rw [QY h,QY (by simp only [X7,Z9,Xl];exact ⟨⟨⟨h.1,h.2.1⟩,h.2.2.1⟩,h.2.2.2⟩)]
  ·rw [QN h,QN]
   intros q
   simp only [X7,Z9,Xl]at q
   exact h ⟨q.1.1.1,q.1.1.2,q.1.2,q.2⟩
theorem M0 (a0 b0 i j:QH) (h:i < a0\/j < b0):An M U a0 b0 i j=0:=by
 rw [AQ,QN];omega
theorem DD (a0 b0 i j t:QH):t < An M U a0 b0 i j->t<=i/\t<=j/\a0+t<=i/\b0+t<=j/\M (i - t) (j - t)=QM/\U (j - t)=QJ/\An M U a0 b0 (i - t) (j - t)=An M U a0 b0 i j - t:=by
 revert i j
 induction t with
 | Q2Q =>
  intro i j h
  rw [AQ]at h
  split at h
  ·rename_i q;exact ⟨XT _,XT _,q.2.2.1,q.2.2.2,q.1,q.2.1,QA⟩
  ·omega
 | Q2R t ih =>
  intro i j h
  have h':=h
  rw [AQ]at h
  split at h
  ·rename_i q
   cases i with
   | Q2Q=>exact Xc (Zt (show t+1 < 0+1 from h)) (Q02 _)
   | Q2R i =>
    cases j with
    | Q2Q=>exact Xc (Zt (show t+1 < 0+1 from h)) (Q02 _)
    | Q2R j =>
     have e:An M U a0 b0 (i+1) (j+1)=An M U a0 b0 i j+1:=by rw [AQ,QY q];rfl
     refine an7 (ih i j (by exact zq1 h' e)) fun k1 k2 k3 k4 k5 k6 k7=>?_
     refine ⟨by exact zq2 k1,by exact zq2 k2,by exact zq3 k3,by exact zq3 k4,?_,?_,?_⟩
     ·rw [show i+1 - (t+1)=i - t by exact zq4 k1,show j+1 - (t+1)=j - t by exact zq4 k2];exact k5
     ·rw [show j+1 - (t+1)=j - t by exact zq4 k2];exact k6
     ·rw [show i+1 - (t+1)=i - t by exact zq4 k1,show j+1 - (t+1)=j - t by exact zq4 k2,k7,e];exact zq5
  ·omega
theorem DR (a0 b0 i j:QH) (h:0 < An M U a0 b0 i j):An M U a0 b0 i j+a0<=i+1/\An M U a0 b0 i j+b0<=j+1:=by
 have:=DD M U a0 b0 i j (An M U a0 b0 i j - 1) (by exact zq6 h)
 exact ⟨zq7 this.2.2.1,zq7 this.2.2.2.1⟩
def Bst (a0 b0:QH) (C:QH->QH->Prop) (b:QH×QH×QH):Prop :=
 (b=(a0,b0,0)/\∀x y,C x y->An M U a0 b0 x y=0) \/
 ∃x y,C x y/\0 < An M U a0 b0 x y/\b=(x+1 - An M U a0 b0 x y,y+1 - An M U a0 b0 x y,An M U a0 b0 x y) /\
  (∀x' y',C x' y'->An M U a0 b0 x' y'<=An M U a0 b0 x y)/\∀x' y',C x' y'->(x' < x\/(x'=x/\y' < y))->An M U a0 b0 x' y' < An M U a0 b0 x y
end
variable {M U} {a0 b0:Nat} {C C':Nat->Nat->Prop} {b:Nat×Nat×Nat}
mutual
theorem Bst.size (h:Bst M U a0 b0 C b):∀x y,C x y->An M U a0 b0 x y<=b.2.2:=by
 injections M U a0 b0 C b _
 rcases h with zR | zR
 ·obtain ⟨QA,h⟩:=zR
  intros x y q;rw [h x y q];exact Qh _
 ·obtain ⟨x,y,h1,h2,QA,h3,h4⟩:=zR
  exact h3
theorem Bst.grow (h:Bst M U a0 b0 C b) (s:∀x y,C x y->C' x y) (n:∀x y,C' x y->¬C x y->An M U a0 b0 x y=0):Bst M U a0 b0 C' b:=by
 injections M U a0 b0 C C' b _ _ _
 rcases h with zR | zR
 ·obtain ⟨QA,h⟩:=zR
  refine .inl ⟨QA,?_⟩;intros x y q
  by_cases c:C x y
  ·exact h x y c
  ·exact n x y q c
 ·obtain ⟨x,y,h1,h2,QA,h3,h4⟩:=zR
  refine .inr ⟨x,y,s x y h1,h2,QA,?_,?_⟩
  ·intros x' y' q
   by_cases c:C x' y'
   ·exact h3 x' y' c
   ·rw [n x' y' q c];exact zq8
  ·intros x' y' q l
   by_cases c:C x' y'
   ·exact h4 x' y' c l
   ·rw [n x' y' q c];omega
theorem Bst.more {i j:QH} (h:Bst M U a0 b0 C b) (hC:∀x y,C' x y↔C x y\/(x=i/\y=j)) (hb:∀x y,C x y->x < i\/(x=i/\y < j)) :
  Bst M U a0 b0 C' (if An M U a0 b0 i j > b.2.2 then (i+1 - An M U a0 b0 i j,j+1 - An M U a0 b0 i j,An M U a0 b0 i j) else b):=by
 have hs:=h.size
 split
 ·rename_i g
  refine .inr ⟨i,j,(hC i j).mpr (.inr ⟨QA,QA⟩),by exact zq9 g,QA,fun x y q=>?_,fun x y q l=>?_⟩
  ·rcases (hC x y).mp q with q | ⟨QA,QA⟩
   ·have:=hs x y q;exact ahv g this
   ·exact Qh _
  ·rcases (hC x y).mp q with q | ⟨QA,QA⟩
   ·have:=hs x y q;exact ahu g this
   ·omega
 ·rename_i g
  rcases h with ⟨QA,h⟩ | ⟨x,y,h1,h2,QA,h3,h4⟩
  ·refine .inl ⟨QA,fun x y q=>?_⟩
   rcases (hC x y).mp q with q | ⟨QA,QA⟩
   ·exact h x y q
   ·have:¬An M U a0 b0 x y > 0:=g
    exact aht this
  ·refine .inr ⟨x,y,(hC x y).mpr (.inl h1),h2,QA,fun x' y' q=>?_,fun x' y' q l=>?_⟩
   ·rcases (hC x' y').mp q with q | ⟨QA,QA⟩
    ·exact h3 x' y' q
    ·exact QB0 g
   ·rcases (hC x' y').mp q with q | ⟨QA,QA⟩
    ·exact h4 x' y' q l
    ·have:=hb x y h1;omega
theorem Bst.uniq {b':QH×QH×QH} (h:Bst M U a0 b0 C b) (k:Bst M U a0 b0 C b'):b=b':=by
 injections M U a0 b0 C b b' _ _
 rcases h with ⟨QA,h⟩ | ⟨x,y,h1,h2,QA,h3,h4⟩ <;> rcases k with ⟨QA,k⟩ | ⟨x',y',k1,k2,QA,k3,k4⟩
 ·rfl
 ·have:=h x' y' k1;omega
 ·have:=k x y h1;omega
 ·have e1:=h3 x' y' k1
  have e2:=k3 x y h1
  have:x=x'/\y=y':=by
   by_cases q:x' < x\/(x'=x/\y' < y)
   ·have:=h4 x' y' k1 q;exact ⟨Ov e2 this,Ov e2 this⟩
   ·by_cases q2:x < x'\/(x=x'/\y < y')
    ·have:=k4 x y h1 q2;exact ⟨Ov e1 this,Ov e1 this⟩
    ·rcases Q3s x x' with r | r | r
     ·exact (q2 (.inl r)).Q32
     ·rcases Q3s y y' with s | s | s
      ·exact (q2 (.inr ⟨r,s⟩)).Q32
      ·exact ⟨r,s⟩
      ·exact (q (.inr ⟨QEx,s⟩)).Q32
     ·exact (q (.inl r)).Q32
  rw [this.1,this.2]
def QB1 (w:Win) (x y:QH):Prop:=Xy<=x/\x < Q0N/\Xz<=y/\y < Q0F
end
variable {w:Win}
mutual
theorem Bst.inside (h:Bst M U Xy Xz QBn b) (ha:Xy<=Q0N) (hb:Xz<=Q0F):Xy<=b.1/\Xz<=b.2.1/\b.1+b.2.2<=Q0N/\b.2.1+b.2.2<=Q0F:=by
 injections M U b w _ _ _
 rcases h with zR | zR
 ·obtain ⟨QA,h⟩:=zR
  exact ⟨Qh _,Qh _,ha,hb⟩
 ·obtain ⟨x,y,h1,h2,QA,h3,h4⟩:=zR
  have:=DR M U _ _ _ _ h2
  unfold QB1 at h1
  exact ⟨aen this.1,aen this.2,aei h1.2.1 this.1,aei h1.2.2.2 this.2⟩
theorem Bst.noLeft (h:Bst M U Xy Xz QBn b) (h1:Xy < b.1) (h2:Xz < b.2.1):¬(M (b.1 - 1) (b.2.1 - 1)=QM/\U (b.2.1 - 1)=QJ):=by
 injections M U b w _ _ _
 intros Q2T
 obtain ⟨m,u⟩:=Q2T
 rcases h with zR | zR
 ·obtain ⟨QA,h⟩:=zR
  exact XY _ h1
 ·obtain ⟨x,y,c1,c2,QA,c3,c4⟩:=zR
  have k:=DD M U Xy Xz x y (An M U Xy Xz x y - 1) (by exact zq6 c2)
  dsimp only at h1 h2 m u
  generalize hr:An M U Xy Xz x y=r at *
  obtain ⟨k1,k2,k3,k4,k5,k6,k7⟩:=k
  have e1:x+1 - r=x - (r - 1):=by exact aed c2 k1
  have e2:y+1 - r=y - (r - 1):=by exact aed c2 k2
  have k7':An M U Xy Xz (x - (r - 1)) (y - (r - 1))=1:=by rw [k7];exact ahs c2
  rw [AQ,QY ⟨k5,k6,by exact ad2 k3,by exact ad2 k4⟩]at k7'
  rw [e1,e2]at m
  rw [e2]at u
  rw [e1]at h1
  rw [e2]at h2
  have:FA M U Xy Xz (x - (r - 1)) (y - (r - 1))=An M U Xy Xz (x - (r - 1) - 1) (y - (r - 1) - 1):=by
   have zO:∃p,x - (r - 1)=p+1:=⟨x - (r - 1) - 1,by exact adT h1⟩
   obtain ⟨p,hp⟩:=zO
   have zO:∃q,y - (r - 1)=q+1:=⟨y - (r - 1) - 1,by exact adT h2⟩
   obtain ⟨q,hq⟩:=zO
   rw [hp,hq];rfl
  rw [this,AQ,QY ⟨m,u,by exact adQ h1,by exact adQ h2⟩]at k7'
  exact ahr k7'
theorem Bst.noRight (h:Bst M U Xy Xz QBn b) (h1:b.1+b.2.2 < Q0N) (h2:b.2.1+b.2.2 < Q0F) (ha:Xy<=Q0N) (hb:Xz<=Q0F):¬(M (b.1+b.2.2) (b.2.1+b.2.2)=QM/\U (b.2.1+b.2.2)=QJ):=by
 injections M U b w _ _ _ _ _
 intros Q6g
 obtain ⟨m,u⟩:=Q6g
 have hi:=h.inside ha hb
 rcases h with zR | zR
 ·obtain ⟨QA,h⟩:=zR
  have:=h Xy Xz ⟨Qh _,h1,Qh _,h2⟩
  dsimp only at m u
  rw [AQ,QY ⟨m,u,Qh _,Qh _⟩]at this
  exact adB this
 ·obtain ⟨x,y,c1,c2,QA,c3,c4⟩:=zR
  have hl:=DR M U _ _ _ _ c2
  dsimp only at h1 h2 m u
  have e1:x+1 - An M U Xy Xz x y+An M U Xy Xz x y=x+1:=by exact Ou hl.1
  have e2:y+1 - An M U Xy Xz x y+An M U Xy Xz x y=y+1:=by exact Ou hl.2
  rw [e1,e2]at m
  rw [e2]at u
  rw [e1]at h1
  rw [e2]at h2
  unfold QB1 at c1
  have:=c3 (x+1) (y+1) ⟨by exact Hs c1.1,h1,by exact Hs c1.2.2.1,h2⟩
  rw [AQ M U _ _ (x+1) (y+1),QY ⟨m,u,by exact Hs c1.1,by exact Hs c1.2.2.1⟩]at this
  have e3:FA M U Xy Xz (x+1) (y+1)=An M U Xy Xz x y:=QA
  exact ahq this e3
end
variable (M U)
noncomputable def Kf (w:Win) (i j u:Nat):Prop:=u<=i/\u<=j/\w.alo+u<=i/\w.blo+u<=j/\(∀t,t < u->M (i - 1 - t) (j - 1 - t)=true/\U (j - 1 - t)=true)/\¬(w.alo < i - u/\w.blo < j - u/\M (i - u - 1) (j - u - 1)=true/\U (j - u - 1)=true)
noncomputable def Ke (w:Win) (i j r:Nat):Prop:=(r=0\/(i+r<=w.ahi/\j+r<=w.bhi))/\(∀t,t < r->M (i+t) (j+t)=true/\U (j+t)=true)/\¬(i+r < w.ahi/\j+r < w.bhi/\M (i+r) (j+r)=true/\U (j+r)=true)
noncomputable def Flm (w:Win) (i j k:Nat):Prop:=∃b u r,Bst M U w.alo w.blo w.cells b/\Kf M U w b.1 b.2.1 u/\Ke M U w (b.1+b.2.2) (b.2.1+b.2.2) r/\i=b.1 - u/\j=b.2.1 - u/\k=b.2.2+u+r
end
end Mini
end
section
open PySem PySem.W PySem.Calls PyProof.Rows
namespace Mini
mutual
theorem A5 {a b:QH} (h:a<=b):XG (a:X3) (b:X3) 1=((b - a:QH):X3):=by
 unfold XG
 rw [QY (by decide)]
 by_cases e:a=b
 ·subst e;simp
 ·rw [QY (by exact Yz (Vg h e)),Int.ediv_one,Int.ofNat_sub h];exact Int.sub_add_cancel ..
theorem Fz {a b t:QH} {z:X3} (h:a<=b) (hz:(Ay (a:X3) (b:X3) 1)[t]?=QB z):z=((a+t:QH):X3)/\a+t < b:=by
 injections a b t z _ _
 unfold Ay at hz
 rw [A5 h,QT]at hz
 cases e:(X5 ((b - a:QH):X3).Q1X)[t]? with
 | QG=>rw [e]at hz;cases hz
 | QB i =>
  injections i zI
  rw [e]at hz
  obtain ⟨h1,h2⟩:=QX e
  rw [List.getElem_range]at h2
  rw [Y8]at h1
  cases hz
  subst h2
  refine ⟨?_,Q43 h1⟩
  show (a:X3)+(t:X3)*1=_
  rw [Int.mul_one];rfl
theorem Fy {a b:QH} (h:a<=b):(Ay (a:X3) (b:X3) 1).ZT=b - a:=by
 unfold Ay
 rw [QK,Y8,A5 h];rfl
theorem CX {a b:QH} (h:a<=b) (hb:b < 2 ^ 62):Q0b (a:X3) (b:X3) 1=QM:=small_one (by omega) (by omega) (by omega) (by omega)
theorem Bj {α:Type} {B:QC α} {t:QH} {e k:α} (h:B[t]?=QB e):k∈Q1s (t+1)↔k∈Q1s t\/k=e:=by
 rw [QCm,h];simp
theorem OF {L:QC QH} (hs:Q5U (· < ·)) {t j y:QH} (h:L[t]?=QB j) (hy:y∈L.take t):y < j:=by
 obtain (⟨i,hi⟩):=Q6F hy
 rw [ZZ]at hi
 split at hi
 ·rename_i hlt
  obtain (⟨h1,h2⟩):=QX h
  obtain (⟨h3,h4⟩):=QX hi
  have:=Q26 hs i t h3 h1 hlt
  exact aes h2 h4 this
 ·cases hi
theorem Pl {L:QC QH} (hs:Q5U (· < ·)) {t j y:QH} (h:L[t]?=QB j) (hy:y∈L) (hn:y∉L.take t):j<=y:=by
 obtain (⟨i,hi⟩):=Q6F hy
 have ht:t<=i:=Q15 fun q=>hn (XE (i:=i) (by rw [ZZ,QY (by exact Tm q)];exact hi))
 obtain (⟨h1,h2⟩):=QX h
 obtain (⟨h3,h4⟩):=QX hi
 by_cases e:t=i
 ·subst e;omega
 ·have:=Q26 hs t i h1 h3 (by exact aer ht e)
  exact aeq h2 h4 this
theorem Lv {Y4:QC (Yb×QU)} {k j:Yb} {v:QU}:Ak (Ce Y4 k v) j=if j=k then QB v else Ak Y4 j:=by
 injections Y4 k j v
 unfold Ce
 split
 ·rename_i h
  unfold Ak
  rw [List.find?_map,Option.map_map]
  simp only [Q4A,Xl]at h
  have e1:((fun kv:Yb×QU=>XV (kv.1=j)) ∘ fun kv=>if kv.1=k then (kv.1,v) else kv)=fun kv=>XV (kv.1=j):=by
   funext kv
   show XV ((if kv.1=k then (kv.1,v) else kv).1=j)=_
   split <;> rfl
  rw [e1]
  by_cases q:j=k
  ·subst q
   rw [QY QA]
   obtain ⟨x,hx,hxk⟩:=h
   cases e:Q8N (fun kv=>XV (kv.1=j)) with
   | QG=>rw [Q3N]at e;exact Xc (by simpa using hxk) (e x hx)
   | QB y =>
    injections y zI
    have:=Q7E e
    simp only [Xl]at this
    simp [this]
  ·rw [QN q]
   cases e:Q8N (fun kv=>XV (kv.1=j)) with
   | QG=>rfl
   | QB y =>
    injections y zI
    have:=Q7E e
    simp only [Xl]at this
    have hk:¬y.1=k:=fun r=>q (by rw [<- this,r])
    simp [hk]
 ·rename_i h
  have hn:Ak Y4 k=QG:=by
   unfold Ak
   simp only [Q4A,Xl,not_exists,not_and]at h
   simp only [Q3g,Q3N,Xl]
   exact h
  rw [Dh]
  by_cases q:j=k
  ·subst q;rw [hn,QY QA]
  ·rw [QN q,QN fun r=>q QEx]
   first | done | (cases Ak Y4 j <;> rfl)
theorem HJ (Y4:QC (Yb×QU)) (k:Yb) (v:QU):(Ce Y4 k v).ZT<=Yo+1:=by
 unfold Ce
 split
 ·rw [QK];exact EA
 ·rw [Xw,Q06];exact SQ
end
end Mini
end
section
set_option genInjectivity false
set_option genSizeOf false
namespace Mini
noncomputable abbrev Ap:=Nat×Nat×Nat
section
variable (M:Nat->Nat->Bool) (U:Nat->Bool)
inductive Blk:Win->List Ap->Prop
 | leaf {w:Win} {i j:Nat}:Flm M U w i j 0->Blk w []
 | node {w:Win} {i j k:Nat} {l1 l2:List Ap}:Flm M U w i j k->0 < k->(w.alo < i/\w.blo < j->Blk ⟨w.alo,i,w.blo,j⟩ l1)->(¬(w.alo < i/\w.blo < j)->l1=[]) ->
   (i+k < w.ahi/\j+k < w.bhi->Blk ⟨i+k,w.ahi,j+k,w.bhi⟩ l2)->(¬(i+k < w.ahi/\j+k < w.bhi)->l2=[])->Blk w (l1++(i,j,k)::l2)
inductive AllB:List Win->List Ap->Prop
 | nil:AllB [] []
 | cons {w:Win} {ws:List Win} {l L:List Ap}:Blk M U w l->AllB ws L->AllB (w::ws) (l++L)
variable {M U}
mutual
theorem in1 {x lo hi u r z:QH} (h1:u<=x) (h2:lo+u<=x) (h3:x+z<=hi) (h4:r=0\/x+z+r<=hi):lo<=x - u/\x - u+(z+u+r)<=hi:=by
 have h5:x+z+r<=hi:=h4.elim (fun e=>by rw [e];exact h3) id
 refine ⟨Nat.le_sub_of_add_le h2,?_⟩
 rw [Nat.add_comm z u,Q2I u z r,<- Q2I (x - u) u (z+r),Q9U h1,<- Q2I x z r]
 exact h5
theorem Flm.inside {w:Win} {i j k:QH} (h:Flm M U w i j k) (ha:Xy<=Q0N) (hb:Xz<=Q0F):Xy<=i/\i+k<=Q0N/\Xz<=j/\j+k<=Q0F:=by
 obtain (⟨b,u,r,h1,h2,h3,QA,QA,QA⟩):=h
 have:=h1.inside ha hb
 obtain (⟨k1,k2,k3,k4,_⟩):=h2
 obtain (⟨q,_⟩):=h3
 have a:=in1 k1 k3 this.2.2.1 (q.imp id (·.1))
 have b:=in1 k2 k4 this.2.2.2 (q.imp id (·.2))
 exact ⟨a.1,a.2,b.1,b.2⟩
theorem Blk.inside {w:Win} {L:QC Ap} (h:Blk M U w L):Xy<=Q0N->Xz<=Q0F->(∀t∈L,Xy<=t.1/\t.1+t.2.2<=Q0N/\Xz<=t.2.1/\t.2.1+t.2.2<=Q0F/\0 < t.2.2)/\Q5U (fun x y=>x.1+x.2.2<=y.1/\x.2.1+x.2.2<=y.2.1):=by
 induction h with
 | leaf _=>intro _ _;exact ⟨fun t q=>(by cases q),.Zl⟩
 | @node w i j k l1 l2 hf hk c1 n1 c2 n2 ih1 ih2 =>
  intro ha hb
  have hi:=QDz ha hb
  have g1:(∀t∈l1,Xy<=t.1/\t.1+t.2.2<=i/\Xz<=t.2.1/\t.2.1+t.2.2<=j/\0 < t.2.2)/\l1.Pairwise (fun x y=>x.1+x.2.2<=y.1/\x.2.1+x.2.2<=y.2.1):=by
   by_cases q:Xy < i/\Xz < j
   ·exact ih1 q (XD q.1) (XD q.2)
   ·rw [n1 q];exact ⟨fun t q=>(by cases q),.Zl⟩
  have g2:(∀t∈l2,i+k<=t.1/\t.1+t.2.2<=Q0N/\j+k<=t.2.1/\t.2.1+t.2.2<=Q0F/\0 < t.2.2)/\l2.Pairwise (fun x y=>x.1+x.2.2<=y.1/\x.2.1+x.2.2<=y.2.1):=by
   by_cases q:i+k < Q0N/\j+k < Q0F
   ·exact ih2 q (XD q.1) (XD q.2)
   ·rw [n2 q];exact ⟨fun t q=>(by cases q),.Zl⟩
  refine ⟨fun t ht=>?_,?_⟩
  ·rcases Y3 ht with q | q
   ·have:=g1.1 t q;exact ⟨Hr this.1,acV hk hi.2.1 this.2.1,Hr this.2.2.1,acV hk hi.2.2.2 this.2.2.2.1,Lf this.2.2.2.2⟩
   ·rcases XP q with QA | q
    ·exact ⟨Hr hi.1,DK hi.2.1,Hr hi.2.2.1,DK hi.2.2.2,Lf hk⟩
    ·have:=g2.1 t q;exact ⟨acv hk hi.1 this.1,DK this.2.1,acv hk hi.2.2.1 this.2.2.1,DK this.2.2.2.1,Lf this.2.2.2.2⟩
  ·refine List.pairwise_append.mpr ⟨g1.2,List.pairwise_cons.mpr ⟨fun y hy=>(by have:=g2.1 y hy;dsimp only;exact ⟨DK this.1,DK this.2.2.1⟩),g2.2⟩,fun x hx y hy=>?_⟩
   have a1:=g1.1 x hx
   rcases XP hy with QA | q
   ·exact ⟨DK a1.2.1,DK a1.2.2.2.1⟩
   ·have:=g2.1 y q;exact ⟨aco hk a1.2.1 this.1,aco hk a1.2.2.2.1 this.2.2.1⟩
def Eb (M:QH->QH->Qu) (U:QH->Qu) (w0:Win) (ms:QC Ap) (ws:QC Win):Prop:=∀L,AllB M U ws L->∃L0,Blk M U w0 L0/\(ms++L).Perm L0
theorem Eb.start (w0:Win):Eb M U w0 [] [w0]:=fun L h=>by
 cases h with
 | Xu h1 h2=>cases h2;exact ⟨_,h1,by simp⟩
theorem Eb.done {w0:Win} {ms:QC Ap} (h:Eb M U w0 ms []):∃L0,Blk M U w0 L0/\ms.Perm L0:=by
 refine ew1 (h [] .Zl) fun L0 yq01=>?_;refine an2 yq01 fun h1 h2=>?_;clear yq01
 exact ⟨L0,h1,by simpa using h2⟩
theorem Eb.drop {w0 w:Win} {ms:QC Ap} {ws:QC Win} {i j:QH} (h:Eb M U w0 ms (w::ws)) (hf:Flm M U w i j 0):Eb M U w0 ms ws:=fun L k=>h ([]++L) (.Xu (.leaf hf) k)
def Cd (w:Win) (i j:QH) (ws:QC Win):QC Win:=if Xy < i/\Xz < j then ⟨Xy,i,Xz,j⟩::ws else ws
def DT (w:Win) (i j k:QH) (ws:QC Win):QC Win:=if i+k < Q0N/\j+k < Q0F then ⟨i+k,Q0N,j+k,Q0F⟩::ws else ws
theorem Eb.take {w0 w:Win} {ms:QC Ap} {ws:QC Win} {i j k:QH} (h:Eb M U w0 ms (w::ws)) (hf:Flm M U w i j k) (hk:0 < k):Eb M U w0 (ms++[(i,j,k)]) (DT w i j k (Cd w i j ws)):=fun L hL=>by
 obtain ⟨l2,L2,QA,c2,n2,hL2⟩:∃l2 L2,L=l2++L2/\(i+k < Q0N/\j+k < Q0F->Blk M U ⟨i+k,Q0N,j+k,Q0F⟩ l2)/\(¬(i+k < Q0N/\j+k < Q0F)->l2=[])/\AllB M U (Cd w i j ws) L2:=by
  unfold DT at hL
  split at hL
  ·rename_i q
   cases hL with
   | Xu a b=>exact ⟨_,_,QA,fun _=>a,fun n=>(n q).Q32,b⟩
  ·rename_i q
   exact ⟨[],L,QA,fun n=>(q n).Q32,fun _=>QA,hL⟩
 obtain ⟨l1,L1,QA,c1,n1,hL1⟩:∃l1 L1,L2=l1++L1/\(Xy < i/\Xz < j->Blk M U ⟨Xy,i,Xz,j⟩ l1)/\(¬(Xy < i/\Xz < j)->l1=[])/\AllB M U ws L1:=by
  unfold Cd at hL2
  split at hL2
  ·rename_i q
   cases hL2 with
   | Xu a b=>exact ⟨_,_,QA,fun _=>a,fun n=>(n q).Q32,b⟩
  ·rename_i q
   exact ⟨[],L2,QA,fun n=>(q n).Q32,fun _=>QA,hL2⟩
 refine ew1 (h ((l1++(i,j,k)::l2)++L1) (.Xu (.node hf hk c1 n1 c2 n2) hL1)) fun L0 yq02=>?_;refine an2 yq02 fun g1 g2=>?_;clear yq02
 refine ⟨L0,g1,List.Perm.trans ?_ g2⟩
 rw [Q0S]
 refine Q7N ms ?_
 have e1:((i,j,k)::(l2++(l1++L1))).Perm ((i,j,k)::(l1++(l2++L1))):=Q5G _ (by
  rw [<- Q0S,<- Q0S]
  exact List.Perm.append_right L1 List.perm_append_comm)
 refine YY ?_
 have e2:(l1++(i,j,k)::l2++L1)=l1++(i,j,k)::(l2++L1):=by simp
 rw [e2]
 exact List.perm_middle.symm
def wsz (w:Win):QH:=2*(Q0N - Xy)+1
theorem Lq {w:Win} {i j k:QH} {ws:QC Win} (hk:0 < k) (h1:Xy<=i) (h2:i+k<=Q0N):((DT w i j k (Cd w i j ws)).map wsz).sum < (((w::ws).map wsz).sum):=by
 have e:((Cd w i j ws).map wsz).sum<=2*(i - Xy)+1+(QCn wsz).sum:=by
  unfold Cd
  split
  ·simp [wsz]
  ·exact ahp
 have e2:((DT w i j k (Cd w i j ws)).map wsz).sum<=2*(Q0N - (i+k))+1+((Cd w i j ws).map wsz).sum:=by
  unfold DT
  split
  ·simp [wsz]
  ·exact aho
 have e3:((w::ws).map wsz).sum=2*(Q0N - Xy)+1+(QCn wsz).sum:=by simp [wsz]
 exact ahn hk h1 h2 e e2 e3
theorem CJ:∀ {L:QC Ap} {a n:QH},(∀t∈L,a<=t.1/\t.1+t.2.2<=n/\0 < t.2.2)->Q5U (fun x y=>x.1+x.2.2<=y.1)->Q6b<=n - a
 | [],_,_,_,_=>XT _
 | t::L,a,n,h,hp=>by
  have h1:=h t (.Zc _)
  have ih:=CJ (L:=L) (a:=t.1+t.2.2) (n:=n) (fun u hu=>⟨(Q07 hp).1 u hu,(h u (.Q31 _ hu)).2⟩) (Q07 hp).2
  rw [XZ];exact ahm h1.1 h1.2.1 h1.2.2 ih
def mrg:Ap->QC Ap->QC Ap
 | c,[]=>if c.2.2=0 then [] else [c]
 | c,t::r=>if c.1+c.2.2=t.1/\c.2.1+c.2.2=t.2.1 then mrg (c.1,c.2.1,c.2.2+t.2.2) r else (if c.2.2=0 then [] else [c])++mrg t r
def Gmb (M:QH->QH->Qu) (U:QH->Qu) (la lb:QH) (R:QC Ap):Prop:=∃L,Blk M U ⟨0,la,0,lb⟩ L/\R=mrg (0,0,0) L++[(la,lb,0)]
theorem Dv {α:Type} {f:α->X3}:∀ {us vs:QC α},QEo vs->Q8A (fun x y=>f x < f y)->vs.Pairwise (fun x y=>f x < f y)->us=vs
 | [],vs,h,_,_=>h.nil_eq
 | u::us,[],h,_,_=>(by have:=h.length_eq;simp at this)
 | u::us,v::vs,h,h1,h2=>by
  have hu:u∈v::vs:=h.mem_iff.mp (.Zc _)
  have hv:v∈u::us:=h.mem_iff.mpr (.Zc _)
  have e:u=v:=by
   rcases XP hu with q | q
   ·exact q
   ·rcases XP hv with q2 | q2
    ·exact q2.symm
    ·have a:=(Q07 h1).1 v q2
     have b:=(Q07 h2).1 u q
     omega
  subst e
  rw [Dv ((List.perm_cons u).mp h) (Q07 h1).2 (Q07 h2).2]
end
end
end Mini
end
section
open PySem PySem.W PySem.Calls PyProof.Rows
namespace Mini
section
variable {G:Pg} {cal:Av} {n:Nat} {fm:Fm} {σ:Mini.St} {x:Str} {p:Pos}
mutual
theorem af9 {a b:X3} {P:QU->QE->Prop} (hb:b≠0) (h:P (.Qm (a.fmod b)) σ):CP .Mod (.Qm a) (.Qm b) σ P:=⟨hb,h⟩
theorem Ut {a b:X3} {P:QU->QE->Prop} (hb:b≠0) (hs:b.natAbs < 1073741824) (h:P (.Qm (a.fdiv b)) σ):CP .FloorDiv (.Qm a) (.Qm b) σ P:=⟨hb,PyProof.noPylong_small hs,h⟩
theorem af8 {a b:X3} {P:QU->QE->Prop} (hb:0<=b) (hs:(Builtin.Int.intBits a:X3)*b<=2 ^ 27) (h:P (.Qm (a ^ Q9b)) σ):CP .Pow (.Qm a) (.Qm b) σ P:=⟨hb,hs,h⟩
theorem Uu {a b:X6} {P:QU->QE->Prop} (hl:ZE+Q3r<=Xa) (h:P (.Xs (a++b)) σ):CP .Add (.Xs a) (.Xs b) σ P:=⟨hl,h⟩
theorem Ur {a:X6} {b:X3} {P:QU->QE->Prop} (hl:MulOk a b) (h:P (.Xs (Txt.mul a b)) σ):CP .Mult (.Xs a) (.Qm b) σ P:=⟨hl,h⟩
theorem J9 {l k:QH} {xs ys:QC QU} {P:QU->QE->Prop} (h1:QS l=.Qs xs) (h2:QS k=.Qs ys) (hl:Qn+ys.length<=Xa) (h:P (.QP QO) (Qw (.Qs (xs++ys)))):CP .Add (.QP l) (.QP k) σ P:=by
 show M9 (QS l) (QS k) σ P
 rw [h1,h2];exact ⟨hl,h⟩
theorem J4 {i:QH} {d:QH} {P:QU->QE->Prop} (hi:i<=1114111) (h:P (.Xs ⟨#[i]⟩) σ):Ae G d (.imm (.Qd "chr")) [.Qm i] σ P:=by
 refine A0 ?_
 unfold AD;dsimp only
 rw [QN (by decide),QN (by decide),QN (by decide),QN (by decide)]
 unfold pB
 rw [QN (by decide),QN (by decide),QN (by decide),QN (by decide),QN (by decide),QN (by decide),QY QA]
 refine ⟨QA,by exact Yh (LP),by exact Yh hi,?_⟩
 exact h
theorem HV {l:QH} {a b:X3} {d:QH} {P:QU->QE->Prop} (e:QS l=.Q7A a b 1) (hs:Q0b a b 1=QM) (hz:0<=XG a b 1) (hl:(Ay a b 1).ZT<=2 ^ 24) (h:P (.QP QO) (Qw (.Qs ((Ay a b 1).map .Qm)))):Ae G d (.imm (.Qk "list")) [.QP l] σ P:=by
 have hB:AD G (.imm (.Qk "list")) [.QP l] σ P:=by
  unfold AD;dsimp only
  rw [QN (by decide),QN (by decide)]
  unfold pTy
  rw [QN (by decide),QN (by decide),QY QA]
  refine ⟨QA,?_⟩;refine By.mk e ?_
  exact ⟨hs,hz,hl,h⟩
 cases d with
 | Q2Q=>exact hB
 | Q2R d=>exact YG hB
theorem Jf {l m:QH} {ps:QC (X3×Tok)} {d:QH} {P:QU->QE->Prop} (h:QS l=.Q4m ps m) (hl:Zg<=Xa) (p:P (.Qm Zg) σ):Ae G d (.imm (.Qd "len")) [.QP l] σ P:=by
 refine A0 ?_
 unfold AD;dsimp only
 rw [QN (by decide),QN (by decide),QY QA]
 refine ⟨QA,.inl ?_⟩
 refine YG (YG (Zy ?_));refine QGk h ?_;exact ⟨hl,p⟩
theorem NZ {l:QH} {ns:QC X3} {d:QH} {P:QU->QE->Prop} (h:QS l=.Qs (Q4J .Qm)) (hb:∀n∈ns,0<=n/\n<=2 ^ 31) (hl:Q2F<=2 ^ 24) (p:P (.Qm QGb) σ):Ae G d (.imm (.Qd "sum")) [.QP l] σ P:=by
 refine A0 ?_
 unfold AD;dsimp only
 rw [QN (by decide),QY QA]
 exact ⟨QA,ns,h,hb,hl,p⟩
theorem Mz {K:Q1A} {l m:QH} {ps:QC (X3×Tok)} {P:Qu->QE->Prop} (h:QS l=.Q4m ps m) (hl:Zg<=Xa) (p:P (!QC8) σ):AC K (.QP l) σ P:=by
 refine YG (YG ?_)
 refine YG ?_;refine QGk h ?_;exact ⟨hl,p⟩
theorem IG {l m:QH} {ps:QC (X3×Tok)} {i:X3} {k:QH} {v:X3×Tok} {P:QU->QE->Prop} (h:QS l=.Q4m ps m) (hi:i=k) (hv:ps[k]?=QB v) (hs:k < 2 ^ 63) (p:P (.Qm v.1) σ):FF (.QP l) (.Qm i) σ P:=by
 subst hi
 have hlt:k < Zg:=(QX hv).1
 refine Zy ⟨⟨by omega,by omega⟩,YG (Zy ?_)⟩;refine QGk h ?_
 exact ⟨k,v,DQ hlt,hv,p⟩
theorem E6 {l:QH} {xs:QC QU} {a b k:QU} {p q r:QW X3} {P:QU->QE->Prop} (h:QS l=.Qs xs) (h1:Bq a=QB p) (h2:Bq b=QB q) (h3:Bq k=QB r) (hk:r≠QB 0) (hl:Qn<=Xa) (z:P (.QP QO) (Qw (.Qs (Bm xs p q r)))):Bs (.QP l) a b k σ P:=by
 refine Zy ?_;refine Q3z h ?_;rw [h1];rw [h2];rw [h3];exact ⟨hk,hl,z⟩
theorem MS {l m:QH} {ps:QC (X3×Tok)} {a b k:QU} {p q r:QW X3} {P:QU->QE->Prop} (h:QS l=.Q4m ps m) (h1:Bq a=QB p) (h2:Bq b=QB q) (h3:Bq k=QB r) (hk:r≠QB 0) (hl:Zg<=Xa) (z:P (.QP QO) (Qw (.Qs (Bm (Q13 fun p=>.Qm p.1) p q r)))):Bs (.QP l) a b k σ P:=by
 refine YG ?_;refine QGk h ?_;rw [h1];rw [h2];rw [h3];exact ⟨hk,hl,z⟩
theorem agn {t:Qf->PT QU} {P:QU->QE->Prop} (h:P .QG σ):EY t QG σ P:=h
theorem agm {t:Qf->PT QU} {e:Qf} {P:QU->QE->Prop} (h:t e σ P):EY t (QB e) σ P:=h
theorem NK {f:Qf->PT QU} {t:Qf->PT Qu} {a:Qf->QU->PT YV} {elt:Qf} {g:Qx} {Xq:QC QU} {Q3D:QE->Prop} {P:YV->QE->Prop} (O:QH->QC QU->QE->Prop)
  (h0:O 0 [] {Qw (.Qs []) with loc:=fun _=>QG}) (hst:∀XF,YP [] σ XF->Q3D XF)
  (Q9J:∀i x XF vs,Xq[i]?=QB x->YP [] σ XF->QO < Xg->X4 QO=.Qs vs->O i vs XF->∀R:QE->Prop,(∀Q5Y vs',YP [] σ Q5Y->QO < Q5y->Q5z QO=.Qs vs'->O (i+1) vs' Q5Y->R Q5Y) ->
   a Q3E x XF fun _ σ1=>BL t .And QBL σ1 fun ok σ1=>(ok=QJ->R σ1)/\(ok=QM->f elt σ1 fun v σ2=>Bx [.QP QO,v] σ2 fun _ σ3=>R σ3))
  (Q4x:∀XF vs,YP [] σ XF->QO < Xg->X4 QO=.Qs vs->O Yc vs XF->P () XF) :
  CO f t a QO elt [g] Xq Q3D {Qw (.Qs []) with loc:=fun _=>QG} P:=by
 refine Ax (fun i XF=>YP [] σ XF/\QO < Xg/\∃vs,X4 QO=.Qs vs/\O i vs XF) (fun _=>Yk) (fun _ _=>Yk) ?_ ?_ (fun i x XF hx hI R hn2 _ _ _=>?_) (fun XF hI=>?_) (fun _ q=>Q2e) (fun _ _ q=>Q2e)
 ·exact ⟨⟨Q1B _,fun l' hl' _=>QN (Y5 hl')⟩,Xx _,[],QY QA,h0⟩
 ·intro i XF hI;exact hst XF hI.1
 ·refine an3 hI fun h1 h2 yq72=>?_;refine ew1 yq72 fun vs yq73=>?_;refine an2 yq73 fun h3 h4=>?_;clear yq72 yq73
  exact Q9J i x XF vs hx h1 h2 h3 h4 (R .YC) fun Q5Y vs' k1 k2 k3 k4=>hn2 Q5Y ⟨k1,k2,vs',k3,k4⟩
 ·refine an3 hI fun h1 h2 yq74=>?_;refine ew1 yq74 fun vs yq75=>?_;refine an2 yq75 fun h3 h4=>?_;clear yq74 yq75
  exact Q4x XF vs h1 h2 h3 h4
end
end
mutual
theorem KN (c m:QH) (h:m < 3):MulOk ⟨#[c]⟩ (m:X3)/\Txt.mul ⟨#[c]⟩ (m:X3)=⟨(Q0x m c).Xe⟩:=by
 rcases lt3 h with QA | QA | QA
 ·exact ⟨⟨by decide,fun h=>Xc (by decide) h,fun h=>Xc (by decide) h⟩,QA⟩
 ·refine ⟨⟨by decide,fun _ h=>?_,fun _ h=>?_⟩,QA⟩ <;> cases h
 ·refine ⟨⟨by decide,fun _ _=>?_,fun _ _=>?_⟩,?_⟩
  ·show ¬((1:QH):X3) > (2 ^ 63 - 1) / ((2:QH):X3)
   decide
  ·exact Yf (by show ¬(2 > Xa);rw [X8];omega)
  ·rfl
theorem OI (a b:QC QH):((⟨QB2⟩:X6)++(⟨QB3⟩:X6))=(⟨(a++b).Xe⟩:X6):=by
 show (⟨QB2++QB3⟩:X6)=_
 rw [List.append_toArray]
end
section
variable {G:Pg} {cal:Av} {n:Nat} {fm:Fm} {σ:Mini.St} {p:Pos}
mutual
theorem JE {l:QH} {xs:QC QU} {cs:QC QH} {i:X3} {P:QU->QE->Prop} (h:QS l=.Qs xs) (hx:xs=QEm fun c:QH=>Q11 c) (h0:0<=i) (h1:i < QAO) (hs:QAO < 1000) (q:∀c∈cs,P (.Qm (c:QH)) σ):FF (.QP l) (.Qm i) σ P:=by
 obtain ⟨k,QA⟩:∃k:QH,i=k:=⟨QGn,aiH h0⟩
 have hk:k < QAO:=by exact (Yg h1)
 refine Ao h QA (v:=.Qm (cs[k]:QH)) ?_ (by exact acA hs hk) (q _ (Q0E hk))
 rw [hx,QT,Qg hk];rfl
theorem Uv {a b:QC QH} {P:QU->QE->Prop} (hl:ZE+Q3r<=100) (h:P (.Xs ⟨(a++b).Xe⟩) σ):CP .Add (.Xs ⟨QB2⟩) (.Xs ⟨QB3⟩) σ P:=by
 refine Uu ?_ ?_
 ·rw [X8];unfold Str.length;simp only [XS];exact acz hl
 ·rw [OI];exact h
def Ec (l:QC QH) (n:QH):Prop:=ZF<=n
theorem aiE {a:QH}:Ec [a] 1:=Qh 1
theorem aiD {m c:QH} (h:m < 3):Ec (Q0x m c) 3:=by unfold Ec;rw [Q08];exact XD h
theorem aiF {a b:QC QH} {n k:QH} (h1:Ec a n) (h2:Ec b k):Ec (a++b) (n+k):=by unfold Ec;rw [Xw];exact QCo h1 h2
theorem agK {a b:QC QH} {n k:QH} {P:QU->QE->Prop} (h1:Ec a n) (h2:Ec b k) (hs:QE9 (n+k) 100=QM) (h:P (.Xs ⟨(a++b).Xe⟩) σ):CP .Add (.Xs ⟨QB2⟩) (.Xs ⟨QB3⟩) σ P:=Uv (Y1 (QCo h1 h2) (Q0z hs)) h
theorem agJ {l k:QH} {xs ys:QC QU} {P:QU->QE->Prop} (h1:QS l=.Qs xs) (h2:QS k=.Qs ys) (hl:QE9 (Qn+ys.length) Xa=QM) (h:P (.QP QO) (Qw (.Qs (xs++ys)))):CP .Add (.QP l) (.QP k) σ P:=J9 h1 h2 (Q0z hl) h
theorem ai2 {c m:QH} {P:QU->QE->Prop} (hm:m < 3) (h:P (.Xs ⟨(Q0x m c).Xe⟩) σ):CP .Mult (.Xs ⟨[c].Xe⟩) (.Qm m) σ P:=by
 refine Ur (KN c m hm).1 ?_
 rw [(KN c m hm).2];exact h
theorem Us {a b:QH} {P:QU->QE->Prop} (hb:(b:X3)≠0) (h:P (.Qm ((a % b:QH):X3)) σ):CP .Mod (.Qm (a:X3)) (.Qm (b:X3)) σ P:=by
 refine af9 hb ?_
 rw [Int.fmod_eq_emod_of_nonneg _ (by exact Yh (LP)),<- Int.natCast_emod];exact h
theorem ai3 {a:QH} {P:QU->QE->Prop} (h:P (.Qm ((a % 2:QH):X3)) σ):CP .Mod (.Qm (a:X3)) (.Qm 2) σ P:=Us (b:=2) (by decide) h
theorem agH {u:QH} {P:QU->QE->Prop} (h:P (.Xs ⟨[35].Xe⟩) σ):ev G YR (n+1) fm (.Q4a (.Xs (Qb "#")) u p) σ P:=by
 refine Uf ?_
 have:Qb "#"=⟨[35].Xe⟩:=by decide +XB
 rw [this];exact h
end
end
end Mini
end
section
set_option genInjectivity false
set_option genSizeOf false
namespace Mini
section
variable {M:Nat->Nat->Bool} {U:Nat->Bool}
mutual
theorem Kf.uniq {w:Win} {i j u u':QH} (h:Kf M U w i j u) (k:Kf M U w i j u'):u=u':=by
 injections M U w i j u u' _ _
 obtain ⟨h1,h2,h3,h4,h5,h6⟩:=h
 obtain ⟨k1,k2,k3,k4,k5,k6⟩:=k
 rcases Q3s u u' with q | q | q
 ·have:=k5 u q
  rw [show i - 1 - u=i - u - 1 by exact L8 h1,show j - 1 - u=j - u - 1 by exact L8 h2]at this
  exact (h6 ⟨by exact Ot k3 q,by exact Ot k4 q,this.1,this.2⟩).Q32
 ·exact q
 ·have:=h5 u' q
  rw [show i - 1 - u'=i - u' - 1 by exact L8 k1,show j - 1 - u'=j - u' - 1 by exact L8 k2]at this
  exact (k6 ⟨by exact Ot h3 q,by exact Ot h4 q,this.1,this.2⟩).Q32
theorem Ke.uniq {w:Win} {i j r r':QH} (h:Ke M U w i j r) (k:Ke M U w i j r'):r=r':=by
 injections M U w i j r r' _ _
 obtain ⟨h1,h2,h3⟩:=h
 obtain ⟨k1,k2,k3⟩:=k
 rcases Q3s r r' with q | q | q
 ·have:=k2 r q
  rcases k1 with k1 | zR
  ·exact Xc q (k1▸Q02 r)
  ·obtain ⟨k4,k5⟩:=zR
   exact (h3 ⟨QQ (Q2z q i) k4,QQ (Q2z q j) k5,this.1,this.2⟩).Q32
 ·exact q
 ·have:=h2 r' q
  rcases h1 with h1 | zR
  ·exact Xc q (h1▸Q02 r')
  ·obtain ⟨h4,h5⟩:=zR
   exact (k3 ⟨QQ (Q2z q i) h4,QQ (Q2z q j) h5,this.1,this.2⟩).Q32
theorem Flm.uniq {w:Win} {i j k i' j' k':QH} (h:Flm M U w i j k) (h':Flm M U w i' j' k'):i=i'/\j=j'/\k=k':=by
 obtain (⟨b,u,r,h1,h2,h3,QA,QA,QA⟩):=h
 obtain (⟨b',u',r',k1,k2,k3,QA,QA,QA⟩):=h'
 have e:=h1.uniq k1
 subst e
 have e:=h2.uniq k2
 subst e
 have e:=h3.uniq k3
 subst e
 exact ⟨QA,QA,QA⟩
theorem Blk.uniq {w:Win} {L:QC Ap} (h:Blk M U w L):∀ {L':QC Ap},Blk M U w L'->L=L':=by
 induction h with
 | leaf hf =>
  intro L' h'
  cases h' with
  | leaf _=>rfl
  | node hf' hk _ _ _ _=>have:=QHO hf';omega
 | @node w i j k l1 l2 hf hk c1 n1 c2 n2 ih1 ih2 =>
  intro L' h'
  cases h' with
  | leaf hf'=>have:=QHO hf';omega
  | @node _ i' j' k' l1' l2' hf' hk' c1' n1' c2' n2' =>
   refine an3 (QHO hf') fun yq03 yq04 yq05=>?_;obtain QA:=yq03;obtain QA:=yq04;obtain QA:=yq05
   have e1:l1=l1':=by
    by_cases q:Xy < i/\Xz < j
    ·exact ih1 q (c1' q)
    ·rw [n1 q,n1' q]
   have e2:l2=l2':=by
    by_cases q:i+k < Q0N/\j+k < Q0F
    ·exact ih2 q (c2' q)
    ·rw [n2 q,n2' q]
   rw [e1,e2]
theorem Gmb.uniq {la lb:QH} {R R':QC Ap} (h:Gmb M U la lb R) (h':Gmb M U la lb R'):R=R':=by
 obtain (⟨L,h1,QA⟩):=h
 obtain (⟨L',k1,QA⟩):=h'
 rw [h1.uniq k1]
end
end
mutual
structure Grow (M M':QH->QH->Qu) (U U':QH->Qu) (e s:QH->QH):Prop where
 e0:e 0=0
 s0:s 0=0
 eup:∀i,e i < e (i+1)
 sup:∀j,s j < s (j+1)
 same:∀i j x y,e i<=x->x < e (i+1)->s j<=y->y < s (j+1)->M' x y=M i j/\U' y=U j
 Q7S:∀i j,M i j=QM->U j=QJ->e (i+1)=e i+1/\s (j+1)=s j+1
 times:∀i j,M i j=QM->e (i+1)+s j=s (j+1)+e i
theorem HA {e:QH->QH} (h:∀i,e i < e (i+1)):∀i n,e i+n<=e (i+n)
 | i,0=>Qh _
 | i,n+1=>by have:=HA h i n;have:=h (i+n);show e i+(n+1)<=e (i+n+1);exact ahl (by assumption) this
theorem BA {e:QH->QH} (h:∀i,e i < e (i+1)) {i j:QH} (q:i<=j):e i+(j - i)<=e j:=by
 have:=HA h i (j - i)
 rwa [show i+(j - i)=j by exact abN q]at this
theorem At {e:QH->QH} (h:∀i,e i < e (i+1)) {i j:QH}:e i < e j↔i < j:=by
 constructor
 ·intro q
  by_cases c:j<=i
  ·have:=BA h c;exact ahk q this
  ·exact Tm c
 ·intro q;have:=BA h (XD q);exact ahj q this
theorem Bo {e:QH->QH} (h:∀i,e i < e (i+1)) {i j:QH}:e i<=e j↔i<=j:=Nat.not_lt.symm.trans ((not_congr (At h)).QR Nat.not_lt)
theorem GW {e:QH->QH} (h:∀i,e i < e (i+1)) {i j:QH}:e i=e j↔i=j:=⟨fun q=>Nat.le_antisymm ((Bo h).mp (QAF q)) ((Bo h).mp (QAF q.symm)),fun q=>q▸QA⟩
theorem DC {e:QH->QH} (h:∀i,e i < e (i+1)) (h0:e 0=0) (x:QH):∃i,e i<=x/\x < e (i+1):=by
 have:∀n,x < e n->∃i,e i<=x/\x < e (i+1):=by
  intro n
  induction n with
  | Q2Q=>intro q;exact Xc (h0▸q) (Q02 x)
  | Q2R n ih =>
   intro q
   by_cases c:x < e n
   ·exact ih c
   ·exact ⟨n,by exact L6 c,q⟩
 have k:=HA h 0 (x+1)
 exact this (0+(x+1)) (by exact ahh k)
theorem Fh {e:QH->QH} (h:∀i,e i < e (i+1)) {i a x:QH} (h1:e i<=x) (h2:x < e (i+1)):e a<=x↔a<=i:=by
 constructor
 ·intro q
  by_cases c:i+1<=a
  ·have:=BA h c;exact ahg h2 q this
  ·exact ahf c
 ·intro q;have:=BA h q;exact ahe h1 this
theorem Mr {e:QH->QH} (h:∀i,e i < e (i+1)) {i a x:QH} (h1:e i<=x) (h2:x < e (i+1)):x < e a↔i < a:=Nat.not_le.symm.trans ((not_congr (Fh h h1 h2)).QR Nat.not_le)
end
section
variable {M M':Nat->Nat->Bool} {U U':Nat->Bool} {e s:Nat->Nat} (g:Grow M M' U U' e s)
include g
mutual
theorem Grow.run0 (a0 b0 i:QH) (ih:∀k,i=k+1->∀j x y,e k<=x->x < e (k+1)->s j<=y->y < s (j+1)->An M' U' (e a0) (s b0) x y=An M U a0 b0 k j) (j x y:QH) (h1:e i<=x) (h2:x < e (i+1)) (h3:s j<=y) (h4:y < s (j+1)):An M' U' (e a0) (s b0) x y=An M U a0 b0 i j:=by
  obtain (⟨m,u⟩):=QEy i j x y h1 h2 h3 h4
  have hq:(M i j=QM/\U j=QJ/\e a0<=x/\s b0<=y)↔(M i j=QM/\U j=QJ/\a0<=i/\b0<=j):=by rw [Fh Q0W h1 h2,Fh Q2B h3 h4]
  rw [AQ,AQ M U,m,u]
  by_cases q:M i j=QM/\U j=QJ/\a0<=i/\b0<=j
  ·rw [QY q,QY (hq.mpr q)]
   obtain (⟨k1,k2⟩):=g.seen i j q.1 q.2.1
   congr 1
   have ex:x=e i:=by exact aaJ h1 h2 k1
   have ey:y=s j:=by exact aaJ h3 h4 k2
   subst ex;subst ey
   cases i with
   | Q2Q=>rw [g.e0];rfl
   | Q2R i =>
    cases j with
    | Q2Q=>rw [g.s0];cases e (i+1) <;> rfl
    | Q2R j =>
     have p1:=Q0W i
     have p2:=Q2B j
     obtain ⟨X,hX⟩:∃X,e (i+1)=X+1:=⟨e (i+1) - 1,by exact aaC p1⟩
     obtain ⟨Y,hY⟩:∃Y,s (j+1)=Y+1:=⟨s (j+1) - 1,by exact aaC p2⟩
     rw [hX,hY]
     exact ih i QA j X Y (by exact aat p1 hX) (by exact aam hX) (by exact aat p2 hY) (by exact aam hY)
  ·rw [QN q,QN fun z=>q (hq.mp z)]
theorem Grow.run (a0 b0:QH):∀(i j x y:QH),e i<=x->x < e (i+1)->s j<=y->y < s (j+1)->An M' U' (e a0) (s b0) x y=An M U a0 b0 i j:=by
 intro i
 induction i with
 | Q2Q=>exact g.run0 a0 b0 0 fun k h=>nomatch h
 | Q2R i ih=>exact g.run0 a0 b0 (i+1) fun k h=>by cases h;exact ih
theorem Grow.dia {p q:QH}:∀ {n:QH},(∀t,t < n->M (p+t) (q+t)=QM)->e (p+n)+s q=s (q+n)+e p
 | 0,_=>by rw [Q0f,Q0f];exact ahd
 | n+1,h=>by
  have ih:=Grow.dia (n:=n) fun t ht=>h t (by exact Le ht)
  have:=g.times _ _ (h n (by exact Hq))
  exact ahc ih this
theorem Grow.diaS {p q:QH}:∀ {n:QH},(∀t,t < n->M (p+t) (q+t)=QM/\U (q+t)=QJ)->e (p+n)=e p+n/\s (q+n)=s q+n
 | 0,_=>⟨QA,QA⟩
 | n+1,h=>by
  have ih:=Grow.diaS (n:=n) fun t ht=>h t (by exact Le ht)
  have:=g.seen _ _ (h n (by exact Hq)).1 (h n (by exact Hq)).2
  exact ⟨WI ih.1 this.1,WI ih.2 this.2⟩
theorem Grow.diaC {p q n:QH} (h:∀t,t < n->M (p+t) (q+t)=QM) {D:QH} (hD:e p+D < e (p+n)):∃t,t < n/\e (p+t)<=e p+D/\e p+D < e (p+t+1)/\s (q+t)<=s q+D/\s q+D < s (q+t+1):=by
 refine ew1 (DC Q0W g.e0 (e p+D)) fun i yq06=>?_;refine an2 yq06 fun h1 h2=>?_;clear yq06
 have a1:=(Fh Q0W h1 h2 (a:=p)).mp (Q6K _ _)
 have a2:=(Mr Q0W h1 h2 (a:=p+n)).mp hD
 obtain ⟨t,QA⟩:∃t,i=p+t:=⟨i - p,by exact ahb a1⟩
 have d1:=g.dia (p:=p) (q:=q) (n:=t) fun u hu=>h u (by exact aha a2 hu)
 have d2:=g.dia (p:=p) (q:=q) (n:=t+1) fun u hu=>h u (by exact ag9 a2 hu)
 rw [<- Q2I,<- Q2I]at d2
 exact ⟨t,by exact ag8 a2,h1,h2,by exact ag7 h1 d1,by exact ag6 h2 d2⟩
def mvW (e s:QH->QH) (w:Win):Win:=⟨e Xy,e Q0N,s Xz,s Q0F⟩
omit g in
theorem KM (w:Win):(mvW e s w).alo=e Xy:=QA
omit g in
theorem KL (w:Win):(mvW e s w).blo=s Xz:=QA
theorem Grow.cells {w:Win} {i j x y:QH} (h1:e i<=x) (h2:x < e (i+1)) (h3:s j<=y) (h4:y < s (j+1)):(mvW e s w).cells x y↔QBn i j:=by
 unfold QB1 mvW
 rw [Fh Q0W h1 h2,Mr Q0W h1 h2,Fh Q2B h3 h4,Mr Q2B h3 h4]
theorem Grow.runE {a0 b0 x y:QH} (h:0 < An M U a0 b0 x y):e (x+1 - An M U a0 b0 x y)+An M U a0 b0 x y=e (x+1)/\s (y+1 - An M U a0 b0 x y)+An M U a0 b0 x y=s (y+1)/\e (x+1)=e x+1/\s (y+1)=s y+1:=by
 injections M M' U U' e s _ a0 b0 x y _
 generalize hr:An M U a0 b0 x y=r at *
 have c:=fun t (ht:t < r)=>DD M U a0 b0 x y t (by exact Tl hr ht)
 have c0:=c 0 h
 have cl:=c (r - 1) (by exact zq6 h)
 have d:=g.diaS (p:=x+1 - r) (q:=y+1 - r) (n:=r) fun t ht=>by
  refine an7 (c (r - 1 - t) (by exact V1 ht)) fun z1 z2 z3 z4 z5 z6 _=>?_
  rw [show x+1 - r+t=x - (r - 1 - t) by exact VS cl.1 ht,show y+1 - r+t=y - (r - 1 - t) by exact VS cl.2.1 ht]
  exact ⟨z5,z6⟩
 rw [show x+1 - r+r=x+1 by exact VK cl.2.2.1,show y+1 - r+r=y+1 by exact VK cl.2.2.2.1]at d
 have:=g.seen x y c0.2.2.2.2.1 c0.2.2.2.2.2.1
 exact ⟨VE d.1,VE d.2,Vu this.1,Vu this.2⟩
theorem Grow.bst {w:Win} {b:QH×QH×QH} (h:Bst M U Xy Xz QBn b):Bst M' U' (mvW e s w).alo (mvW e s w).blo (mvW e s w).cells (e b.1,s b.2.1,b.2.2):=by
 injections M M' U U' e s _ w b _
 rw [KM,KL]
 rcases h with zR | zR
 ·obtain ⟨QA,h⟩:=zR
  refine .inl ⟨QA,?_⟩;intros x y q
  obtain ⟨i,i1,i2⟩:=(DC Q0W g.e0 x)
  obtain ⟨j,j1,j2⟩:=(DC Q2B g.s0 y)
  rw [g.run _ _ i j x y i1 i2 j1 j2]
  exact h i j ((QEz i1 i2 j1 j2).mp q)
 ·obtain ⟨x,y,h1,h2,QA,h3,h4⟩:=zR
  obtain ⟨f1,f2,f3,f4⟩:=(g.runE h2)
  have er:=g.run Xy Xz x y (e x) (s y) (Qh _) (Q0W x) (Qh _) (Q2B y)
  refine .inr ⟨e x,s y,(QEz (Qh _) (Q0W x) (Qh _) (Q2B y)).mpr h1,by rw [er];exact h2,?_,?_,?_⟩
  ·rw [er]
   show (e (x+1 - _),s (y+1 - _),_)=_
   have hl:=DR M U _ _ _ _ h2
   rw [show e (x+1 - An M U Xy Xz x y)=e x+1 - An M U Xy Xz x y by exact Vr f1 f3,show s (y+1 - An M U Xy Xz x y)=s y+1 - An M U Xy Xz x y by exact Vr f2 f4]
  ·intros x' y' q
   obtain ⟨i,i1,i2⟩:=(DC Q0W g.e0 x')
   obtain ⟨j,j1,j2⟩:=(DC Q2B g.s0 y')
   rw [er,g.run _ _ i j x' y' i1 i2 j1 j2]
   exact h3 i j ((QEz i1 i2 j1 j2).mp q)
  ·intros x' y' q l
   obtain ⟨i,i1,i2⟩:=(DC Q0W g.e0 x')
   obtain ⟨j,j1,j2⟩:=(DC Q2B g.s0 y')
   rw [er,g.run _ _ i j x' y' i1 i2 j1 j2]
   refine h4 i j ((QEz i1 i2 j1 j2).mp q) ?_
   have a1:=At Q0W (i:=i) (j:=x)
   have a2:=At Q2B (i:=j) (j:=y)
   rcases l with l | zR
   ·left;exact a1.mp (by exact Os i1 l)
   ·obtain ⟨QA,l⟩:=zR
    right
    refine ⟨?_,a2.mp (by exact Os j1 l)⟩
    have a3:=(Fh Q0W i1 i2 (a:=x)).mp (Qh _)
    have a4:=(Bo Q0W (i:=i) (j:=x)).mp i1
    exact ag5 a3 a4
theorem Grow.lft {w:Win} {i j u:QH} (h:Kf M U w i j u):Kf M' U' (mvW e s w) (e i) (s j) (e i - e (i - u))/\e i+s (j - u)=s j+e (i - u):=by
 injections M M' U U' e s _ w i j u _
 obtain ⟨h1,h2,h3,h4,h5,h6⟩:=h
 have hc:∀t,t < u->M (i - u+t) (j - u+t)=QM/\U (j - u+t)=QM:=by
  intros t ht
  have:=h5 (u - 1 - t) (by exact V1 ht)
  rwa [show i - 1 - (u - 1 - t)=i - u+t by exact Vk h1 ht,show j - 1 - (u - 1 - t)=j - u+t by exact Vk h2 ht]at this
 have d:=g.dia (p:=i - u) (q:=j - u) (n:=u) fun t ht=>(hc t ht).1
 rw [show i - u+u=i by exact Tk h1,show j - u+u=j by exact Tk h2]at d
 have m1:=BA Q0W (i:=i - u) (j:=i) (by exact Ld)
 have m2:=BA Q2B (i:=j - u) (j:=j) (by exact Ld)
 have m3:=(Bo Q0W (i:=Xy) (j:=i - u)).mpr (by exact ada h3)
 have m4:=(Bo Q2B (i:=Xz) (j:=j - u)).mpr (by exact ada h4)
 refine ⟨⟨by exact Ld,by exact ag4 d,?_,?_,?_,?_⟩,d⟩
 ·exact ag3 m1 m3
 ·exact ag2 d m1 m4
 ·intros t ht
  obtain ⟨t0,k1,k2,k3,k4,k5⟩:=g.diaC (p:=i - u) (q:=j - u) (n:=u) (fun t ht=>(hc t ht).1) (D:=e i - e (i - u) - 1 - t) (by rw [show i - u+u=i by exact Tk h1];exact ag1 ht)
  have:=QEy (i - u+t0) (j - u+t0) (e i - 1 - t) (s j - 1 - t) (by exact VC h3 h4 m1 ht k1 k2) (by exact VB h3 h4 m1 ht k1 k3) (by exact VA h3 h4 d m1 ht k1 k4) (by exact Vz h3 h4 d m1 ht k1 k5)
  rw [this.1,this.2]
  exact hc t0 k1
 ·intros Q2T
  obtain ⟨q1,q2,q3,q4⟩:=Q2T
  have q1':e Xy < e (i - u):=by rw [KM]at q1;exact ag0 m1 q1
  have q2':s Xz < s (j - u):=by rw [KL]at q2;exact agZ d m1 q2
  have r1:=(At Q0W).mp q1'
  have r2:=(At Q2B).mp q2'
  have p1:=Q0W (i - u - 1)
  have p2:=Q2B (j - u - 1)
  rw [show i - u - 1+1=i - u by exact Oq r1]at p1
  rw [show j - u - 1+1=j - u by exact Oq r2]at p2
  have:=QEy (i - u - 1) (j - u - 1) (e i - (e i - e (i - u)) - 1) (s j - (e i - e (i - u)) - 1) (by exact Vy m1 p1) (by rw [show i - u - 1+1=i - u by exact Oq r1];exact agY q1) (by exact Vx d m1 q2 p2) (by rw [show j - u - 1+1=j - u by exact Oq r2];exact agX d q2)
  rw [this.1]at q3
  rw [this.2]at q4
  exact h6 ⟨r1,r2,q3,q4⟩
theorem Grow.rgt {w:Win} {i j r:QH} (h:Ke M U w i j r):Ke M' U' (mvW e s w) (e i) (s j) (e (i+r) - e i)/\e (i+r)+s j=s (j+r)+e i:=by
 injections M M' U U' e s _ w i j r _
 obtain ⟨h1,h2,h3⟩:=h
 have d:=g.dia (p:=i) (q:=j) (n:=r) fun t ht=>(h2 t ht).1
 have m1:=BA Q0W (i:=i) (j:=i+r) (by exact Gc)
 have m2:=BA Q2B (i:=j) (j:=j+r) (by exact Gc)
 refine ⟨⟨?_,?_,?_⟩,d⟩
 ·rcases h1 with QA | zR
  ·left;rw [Q0f];exact agW
  ·obtain ⟨h1,h1'⟩:=zR
   right
   have:=(Bo Q0W).mpr h1
   have:=(Bo Q2B).mpr h1'
   exact ⟨agV m1 (by assumption),agU d m1 this⟩
 ·intros t ht
  obtain ⟨t0,k1,k2,k3,k4,k5⟩:=g.diaC (p:=i) (q:=j) (n:=r) (fun t ht=>(h2 t ht).1) (D:=t) (by exact UQ ht)
  have:=QEy (i+t0) (j+t0) (e i+t) (s j+t) (by omega) (by omega) (by omega) (by omega)
  rw [this.1,this.2]
  exact h2 t0 k1
 ·intros Q6g
  obtain ⟨q1,q2,q3,q4⟩:=Q6g
  have q1':e (i+r) < e Q0N:=by unfold mvW at q1;dsimp only at q1;exact agT q1
  have q2':s (j+r) < s Q0F:=by unfold mvW at q2;dsimp only at q2;exact agS d m1 q2
  have p1:=Q0W (i+r)
  have p2:=Q2B (j+r)
  have:=QEy (i+r) (j+r) (e i+(e (i+r) - e i)) (s j+(e (i+r) - e i)) (by exact agR) (by exact agQ m1 p1) (by exact agP d) (by exact agO d m1 p2)
  rw [this.1]at q3
  rw [this.2]at q4
  exact h3 ⟨(At Q0W).mp q1',(At Q2B).mp q2',q3,q4⟩
theorem Grow.flm {w:Win} {i j k:QH} (h:Flm M U w i j k) (ha:Xy<=Q0N) (hb:Xz<=Q0F):Flm M' U' (mvW e s w) (e i) (s j) (e (i+k) - e i)/\e (i+k)+s j=s (j+k)+e i:=by
 injections M M' U U' e s _ w i j k _ _ _
 obtain ⟨b,u,r,h1,h2,h3,QA,QA,QA⟩:=h
 have b1:=g.bst h1
 obtain ⟨l1,l2⟩:=g.lft h2
 obtain ⟨r1,r2⟩:=g.rgt h3
 have hd:e (b.1+b.2.2)=e b.1+b.2.2/\s (b.2.1+b.2.2)=s b.2.1+b.2.2:=by
  rcases h1 with zR | zR
  ·obtain ⟨QA,_⟩:=zR
   exact ⟨QA,QA⟩
  ·obtain ⟨x,y,_,c2,QA,_⟩:=zR
   have hl:=DR M U _ _ _ _ c2
   obtain ⟨f1,f2,f3,f4⟩:=(g.runE c2)
   rw [show x+1 - An M U Xy Xz x y+An M U Xy Xz x y=x+1 by exact Ou hl.1,show y+1 - An M U Xy Xz x y+An M U Xy Xz x y=y+1 by exact Ou hl.2]
   exact ⟨UP f1,UP f2⟩
 obtain ⟨k1,k2,_⟩:=h2
 have e1:b.1 - u+(b.2.2+u+r)=b.1+b.2.2+r:=by exact UO k1
 have e2:b.2.1 - u+(b.2.2+u+r)=b.2.1+b.2.2+r:=by exact UO k2
 have m1:=BA Q0W (i:=b.1 - u) (j:=b.1) (by exact Ld)
 have m2:=BA Q0W (i:=b.1+b.2.2) (j:=b.1+b.2.2+r) (by exact agN)
 have m3:=BA Q2B (i:=b.2.1 - u) (j:=b.2.1) (by exact Ld)
 rw [e1,e2]
 refine ⟨⟨(e b.1,s b.2.1,b.2.2),e b.1 - e (b.1 - u),e (b.1+b.2.2+r) - e (b.1+b.2.2),b1,l1,?_,?_,?_,?_⟩,by exact agM l2 r2 hd.1 hd.2⟩
 ·skip
  rw [<- hd.1,<- hd.2]
  exact r1
 ·exact Vw e1 e2 m1
 ·exact Vv l2 e1 e2 m1
 ·exact Vt hd.1 e1 e2 m1 m2
def mvT (e s:QH->QH) (t:Ap):Ap:=(e t.1,s t.2.1,e (t.1+t.2.2) - e t.1)
def Jl (e s:QH->QH) (t:Ap):Prop:=e (t.1+t.2.2)+s t.2.1=s (t.2.1+t.2.2)+e t.1
theorem Grow.blk {w:Win} {L:QC Ap} (h:Blk M U w L):Xy<=Q0N->Xz<=Q0F->Blk M' U' (mvW e s w) (L.map (mvT e s))/\∀t∈L,Jl e s t:=by
 induction h with
 | leaf hf =>
  intro ha hb
  have:=(g.flm hf ha hb).1
  rw [Q0f,Q76]at this
  exact ⟨.leaf this,fun t q=>(by cases q)⟩
 | @node w i j k l1 l2 hf hk c1 n1 c2 n2 ih1 ih2 =>
  intro ha hb
  obtain (⟨hf',hg⟩):=g.flm hf ha hb
  have m1:=BA Q0W (i:=i) (j:=i+k) (by exact Gc)
  have m2:=BA Q2B (i:=j) (j:=j+k) (by exact Gc)
  have x1:e i+(e (i+k) - e i)=e (i+k):=by exact SZ m1
  have x2:s j+(e (i+k) - e i)=s (j+k):=by exact SY hg x1
  refine ⟨?_,fun t ht=>?_⟩
  ·rw [Qt,XR]
   refine .node hf' (by show 0 < e (i+k) - e i;exact aeH hk m1 x1) (fun q=>?_) (fun q=>?_) (fun q=>?_) (fun q=>?_)
   ·have q':Xy < i/\Xz < j:=⟨(At Q0W).mp q.1,(At Q2B).mp q.2⟩
    exact (ih1 q' (XD q'.1) (XD q'.2)).1
   ·rw [n1 fun r=>q ⟨(At Q0W).mpr r.1,(At Q2B).mpr r.2⟩];rfl
   ·rw [x1,x2]at q ⊢
    have q':i+k < Q0N/\j+k < Q0F:=⟨(At Q0W).mp q.1,(At Q2B).mp q.2⟩
    exact (ih2 q' (XD q'.1) (XD q'.2)).1
   ·rw [x1,x2]at q
    rw [n2 fun r=>q ⟨(At Q0W).mpr r.1,(At Q2B).mpr r.2⟩];rfl
  ·rcases Y3 ht with q | q
   ·by_cases c:Xy < i/\Xz < j
    ·exact (ih1 c (XD c.1) (XD c.2)).2 t q
    ·rw [n1 c]at q;cases q
   ·rcases XP q with QA | q
    ·exact hg
    ·by_cases c:i+k < Q0N/\j+k < Q0F
     ·exact (ih2 c (XD c.1) (XD c.2)).2 t q
     ·rw [n2 c]at q;cases q
theorem QGD:∀(L:QC Ap) (c:Ap),Jl e s c->(∀t∈L,Jl e s t)->Q5V (mvT e s c) (L.map (mvT e s))=(Q5V c L).map (mvT e s)
 | [],c,hc,_=>by
  have:=At Q0W (i:=c.1) (j:=c.1+c.2.2)
  rw [Q4w,Q5V,Q5V]
  by_cases q:c.2.2=0
  ·rw [QY q,QY (by unfold mvT;dsimp only;rw [q];simp)];rfl
  ·rw [QN q,QN (show ¬(mvT e s c).2.2=0 from Nat.sub_ne_zero_of_lt (this.mpr (Nat.lt_add_of_pos_right (Q5H q))))];rfl
 | t::r,c,hc,h=>by
  have ht:=h t (.Zc _)
  have m1:=BA Q0W (i:=c.1) (j:=c.1+c.2.2) (by exact Gc)
  have m2:=BA Q0W (i:=t.1) (j:=t.1+t.2.2) (by exact Gc)
  have m3:=BA Q2B (i:=c.2.1) (j:=c.2.1+c.2.2) (by exact Gc)
  unfold Jl at hc ht
  have x1:e c.1+(e (c.1+c.2.2) - e c.1)=e (c.1+c.2.2):=by exact SZ m1
  have x2:s c.2.1+(e (c.1+c.2.2) - e c.1)=s (c.2.1+c.2.2):=by exact SY hc x1
  have y1:=GW Q0W (i:=c.1+c.2.2) (j:=t.1)
  have y2:=GW Q2B (i:=c.2.1+c.2.2) (j:=t.2.1)
  rw [XR,Q5V,Q5V]
  have e1:((mvT e s c).1+(mvT e s c).2.2=(mvT e s t).1/\(mvT e s c).2.1+(mvT e s c).2.2=(mvT e s t).2.1)↔(c.1+c.2.2=t.1/\c.2.1+c.2.2=t.2.1):=by
   unfold mvT;dsimp only
   rw [x1,x2,y1,y2]
  by_cases q:c.1+c.2.2=t.1/\c.2.1+c.2.2=t.2.1
  ·rw [QY q,QY (e1.mpr q)]
   have z1:c.1+(c.2.2+t.2.2)=t.1+t.2.2:=by exact SX q.1
   have z2:c.2.1+(c.2.2+t.2.2)=t.2.1+t.2.2:=by exact SX q.2
   have w1:e (c.1+c.2.2)=e t.1:=by rw [q.1]
   have w2:s (c.2.1+c.2.2)=s t.2.1:=by rw [q.2]
   have hm:mvT e s (c.1,c.2.1,c.2.2+t.2.2)=((mvT e s c).1,(mvT e s c).2.1,(mvT e s c).2.2+(mvT e s t).2.2):=by
    unfold mvT;dsimp only
    rw [z1]
    have:e (t.1+t.2.2) - e c.1=e (c.1+c.2.2) - e c.1+(e (t.1+t.2.2) - e t.1):=by exact Vs m2 x1 w1
    rw [this]
   rw [<- hm]
   exact QGD r _ (by unfold Jl;dsimp only;rw [z1,z2];exact aeG hc ht w1 w2) fun u hu=>h u (.Q31 _ hu)
  ·rw [QN q,QN fun x=>q (e1.mp x),Qt,QGD r t ht fun u hu=>h u (.Q31 _ hu)]
   congr 1
   have:=At Q0W (i:=c.1) (j:=c.1+c.2.2)
   by_cases z:c.2.2=0
   ·rw [QY z,QY (by unfold mvT;dsimp only;rw [z];simp)];rfl
   ·rw [QN z,QN (by unfold mvT;dsimp only;exact aeF m1 x1 z)];rfl
theorem Grow.gmb {la lb:QH} {R:QC Ap} (h:Gmb M U la lb R):Gmb M' U' (e la) (s lb) (R.map (mvT e s))/\∃n,n<=la/\∀L',Blk M' U' ⟨0,e la,0,s lb⟩ L'->L'.length=n:=by
 injections M M' U U' e s _ la lb R _
 obtain ⟨L,hB,QA⟩:=h
 obtain ⟨k1,k2⟩:=g.blk hB (XT _) (XT _)
 have hw:mvW e s ⟨0,la,0,lb⟩=⟨0,e la,0,s lb⟩:=by unfold mvW;dsimp only;rw [g.e0,g.s0]
 rw [hw]at k1
 have hc:mvT e s (0,0,0)=(0,0,0):=by unfold mvT;dsimp only;rw [g.e0,g.s0]
 have hm:=g.mrg L (0,0,0) (by show e (0+0)+s 0=s (0+0)+e 0;rw [Q0f,g.e0,g.s0]) k2
 rw [hc]at hm
 refine ⟨⟨_,k1,?_⟩,Q6b,?_,?_⟩
 ·rw [Qt,<- hm]
  congr 1
  show [mvT e s (la,lb,0)]=_
  unfold mvT;dsimp only
  rw [Q0f,Q76]
 ·have Q9V:=QB4 (XT _) (XT _)
  have:=CJ (L:=L) (a:=0) (n:=la) (fun t ht=>by have:=Q9V.1 t ht;dsimp only at this;exact ⟨zq8,DK this.2.1,Lf this.2.2.2.2⟩) (Q9V.2.imp fun r=>r.1)
  omega
 ·intros L' h'
  rw [h'.uniq k1,QK]
end
end
section
variable (M:Nat->Nat->Bool) (U:Nat->Bool)
noncomputable def Gap (x y i j:Nat):Prop:=M x y=false/\∀u v,x<=u->u < i->y<=v->v < j->¬(M u v=true/\U v=false)
noncomputable def CQ (hi hj:Nat):Nat->Nat->List Ap->Prop
 | x,y,[]=>x < hi/\y < hj->Gap M U x y hi hj
 | x,y,t::r=>(x < t.1/\y < t.2.1->Gap M U x y t.1 t.2.1/\M (t.1 - 1) (t.2.1 - 1)=false)/\CQ hi hj (t.1+t.2.2) (t.2.1+t.2.2) r
variable {M U}
mutual
theorem CQ.app {hi hj i j k a b:QH} {l2:QC Ap} (hl:a < i/\b < j->M (i - 1) (j - 1)=QM->U (j - 1)=QJ) (h2:CQ M U hi hj (i+k) (j+k) l2) :
  ∀ {x y:QH} {l1:QC Ap},a<=x->b<=y->(∀t∈l1,a<=t.1/\b<=t.2.1)->CQ M U i j x y l1->CQ M U hi hj x y (l1++(i,j,k)::l2)
 | x,y,[],hx,hy,_,h=>by
  refine ⟨fun q=>⟨h q,?_⟩,h2⟩
  dsimp only at q ⊢
  cases hm:M (i - 1) (j - 1) with
  | QJ=>rfl
  | QM=>exact ((h q).2 (i - 1) (j - 1) (by exact SW q.1) (by exact SV q.1) (by exact SW q.2) (by exact SV q.2) ⟨hm,hl (by exact ⟨Os hx q.1,Os hy q.2⟩) hm⟩).Q32
 | x,y,t::r,hx,hy,ht,h=>⟨h.1,CQ.app hl h2 (by have:=ht t (.Zc _);exact SU this.1) (by have:=ht t (.Zc _);exact SU this.2) (fun u hu=>ht u (.Q31 _ hu)) h.2⟩
theorem Flm.leaf {w:Win} {i j:QH} (h:Flm M U w i j 0) (ha:Xy<=Q0N) (hb:Xz<=Q0F):Xy < Q0N/\Xz < Q0F->Gap M U Xy Xz Q0N Q0F:=by
 injections M U w i j _ _ _
 intros q
 obtain ⟨b,u,r,h1,h2,h3,QA,QA,h4⟩:=h
 have h4:b.2.2=0/\u=0/\r=0:=by exact ⟨aeE h4,aeD h4,aeC h4⟩
 rcases h1 with zR | zR
 ·obtain ⟨QA,h1⟩:=zR
  obtain ⟨_,QA,QA⟩:=h4
  have hn:∀u v,Xy<=u->u < Q0N->Xz<=v->v < Q0F->¬(M u v=QM/\U v=QJ):=by
   intros u v a1 a2 a3 a4 m
   have:=h1 u v ⟨a1,a2,a3,a4⟩
   rw [AQ,QY ⟨m.1,m.2,a1,a3⟩]at this
   exact adB this
  refine ⟨?_,hn⟩
  cases hm:M Xy Xz with
  | QJ=>rfl
  | QM =>
   cases hu:U Xz with
   | QJ=>exact (hn _ _ (Qh _) q.1 (Qh _) q.2 ⟨hm,hu⟩).Q32
   | QM=>exact (h3.2.2 ⟨q.1,q.2,hm,hu⟩).Q32
 ·obtain ⟨x,y,c1,c2,QA,_⟩:=zR
  have:=h4.1;dsimp only at this;omega
theorem Blk.gaps {w:Win} {L:QC Ap} (h:Blk M U w L):Xy<=Q0N->Xz<=Q0F->CQ M U Q0N Q0F Xy Xz L:=by
 induction h with
 | leaf hf=>intro ha hb;exact hf.leaf ha hb
 | @node w i j k l1 l2 hf hk c1 n1 c2 n2 ih1 ih2 =>
  intro ha hb
  have hi:=QDz ha hb
  refine CQ.app (a:=Xy) (b:=Xz) (fun c hm=>?_) ?_ (Qh _) (Qh _) (fun t ht=>?_) ?_
  ·obtain (⟨b,u,r,h1,h2,h3,QA,QA,QA⟩):=hf
   cases hu:U (b.2.1 - u - 1) with
   | QJ=>rfl
   | QM=>exact (h2.2.2.2.2.2 ⟨c.1,c.2,hm,hu⟩).Q32
  ·by_cases c:i+k < Q0N/\j+k < Q0F
   ·exact ih2 c (XD c.1) (XD c.2)
   ·rw [n2 c];intro q;exact (c q).Q32
  ·by_cases c:Xy < i/\Xz < j
   ·have:=((c1 c).inside (XD c.1) (XD c.2)).1 t ht
    exact ⟨Hr this.1,Hr this.2.2.1⟩
   ·rw [n1 c]at ht;cases ht
  ·by_cases c:Xy < i/\Xz < j
   ·exact ih1 c (XD c.1) (XD c.2)
   ·rw [n1 c];intro q;exact (c q).Q32
theorem QF0 {hi hj:QH}:∀ {L:QC Ap} {c:Ap} {x y:QH},(∀t∈L,0 < t.2.2)->(c.2.2=0->c.1=x/\c.2.1=y)->(x < c.1/\y < c.2.1->Gap M U x y c.1 c.2.1/\M (c.1 - 1) (c.2.1 - 1)=QJ)->CQ M U hi hj (c.1+c.2.2) (c.2.1+c.2.2) L->CQ M U hi hj x y (mrg c L)
 | [],c,x,y,_,h0,hg,h=>by
  unfold Q5V
  by_cases q:c.2.2=0
  ·rw [QY q]
   rw [q]at h
   obtain (⟨QA,QA⟩):=h0 q
   exact h
  ·rw [QN q];exact ⟨hg,h⟩
 | t::r,c,x,y,hp,h0,hg,h=>by
  have tp:=hp t (.Zc _)
  unfold Q5V
  by_cases q:c.1+c.2.2=t.1/\c.2.1+c.2.2=t.2.1
  ·rw [QY q]
   refine QF0 (fun u hu=>hp u (.Q31 _ hu)) (fun z=>?_) hg ?_
   ·exact ⟨SS tp z,SS tp z⟩
   ·have:=h.2
    rwa [<- q.1,<- q.2,Q2I,Q2I]at this
  ·rw [QN q]
   by_cases z:c.2.2=0
   ·rw [QY z]
    obtain (⟨QA,QA⟩):=h0 z
    rw [z]at h
    exact QF0 (fun u hu=>hp u (.Q31 _ hu)) (fun z=>by exact ⟨PQ tp z,PQ tp z⟩) h.1 h.2
   ·rw [QN z]
    exact ⟨hg,QF0 (fun u hu=>hp u (.Q31 _ hu)) (fun z=>by exact ⟨PP tp z,PP tp z⟩) h.1 h.2⟩
def Jm (M:QH->QH->Qu) (U:QH->Qu):QH->QH->QC Ap->Prop
 | _,_,[]=>Q3x
 | x,y,t::r=>(x < t.1/\y < t.2.1->Gap M U x y t.1 t.2.1/\(0 < t.2.2->M (t.1 - 1) (t.2.1 - 1)=QJ))/\Jm M U (t.1+t.2.2) (t.2.1+t.2.2) r
theorem CQ.ends {hi hj:QH}:∀ {L:QC Ap} {x y:QH},CQ M U hi hj x y L->Jm M U x y (L++[(hi,hj,0)])
 | [],x,y,h=>⟨fun q=>⟨h q,fun z=>Xc z (XY _)⟩,ZN⟩
 | t::r,x,y,h=>⟨fun q=>⟨(h.1 q).1,fun _=>(h.1 q).2⟩,CQ.ends h.2⟩
theorem Gmb.gaps {la lb:QH} {R:QC Ap} (h:Gmb M U la lb R):Jm M U 0 0 R:=by
 obtain (⟨L,hB,QA⟩):=h
 have Q9V:=QB4 (XT _) (XT _)
 exact (QF0 (c:=(0,0,0)) (x:=0) (y:=0) (fun t ht=>(Q9V.1 t ht).2.2.2.2) (fun _=>⟨QA,QA⟩) (fun q=>Xc q.1 (XY _)) (hB.gaps (XT _) (XT _))).ends
end
end
end Mini
end
section
namespace Mini
noncomputable def eOf (tm:Nat->Nat) (a:List Nat) (i:Nat):Nat:=((a.take i).map tm).sum+(i - a.length)
noncomputable def grown {α:Type} (tm:Nat->Nat) (f:Nat->α) (a:List Nat):List α:=a.flatMap fun k=>List.replicate (tm k) (f k)
section
variable {tm:Nat->Nat}
mutual
theorem C8 (a:QC QH):eOf tm a 0=0:=by unfold eOf;simp
theorem Cz (k:QH) (a:QC QH) (i:QH):eOf tm (k::a) (i+1)=tm k+eOf tm a i:=by
 unfold eOf
 rw [Q8e,XR,Zr,XZ];exact aeB
def Gh (tm:QH->QH) (a:QC QH) (i:QH):QH:=match a[i]? with
 | QB k=>tm k
 | QG=>1
theorem Cy:∀(a:QC QH) (i:QH),eOf tm a (i+1)=eOf tm a i+Gh tm a i
 | [],i=>by unfold eOf Gh;simp
 | k::a,0=>by rw [Cz,C8,C8];unfold Gh;simp
 | k::a,i+1=>by
  rw [Cz,Cz,Cy a i]
  have:Gh tm (k::a) (i+1)=Gh tm a i:=by unfold Gh;rw [Q6c]
  exact aeA this
theorem JX (ht:∀k,1<=tm k) (a:QC QH) (i:QH):eOf tm a i < eOf tm a (i+1):=by
 rw [Cy]
 have:1<=Gh tm a i:=by unfold Gh;split;exact ht _;exact Qh _
 exact aez this
theorem Ep {α:Type} (f:QH->α):∀(a:QC QH) (i x:QH),eOf tm a i<=x->x < eOf tm a (i+1)->(Q0G tm f a)[x]?=(a[i]?).map f
 | [],i,x,_,_=>by simp [Q0G]
 | k::a,0,x,_,h=>by
  rw [Cz,C8]at h
  unfold Q0G
  rw [Q0R,Q5d (by rw [Q08];omega),List.getElem?_replicate,QY (by omega)];rfl
 | k::a,i+1,x,h,h2=>by
  rw [Cz]at h h2
  have ih:=Ep f a i (x - tm k) (by exact aey h) (by exact aex h h2)
  unfold Q0G at ih ⊢
  rw [Q0R,Q5W (by rw [Q08];exact GQ h),Q08,ih,Q6c]
theorem Dj {α:Type} (f:QH->α):∀(a:QC QH),(Q0G tm f a).ZT=eOf tm a ZE
 | []=>by simp [Q0G,eOf]
 | k::a=>by
  rw [XZ,Cz,<- Dj f a]
  unfold Q0G
  rw [Q0R,Xw,Q08]
theorem JY (hb:∀k,tm k<=3) (a:QC QH):eOf tm a ZE<=3*ZE:=by
 unfold eOf
 rw [Q0r,Q76]
 induction a with
 | Zl=>simp
 | Xu k a ih=>rw [XR,Zr,XZ];have:=hb k;exact aew ih this
end
end
section
variable {α β:Type} [DecidableEq α] [DecidableEq β]
mutual
def Mq (A B:QC α) (i j:QH):Qu:=match A[i]?,B[j]? with
 | QB x,QB y=>XV (x=y)
 | _,_=>QJ
def Uq (B:QC α) (J:α->Qu) (j:QH):Qu:=match B[j]? with
 | QB x=>J x
 | QG=>QJ
theorem H2 (f:QH->α) (a b:QC QH) (i j:QH) (hf:∀x∈a,∀y∈b,f x=f y->x=y):Mq (a.map f) (b.map f) i j=Mq a b i j:=by
 unfold Mq
 rw [QT,QT]
 cases e1:a[i]? with
 | QG=>rfl
 | QB x =>
  cases e2:b[j]? with
  | QG=>rfl
  | QB y =>
   have:=hf x (XE e1) y (XE e2)
   exact Q1N ⟨this,fun h=>by rw [h]⟩
theorem Pf {tm:QH->QH} {f:QH->α} {g:QH->β} {J:α->Qu} {J':β->Qu} {a b:QC QH} (ht:∀k,1<=tm k) (hs:∀k,k < 3->tm k=1) (hf:∀x∈a,∀y∈b,f x=f y->x=y) (hg:∀x∈a,∀y∈b,g x=g y->x=y)
  (hJ:∀y∈b,J (f y)=XV (2 < y)) (hJ':∀y∈b,J' (g y)=XV (2 < y)) :
  Grow (Mq (a.map f) (b.map f)) (Mq (Q0G tm g a) (Q0G tm g b)) (Uq (b.map f) J) (Uq (Q0G tm g b) J') (eOf tm a) (eOf tm b) where
 e0:=C8 a
 s0:=C8 b
 eup:=JX ht a
 sup:=JX ht b
 same:=fun i j x y h1 h2 h3 h4=>by
  rw [H2 f a b i j hf]
  unfold Mq Uq
  rw [Ep g a i x h1 h2,Ep g b j y h3 h4,QT]
  cases e2:b[j]? with
  | QG=>cases a[i]? <;> exact ⟨QA,QA⟩
  | QB y =>
   refine ⟨?_,?_⟩
   ·cases e1:a[i]? with
    | QG=>rfl
    | QB x =>
     have:=hg x (XE e1) y (XE e2)
     exact Q1N ⟨this,fun h=>by rw [h]⟩
   ·show J' (g y)=J (f y)
    rw [hJ y (XE e2),hJ' y (XE e2)]
 Q7S:=fun i j hm hu=>by
  rw [H2 f a b i j hf]at hm
  rw [Cy,Cy]
  unfold Mq at hm
  unfold Uq at hu
  rw [QT]at hu
  unfold Gh
  split at hm
  ·rename_i x y e1 e2
   rw [e2]at hu
   rw [e1,e2]
   have:=YD hm
   subst this
   have hu:J (f x)=QJ:=hu
   rw [hJ x (XE e2)]at hu
   have:=ZK hu
   have:=hs x (by exact aev this)
   dsimp only;exact ⟨SR this,SR this⟩
  ·cases hm
 times:=fun i j hm=>by
  rw [H2 f a b i j hf]at hm
  rw [Cy,Cy]
  unfold Mq at hm
  unfold Gh
  split at hm
  ·rename_i x y e1 e2
   rw [e1,e2]
   have:=YD hm
   subst this
   dsimp only;exact aeu
  ·cases hm
end
end
end Mini
end
section
open PySem
namespace Mini
mutual
def rep (m c:QH):QC QH:=Q0x m c
def DS (w v n m:QH):QH->QC QH
 | 0=>35::(rep m w++[35])
 | 1=>w::n::(rep (m % 2) 35++[v])
 | 2=>35::n::rep m w
 | 3=>rep m w
 | 4=>rep m w++[v]
 | 5=>rep m w++35::rep (m % 2) v
 | _=>v::35::v::rep m w
def nsp (l:QC QH):QC QH:=l.filter fun c=>!Qr c
theorem O4 (a b:QC QH):nsp (a++b)=nsp a++nsp b:=Q5T ..
theorem Ht (l:QC QH):Ws l↔nsp l=[]:=by
 unfold Ws nsp
 rw [Q75]
 simp
theorem aeM:Qr 35=QJ:=by decide +XB
theorem NC:∀(l:QC QH),Op l↔nsp l=[]\/nsp l=[35]:=by
 intro l
 constructor
 ·rintro (h | ⟨a,b,ha,hb,QA⟩)
  ·exact .inl ((Ht l).mp h)
  ·right
   rw [O4,(Ht a).mp ha]
   unfold nsp
   rw [Q1k,aeM]
   show 35::nsp b=_
   rw [(Ht b).mp hb]
 ·rintro (h | h)
  ·exact .inl ((Ht l).mpr h)
  ·right
   unfold nsp at h
   refine ew2 (List.filter_eq_cons_iff.mp h) fun a b yq0f=>?_;refine an3 yq0f fun h1 h2 h3=>?_;clear yq0f
   refine ⟨a,b,fun c hc=>?_,fun c hc=>?_,h1⟩
   ·have:=h2 c hc;simpa using this
   ·have:=List.filter_eq_nil_iff.mp h3.2 c hc;simpa using this
def cl (c:QH):QH:=if Qr c=QM then 0 else if c=35 then 1 else 2
theorem K4 {c:QH} (h:Qr c=QM):cl c=0:=QY h
theorem NV {c:QH} (h:Qr c=QJ):cl c=if c=35 then 1 else 2:=QN (by rw [h];exact Qj)
theorem Hn:cl 35=1:=(NV aeM).QR (QY QA)
theorem Th {c:QH} (h:Qr c=QJ) (k:c≠35):cl c=2:=(NV h).QR (QN k)
theorem Uj (c:QH):(cl c != 0)=!Qr c:=by
 cases h:Qr c with
 | QM=>rw [K4 h];rfl
 | QJ =>
  rw [NV h]
  by_cases k:c=35
  ·rw [QY k];rfl
  ·rw [QN k];rfl
theorem Ui {c:QH} (h:cl c=1):c=35:=by
 cases e:Qr c with
 | QM=>rw [K4 e]at h;exact nomatch h
 | QJ =>
  by_cases k:c=35
  ·exact k
  ·rw [Th e k]at h;exact nomatch h
theorem TY (l:QC QH):(nsp l).map cl=(QGg cl).Q9D (· != 0):=by
 unfold nsp
 rw [List.filter_map]
 congr 1
 congr 1
 funext c
 exact (Uj c).Q3w
def M4 (m:QH):QH->QC QH
 | 0=>1::(rep m 0++[1])
 | 1=>0::2::(rep (m % 2) 1++[0])
 | 2=>1::2::rep m 0
 | 3=>rep m 0
 | 4=>rep m 0++[0]
 | 5=>rep m 0++1::rep (m % 2) 0
 | _=>0::1::0::rep m 0
theorem M3:∀m,m < 3->∀k,k < 7->∀k',k' < 7->M4 m k=M4 m k'->k=k':=by decide +XB
theorem M2:∀m,m < 3->∀k,k < 7->(((M4 m k).Q9D (· != 0)=[]\/(M4 m k).Q9D (· != 0)=[1])↔2 < k):=by decide +XB
theorem CW (m c:QH):(rep m c).map cl=rep m (cl c):=Q9W
end
section
variable {w v n m:Nat} (hw:Unicode.isSpace w=true) (hv:Unicode.isSpace v=true) (hn:Unicode.isSpace n=false) (hn5:n≠35) (hm:m < 3)
include hw hv hn hn5
theorem Jy (k:Nat) (hk:k < 7):(DS w v n m k).map cl=M4 m k:=by
 injections w v n m _ _ _ _ k _
 have a:=K4 hw
 have b:=K4 hv
 have d:=Th hn hn5
 rcases k with _ | _ | _ | _ | _ | _ | _ | k
 ·show cl 35::List.map cl (rep m w++[35])=_;rw [List.map_append,CW,a];show cl 35::(_++[cl 35])=_;rw [Hn];rfl
 ·show cl w::cl n::List.map cl (rep (m % 2) 35++[v])=_;rw [List.map_append,CW,Hn,a,d];show _::_::(_++[cl v])=_;rw [b];rfl
 ·show cl 35::cl n::List.map cl (rep m w)=_;rw [CW,Hn,a,d];rfl
 ·show List.map cl (rep m w)=_;rw [CW,a];rfl
 ·show List.map cl (rep m w++[v])=_;rw [List.map_append,CW,a];show _++[cl v]=_;rw [b];rfl
 ·show List.map cl (rep m w++35::rep (m % 2) v)=_;rw [List.map_append,CW,a];show _++cl 35::List.map cl (rep (m % 2) v)=_;rw [CW,b,Hn];rfl
 ·show cl v::cl 35::cl v::List.map cl (rep m w)=_;rw [CW,a,b,Hn];rfl
 ·exact absurd hk (Nat.not_lt.mpr (Nat.le_add_left 7 k))
include hm
mutual
theorem OZ (k:QH) (hk:k < 7):((nsp (DS w v n m k)=[]\/nsp (DS w v n m k)=[35])↔2 < k):=by
 rw [<- M2 m hm k hk,<- Jy hw hv hn hn5 k hk,<- TY]
 constructor
 ·rintro (h | h)
  ·exact .inl (by rw [h];rfl)
  ·exact .inr (by rw [h];show [cl 35]=_;rw [Hn])
 ·rintro (h | h)
  ·exact .inl (List.map_eq_nil_iff.mp h)
  ·right
   rcases e:nsp (DS w v n m k) with _ | ⟨c,_ | ⟨d,r⟩⟩ <;> rw [e]at h
   ·exact nomatch h
   ·rw [Ui (QDI h).1]
   ·exact nomatch (QDI h).2
theorem IC (k:QH) (hk:k < 7):rxJ (DS w v n m k).Xe=XV (2 < k):=by
 have h:=OZ hw hv hn hn5 hm k hk
 rw [<- NC]at h
 cases e:rxJ (DS w v n m k).Xe with
 | QM=>exact (Yu (h.mp (MZ e))).Q3w
 | QJ =>
  refine (Yf fun q=>?_).Q3w
  rw [TL (h.mpr q)]at e;cases e
theorem O0 (k k':QH) (hk:k < 7) (hk':k' < 7) (h:DS w v n m k=DS w v n m k'):k=k':=by
 refine M3 m hm k hk k' hk' ?_
 rw [<- Jy hw hv hn hn5 k hk,h,Jy hw hv hn hn5 k' hk']
end
end
mutual
def Hz:QC QH:=[9,10,11,12,13,28,29,30,31,32,133,160,5760]++[8192,8193,8194,8195,8196,8197,8198,8199,8200,8201,8202]++[8232,8233,8239,8287,12288]
def Nm:QC QH:=[8,14,27,33,97,134,159,161,6158,5761,65279,8203,8231,8234,8238,8240,8286,8288,12287,12289]
theorem GU:∀c∈Hz,Qr c=QM:=by decide +XB
theorem IQ:∀c∈Nm,Qr c=QJ/\c≠35:=by decide +XB
end
end Mini
end
section
open PySem PySem.W PySem.Calls PyProof.Rows
namespace Mini
mutual
theorem D4 {α:Type} (xs:QC α) (a:QH):∀n,a+n<=Qn->((X5 n).map (a+·)).QDT (fun i=>xs[i]?)=(Q72 a).take n
 | 0,_=>by simp
 | n+1,h=>by
  rw [Q3G,Qt,List.filterMap_append,D4 xs a n (by exact acy h),Zx,Q3S]
  have:xs[a+n]?=QB (xs[a+n]'(by exact acx h)):=Qg _
  simp [this]
theorem IE {α:Type} (xs:QC α) {a b:QH} (hab:a<=b) (hb:b<=Qn):Bm xs (QB (a:X3)) (QB (b:X3)) QG=(Q72 a).take (b - a):=by
 unfold Bm
 rw [Q60]
 dsimp only [Q84]
 have e1:QAP Qn (a:X3)=a:=(Da ..).QR (Ye (Y1 hab hb))
 have e2:QAP Qn (b:X3)=b:=(Da ..).QR (Ye hb)
 rw [e1,e2,Q5X]
 exact D4 xs a (b - a) (by exact acw hab hb)
theorem Ha {α:Type} (xs:QC α) {b:QH} (hb:b<=Qn):Bm xs QG (QB (b:X3)) QG=xs.take b:=by
 unfold Bm
 rw [Q60]
 dsimp only [Q84]
 have e2:QAP Qn (b:X3)=b:=(Da ..).QR (Ye hb)
 rw [e2,Q5X]
 have:=D4 xs 0 (b - 0) (by exact acu hb)
 rw [QCN,Nat.sub_zero]at this
 exact this
theorem Ls {α:Type} (xs:QC α) (a:QH):Bm xs (QB (a:X3)) QG QG=Q72 a:=by
 unfold Bm
 rw [Q60]
 dsimp only [Q84]
 by_cases h:a<=Qn
 ·have e1:QAP Qn (a:X3)=a:=(Da ..).QR (Ye h)
  rw [e1,Q5X,D4 xs a _ (by exact act h)]
  exact Q6t (by rw [Q1g];exact Qh _)
 ·have e1:QAP Qn (a:X3)=Qn:=(Da ..).QR (Q45 (Nat.le_of_not_le h))
  rw [e1,Q5X,Q76,Q77 (by exact acs h)];rfl
def NX (sc:Q0J) (x:X6):Qu:=!(x == ("__debug__":X6))&&!(x == ("__classdict__":X6))&&(Q18 x == QB .YQ || Q18 x == QB .QFr)
end
section
variable {G:Pg} {cal:Av} {n:Nat} {fm:Fm} {σ:Mini.St} {x y:Str} {p:Pos} {cl:List (Str×Nat)} {l k:Nat}
mutual
theorem aju:QGE x ((x,l)::cl)=QB l:=by rw [Z1];simp
theorem ajt (h:(x == y)=QJ) (q:QAn x=QB l):QGE x ((y,k)::cl)=QB l:=by rw [Z1,h];exact q
theorem aiV {v:QU} {P:QU->QE->Prop} (h1:Q1w x=QB l) (h2:QS l=.YQ (QB v)) (h:NX Zo x=QM) (q:P v σ):ev G YR (n+1) fm (.Q0v x p) σ P:=by
 simp only [NX,X7,Z9,Q27,ZJ]at h
 exact JW h.1.1 h.1.2 (T3 h.2 h1 h2 q)
theorem Kd {v:QU} {u:QW QU} {P:YV->QE->Prop} (h1:Q1w x=QB l) (h2:QS l=.YQ u) (h:(ZH x == QB .YQ)=QM) (q:P () (Yt l (.YQ (QB v)))):asg G YR (n+1) fm (.Q0v x p) v σ P:=by
 refine Om ?_
 unfold Br
 rw [Z0 h]
 dsimp only
 rw [h1];refine BD.mk h2 ?_;exact q
end
end
theorem CB (cm:Str->Option Val):∀(ns:List Str) (σ:Mini.St),(AA cm ns σ).nx=σ.nx+ns.length/\(AA cm ns σ).loc=σ.loc/\(∀l,l < σ.nx->(AA cm ns σ).hp l=σ.hp l)/\∀i x,ns[i]?=some x->(AA cm ns σ).hp (σ.nx+i)=.cell (cm x)
 | [],σ=>⟨rfl,rfl,fun _ _=>rfl,fun i x h=>by simp at h⟩
 | n::r,σ=>by
  refine an4 (CB cm r (σ.alloc (.cell (cm n)))) fun h1 h2 h3 h4=>?_
  show (AA cm r (σ.alloc (.cell (cm n)))).nx=_/\(AA cm r (σ.alloc (.cell (cm n)))).loc=_/\(∀l,_->(AA cm r (σ.alloc (.cell (cm n)))).hp l=_)/\∀i x,_->(AA cm r (σ.alloc (.cell (cm n)))).hp _=_
  rw [Ab]at h1 h3 h4
  refine ⟨by rw [h1,List.length_cons];exact Ff,h2,fun l hl=>(h3 l (by exact Le hl)).trans (if_neg (by exact Ag hl)),fun i x h=>?_⟩
  cases i with
  | zero =>
   cases h
   exact (h3 σ.nx (by exact Hq)).trans (if_pos rfl)
  | succ i =>
   rw [show σ.nx+(i+1)=σ.nx+1+i by exact Me]
   exact h4 i x h
section
variable {G:Pg} {rec:Av} {σ:Mini.St}
theorem FG {a:Addr} {args:List Val} {fd:FuncData} {body:List Stmt} {xs:List Str} {dv:List (Str×Value)} {tb:Option (Addr×Nat)} {P:Val->Mini.St->Prop} (F:FnIs G.K a fd body xs dv) (hl:args.length=xs.length) (cs:List Str) (hcs:AZ fd.scope=cs) (hnd:cs.Nodup)
  (hbo:K7 fd.scope (xs++dv.map (·.1))=true) (n:Nat) (cl:List (Str×Nat)) (hcl:HH cs σ.nx=cl)
  (h:∀σ1:Mini.St,σ1.nx=σ.nx+cs.length->(∀l,l < σ.nx->σ1.hp l=σ.hp l)->σ1.loc=CK (fun x=>fd.scope.names.lookup x) (AK xs args dv) (fun _=>none)->(∀i x,cs[i]?=some x->σ1.hp (σ.nx+i)=.cell (B5 (fun x=>fd.scope.names.lookup x) (AK xs args dv) (fun _=>none) x)) ->
   exs G rec n ⟨fd.scope,cl,fd.code,tb⟩ body σ1 fun fl σ'=>P (Lo fl) {σ' with loc:=σ.loc}):JG G rec tb a args σ P:=by
 have k:=CB (B5 (fun x=>fd.scope.names.lookup x) (AK xs args dv) fun _=>none) cs {σ with loc:=CK (fun x=>fd.scope.names.lookup x) (AK xs args dv) fun _=>none}
 refine ⟨fd,body,xs,dv,n,F,hl,by rw [hcs];exact hnd,hbo,?_⟩
 rw [hcs,hcl]
 exact h _ k.1 k.2.2.1 k.2.1 k.2.2.2
end
section
variable {σ:Mini.St}
mutual
theorem QGF {hp:QH->Ob}:∀(xs:QC QH),DVs hp (QAq fun k:QH=>Q11 k) (QAq fun k:QH=>QBo k)
 | []=>.Zl
 | x::r=>.Xu (.Qm _) (QGF r)
theorem O3 (xs:QC QH):∀d∈QAq fun k:QH=>QBo k,kqdOk 8 d=QM:=by
 intro d hd
 refine ew1 (Yx hd) fun k yq76=>?_;refine an2 yq76 fun _ yq77=>?_;obtain QA:=yq77;clear yq76
 rfl
theorem LM {l i:QH} {xs:QC QH} {P:QU->QE->Prop} (h:QS l=.Qs (QAq fun k:QH=>Q11 k)) (p:P (.Yn (XV (i∈xs))) σ):BK .In (.Qm (i:X3)) (.QP l) σ P:=by
 refine Q3z h ?_
 refine ⟨.Qm i,QAq fun k:QH=>QBo k,.Qm _,QGF xs,QA,O3 xs,?_⟩
 have:(QBo (i:X3)∈QAq fun k:QH=>QBo k)↔i∈xs:=by
  rw [QEw]
  constructor
  ·intro Q2T
   refine ew1 Q2T fun k yq78=>?_;refine an2 yq78 fun hk e=>?_;clear yq78
   have:(k:X3)=i:=by injection e
   have:k=i:=by exact (Q0p this)
   rwa [<- this]
  ·intro h;exact ⟨i,h,QA⟩
 rw [Q1N this];exact p
theorem N7 {l k:QH} {P:QU->QE->Prop} (h1:QS l=.Qs []) (h2:QS k=.Qs []) (p:P (.Yn QJ) σ):BK .QGt (.QP l) (.QP k) σ P:=by
 refine Q3z h1 ?_;refine Q3z h2 ?_
 refine ⟨[],[],.Zl,.Zl,(fun d h=>by cases h),(fun d h=>by cases h),?_⟩
 rw [Yu QA];exact p
theorem N8 {l k:QH} {P:QU->QE->Prop} (h1:QS l=.Qs []) (h2:QS k=.Qs []) (p:P (.Yn QM) σ):BK .Eq (.QP l) (.QP k) σ P:=by
 refine Q3z h1 ?_;refine Q3z h2 ?_
 refine ⟨[],[],.Zl,.Zl,(fun d h=>by cases h),(fun d h=>by cases h),?_⟩
 rw [Yu QA];exact p
end
end
mutual
def TP (t:Qf->PT Qu) (r:QC Qf) (P:Qu->QE->Prop):Qu->QE->Prop:=fun b σ=>(b=QJ->BL t .Or r σ P)/\(b=QM->P QM σ)
theorem JD {P Q:Qu->QE->Prop} (h:P=Q) {t:PT Qu} {σ:QE} (k:t σ P):t σ Q:=h▸k
end
section
variable {σ:Mini.St}
mutual
theorem ae1 {t:Qf->PT Qu} {e:Qf} {r:QC Qf} {P:Qu->QE->Prop} (h:t e σ (TP t r P)):BL t .Or (e::r) σ P:=by
 show t e σ _
 refine JD ?_ h
 funext b σ1
 cases b
 ·exact QEv ⟨fun q=>q.1 QA,fun q=>⟨fun _=>q,fun q=>(by cases q)⟩⟩
 ·exact QEv ⟨fun q=>q.2 QA,fun q=>⟨fun q=>(by cases q),fun _=>q⟩⟩
theorem aji {t:Qf->PT Qu} {r:QC Qf} {P:Qu->QE->Prop} (h2:P QM σ):TP t r P QM σ:=⟨fun q=>(by cases q),fun _=>h2⟩
theorem ajj {t:Qf->PT Qu} {r:QC Qf} {P:Qu->QE->Prop} (h2:BL t .Or r σ P):TP t r P QJ σ:=⟨fun _=>h2,fun q=>(by cases q)⟩
theorem aeZ {t:Qf->PT Qu} {P:Qu->QE->Prop} (h:P QJ σ):BL t .Or [] σ P:=h
end
end
section
variable {σ:Mini.St}
mutual
theorem Es {f:Qf->PT QU} {t:Qf->PT Qu} {a:Qf->QU->PT YV} {elt:Qf} {g:Qx} {Xq:QC QU} {Q3D:QE->Prop} {P:QU->QE->Prop} (O:QH->QC QU->(QH->Ob)->QH->Prop)
  (h0:O 0 [] (Qw (.Qs [])).hp (QO+1)) (hst:∀XF,YP [] σ XF->Q3D XF)
  (Q9J:∀i x XF vs,Xq[i]?=QB x->YP [] σ XF->QO < Xg->X4 QO=.Qs vs->O i vs X4 Xg->∀R:QE->Prop,(∀Q5Y vs',YP [] σ Q5Y->QO < Q5y->Q5z QO=.Qs vs'->O (i+1) vs' Q5z Q5y->R Q5Y) ->
   a Q3E x XF fun _ σ1=>BL t .And QBL σ1 fun ok σ1=>(ok=QJ->R σ1)/\(ok=QM->f elt σ1 fun v σ2=>Bx [.QP QO,v] σ2 fun _ σ3=>R σ3))
  (Q4x:∀XF vs,Y9=Xv->YP [] σ XF->QO < Xg->X4 QO=.Qs vs->O Yc vs X4 Xg->P (.QP QO) XF) :
  CO f t a QO elt [g] Xq Q3D {Qw (.Qs []) with loc:=fun _=>QG} fun _ XF=>P (.QP QO) {XF with loc:=Xv} :=
 NK (fun i vs XF=>O i vs X4 Xg) h0 hst Q9J fun XF vs k1 k2 k3 k4=>Q4x _ vs QA ⟨k1.nx,k1.hp⟩ k2 k3 k4
theorem ED (n:QH):(Ay 0 n 1).map Q11=(X5 n).map fun i:QH=>Q11 i:=by
 have e:Ay 0 n 1=(X5 n).map fun i:QH=>(i:X3):=by
  have hl:=Fy (a:=0) (b:=n) (by exact zq8)
  refine List.ext_getElem? fun i=>?_
  cases q:(Ay ((0:QH):X3) n 1)[i]? with
  | QG =>
   rw [Q5Z,hl]at q
   rw [Q2K (by rw [QK,Y8];omega)]
  | QB z =>
   have:=Fz (a:=0) (b:=n) (by exact zq8) q
   rw [QT,Yd (by exact acr this.2)]
   rw [this.1];simp
 rw [e,YT];rfl
def Hm (f:Qf->PT QU) (t:Qf->PT Qu) (a:Qf->QU->PT YV) (elt:Qf) (g:Qx) (gs:QC Qx) (P:QU->QE->Prop):QU->QE->Prop:=fun v σ =>
 ∃its st,Cn v σ (its,st)/\CO f t a QO elt (g::gs) its st {Qw (.Qs []) with loc:=fun _=>QG} fun _ XF=>P (.QP QO) {XF with loc:=Xv}
theorem Dm {G:Pg} {YR:Av} {n:QH} {fm:Fm} {p:Pos} {elt:Qf} {g:Qx} {gs:QC Qx} {Qv:Q0J} {P:QU->QE->Prop} (cl:QC (X6×QH)) (h1:Ev Q8x Q1L []=QB cl) (h2:Eu Qv (g::gs)=QM)
  (h:ev G YR n fm Q6A σ (Hm (ev G YR n ⟨Aj Qv Zo,cl,Q2M,Q2N⟩) (tst G YR n ⟨Aj Qv Zo,cl,Q2M,Q2N⟩) (asg G YR n ⟨Aj Qv Zo,cl,Q2M,Q2N⟩) elt g gs P)):ev G YR (n+1) fm (.ZB elt (g::gs) Qv p) σ P :=
 NQ cl ⟨h1,h2,h⟩
theorem Dc {G:Pg} {YR:Av} {n:QH} {fm:Fm} {p q:Pos} {tg elt:Qf} {g:Qx} {gs:QC Qx} {Qv:Q0J} {P:Fl->QE->Prop} (h0:B2 tg=QJ) (cl:QC (X6×QH)) (h1:Ev Q8x Q1L []=QB cl) (h2:Eu Qv (g::gs)=QM)
  (h:ev G YR n fm Q6A σ (Hm (ev G YR n ⟨Aj Qv Zo,cl,Q2M,Q2N⟩) (tst G YR n ⟨Aj Qv Zo,cl,Q2M,Q2N⟩) (asg G YR n ⟨Aj Qv Zo,cl,Q2M,Q2N⟩) elt g gs fun v σ=>asg G YR n fm tg v σ fun _ σ=>P .YC σ)):ex1 G YR (n+1) fm (.Q6w [tg] (.ZB elt (g::gs) Qv q) p) σ P :=
 Tn h0 cl ⟨h1,h2,h⟩
end
section
variable {f:Expr->PT Val} {t:Expr->PT Bool} {a:Expr->Val->PT Unit} {elt:Expr} {g:Comprehension} {P:Val->Mini.St->Prop}
mutual
theorem Dn {l:QH} {Xq:QC QU} (O:QH->QC QU->(QH->Ob)->QH->Prop) (hl:l < QO) (h:QS l=.Qs Xq) (h0:O 0 [] (Qw (.Qs [])).hp (QO+1))
  (Q9J:∀i x XF vs,Xq[i]?=QB x->YP [] σ XF->QO < Xg->X4 QO=.Qs vs->O i vs X4 Xg->∀R:QE->Prop,(∀Q5Y vs',YP [] σ Q5Y->QO < Q5y->Q5z QO=.Qs vs'->O (i+1) vs' Q5z Q5y->R Q5Y) ->
   a Q3E x XF fun _ σ1=>BL t .And QBL σ1 fun ok σ1=>(ok=QJ->R σ1)/\(ok=QM->f elt σ1 fun v σ2=>Bx [.QP QO,v] σ2 fun _ σ3=>R σ3))
  (Q4x:∀XF vs,Y9=Xv->YP [] σ XF->QO < Xg->X4 QO=.Qs vs->O Yc vs X4 Xg->P (.QP QO) XF):Hm f t a elt g [] P (.QP l) σ :=
 ⟨Xq,fun σ=>QS l=.Qs Xq,QEb h,Es O h0 (fun XF g'=>(Q0O l hl (by simp)).QR h) Q9J Q4x⟩
theorem NW {l:QH} {Xq:QC QU} (O:QH->QC QU->(QH->Ob)->QH->Prop) (hl:l < QO) (h:QS l=.YJ Xq) (h0:O 0 [] (Qw (.Qs [])).hp (QO+1))
  (Q9J:∀i x XF vs,Xq[i]?=QB x->YP [] σ XF->QO < Xg->X4 QO=.Qs vs->O i vs X4 Xg->∀R:QE->Prop,(∀Q5Y vs',YP [] σ Q5Y->QO < Q5y->Q5z QO=.Qs vs'->O (i+1) vs' Q5z Q5y->R Q5Y) ->
   a Q3E x XF fun _ σ1=>BL t .And QBL σ1 fun ok σ1=>(ok=QJ->R σ1)/\(ok=QM->f elt σ1 fun v σ2=>Bx [.QP QO,v] σ2 fun _ σ3=>R σ3))
  (Q4x:∀XF vs,Y9=Xv->YP [] σ XF->QO < Xg->X4 QO=.Qs vs->O Yc vs X4 Xg->P (.QP QO) XF):Hm f t a elt g [] P (.QP l) σ :=
 ⟨Xq,fun σ=>QS l=.YJ Xq,⟨l,QA,.inr (.inl ⟨_,h,QA⟩)⟩,Es O h0 (fun XF g'=>(Q0O l hl (by simp)).QR h) Q9J Q4x⟩
theorem F2 {l n:QH} (O:QH->QC QU->(QH->Ob)->QH->Prop) (h:QS l=.Q7A 0 n 1) (hn:n < 2 ^ 60) (h0:O 0 [] (Qw (.Qs [])).hp (QO+1))
  (Q9J:∀i XF vs,i < n->YP [] σ XF->QO < Xg->X4 QO=.Qs vs->O i vs X4 Xg->∀R:QE->Prop,(∀Q5Y vs',YP [] σ Q5Y->QO < Q5y->Q5z QO=.Qs vs'->O (i+1) vs' Q5z Q5y->R Q5Y) ->
   a Q3E (.Qm i) XF fun _ σ1=>BL t .And QBL σ1 fun ok σ1=>(ok=QJ->R σ1)/\(ok=QM->f elt σ1 fun v σ2=>Bx [.QP QO,v] σ2 fun _ σ3=>R σ3))
  (Q4x:∀XF vs,Y9=Xv->YP [] σ XF->QO < Xg->X4 QO=.Qs vs->O n vs X4 Xg->P (.QP QO) XF):Hm f t a elt g [] P (.QP l) σ:=by
 refine ⟨(Ay 0 n 1).map .Qm,fun _=>Q3x,?_,?_⟩
 ·have h1:=CX (a:=0) (b:=n) (by exact zq8) (by exact Sh hn)
  have h2:=A5 (a:=0) (b:=n) (by exact zq8)
  exact ⟨l,QA,.inr (.inr ⟨_,_,_,h,⟨h1,by rw [show (0:X3)=((0:QH):X3) from QA,h2];exact Yh (PO)⟩,QA⟩)⟩
 ·rw [ED]
  refine Es O h0 (fun _ _=>ZN) (fun i x XF vs hx=>?_) (fun XF vs k1 k2 k3 k4 k5=>?_)
  ·rw [QT]at hx
   by_cases hi:i < n
   ·rw [Yd hi]at hx
    obtain QA:=X1 hx
    exact Q9J i XF vs hi
   ·rw [Q2K (by rw [Y8];exact L6 hi)]at hx;cases hx
  ·rw [QK,Y8]at k5
   exact Q4x XF vs k1 k2 k3 k4 k5
end
end
end
mutual
theorem ajC {A B:Prop} (h:B):(QM=QJ->A)/\(QM=QM->B):=⟨fun q=>(by cases q),fun _=>h⟩
theorem ajD {A B:Prop} (h:A):(QJ=QJ->A)/\(QJ=QM->B):=⟨fun _=>h,fun q=>(by cases q)⟩
theorem K5 {σ:QE} {f:Qf->PT QU} {t:Qf->PT Qu} {a:Qf->QU->PT YV} {elt:Qf} {g:Qx} {gs:QC Qx} {P:QU->QE->Prop} {l:QH} {Xq:QC QU} (h:QS l=.Qs Xq)
  (k:CO f t a QO elt (g::gs) Xq (fun σ=>QS l=.Qs Xq) {Qw (.Qs []) with loc:=fun _=>QG} fun _ XF=>P (.QP QO) {XF with loc:=Xv}):Hm f t a elt g gs P (.QP l) σ :=
 ⟨Xq,_,QEb h,k⟩
theorem S7 {σ:QE} {l n:QH} {P:QC QU->(QE->Prop)->Prop} (h:QS l=.Q7A 0 n 1) (hn:n < 2 ^ 60) (k:P ((X5 n).map fun i:QH=>Q11 i) fun _=>Q3x):∃its st,Cn (.QP l) σ (its,st)/\P its st:=by
 refine ⟨(Ay 0 n 1).map .Qm,fun _=>Q3x,?_,?_⟩
 ·have h1:=CX (a:=0) (b:=n) (by exact zq8) (by exact Sh hn)
  have h2:=A5 (a:=0) (b:=n) (by exact zq8)
  exact ⟨l,QA,.inr (.inr ⟨_,_,_,h,⟨h1,by rw [show (0:X3)=((0:QH):X3) from QA,h2];exact Yh (PO)⟩,QA⟩)⟩
 ·rw [ED];exact k
theorem ID {n i:QH} {x:QU} (h:((X5 n).map fun i:QH=>Q11 i)[i]?=QB x):i < n/\x=.Qm i:=by
 rw [QT]at h
 by_cases hi:i < n
 ·rw [Yd hi]at h;exact ⟨hi,(X1 h).Q3w⟩
 ·rw [Q2K (by rw [Y8];exact L6 hi)]at h;cases h
theorem ahA {G:Pg} {YR:Av} {n:QH} {fm:Fm} {σ:QE} {p q:Pos} {k:QH} {es:QC Qf} {e:Qf} {P:Fl->QE->Prop} (h1:(A3 e=QJ/\Am [.Zp es k q]=QM/\Bg [.Zp es k q] e=QJ)) (h2:BV Zo [.Zp es k q] e=QG) (h:ev G YR n fm e σ fun v σ=>A7 (asg G YR n fm) v [.Zp es k q] σ fun _ σ=>P .YC σ):ex1 G YR (n+1) fm (.Q6w [.Zp es k q] e p) σ P:=aeJ h1 h2 h
end
end Mini
end
section
open PySem PySem.W PySem.Calls PyProof.Rows
namespace Mini
mutual
def Gq (sa P:Qq):Lab:=⟨fun l=>if l=0 then sa else P,2⟩
def st2 (ps:QC (X3×Tok)):St:={loc:=fun _=>QG,hp:=fun l=>if l=0 then .Q4m ps 0 else if l=1 then .tab [] else .any,nx:=2}
theorem JZ {c:Cx} {G:Pg} {A:Q2t} {d:QH} (hc:Q3M) (hK:G.K=c.K) (hgl:GlOk c QGB) (hA:Q8h (d+1) A) {s:QZ} {a sa P:Qq} {ps:QC (X3×Tok)} {R:Q7w->QZ->Prop}
  (hcg:c.g=QHP QV [sa,P]) (h1:Qc sa=QB (Q4X (Q13 fun p=>Q54 p.1 p.2).Xe 0)) (h2:Qc P=QB (QC0 #[])) (hne:sa≠P) (low:Q3L < QD)
  (n1:(sa == Q3L)=QJ) (n2:(P == Q3L)=QJ) (hos:s.os=c.O) (hgens:s.gens=#[])
  (h:JG G (Ae G d) (QB (P,1)) a [.QP 0] (st2 ps) fun v XF=>v=.Yn QM/\X4 0=.Q4m ps 0/\∃es,X4 1=.tab es)
  (q:∀s',(∀b o,Qc b=QB o->b≠P->Q3p b=QB o)->(∃ps',Q3p P=QB (QC0 ps'))->s'.os=s.os->s'.gens=#[]->R (.ok (.ret (.Yn QM))) s') :
  Q1J (Qi XI c.w) A (.Q0M (.QP a) ⟨[.QP sa],[]⟩) R s:=by
 injections c G A d _ _ _ _ s a sa P ps R _ _ _ _ _ _ _ _ _ _ _
 have hK':=hK
 have S:∀A' Q2S fm' n,Q8h d A'->Snd c A' Q2S fm' G (Ae G d) n:=fun A' Q2S fm' n hA'=>S5 hc hA'.aok hK hgl (fun X0 fm fv Λ σ P vs as x hx ha h=>Eg hc hK hgl d hA' fv Λ σ P vs as x hx ha h) n Q2S fm'
 have gk:∀b o,Q33 b=QB o->Qc b=QB o:=fun b o e=>of_hideAll [sa,P] (by rw [<- hcg];exact e)
 obtain ⟨fd,YZ,xs,dv,n,F,Q2U,hnd,hbo,h⟩:=h
 rw [hK]at F
 have X:=ZO gk
 have ha:VRs (Gq sa P) [.QP 0] [.QP sa]:=.Xu ⟨by show 0 < 2;exact Kv,QA⟩ .Zl
 obtain ⟨oc,od,osl,hat⟩:=F.at'
 refine Q7R (fd:=fd) (YZ:=YZ) (by have:=Q5Q;exact Ie this) (X _ _ hat) QA F.co F.gen F.body (codeRec_of X F.code) ?_
 refine kp_binds X (fun S=>F.bind S [.QP sa] (by rw [<- QDs];exact Q2U)) _ _ _ _ ?_
 rw [F.clo]
 have hcn:∀k,(Q57 k Q8G []).map (·.1)=AZ Q1M:=fun k=>Cg _ _ _ _ QA _
 refine wpAny_newFunctionEnv_cells F.kd ?_ ?_
 ·intros x hx
  have hall:=Q1Z hbo
  have hm:x.1∈xs++QAr (·.1):=by
   rcases Y3 hx with hx | hx
   ·exact Q2y (.inl (QBW hx).1)
   ·exact Q2y (.inr (Q0D ⟨x,hx,QA⟩))
  have:=hall _ hm
  simp only [Q27,X7,ZJ]at this
  rcases this with h | zR
  ·exact .inl h
  ·obtain ⟨h1,h2⟩:=zR
   refine .inr ⟨h1,Ci ?_⟩
   rw [hcn]
   simpa using h2
 intros Q2S he s' I
 ·subst he
  obtain ⟨⟨hh,tk,QA⟩,hns,Q8C,hfresh⟩:=I.toInCall
  have hbr:BR (Gq sa P) (AK xs [.QP 0] dv) (Q9R [.QP sa]++dv):=(QGY ha).Q7o (QGZ dv)
  have lsa:=Qz h1
  have lP:=Qz h2
  have gn:∀b o,Q33 b=QB o->b≠sa/\b≠P:=by
   intros b o e
   rw [hcg]at e
   constructor
   ·rintro QA;rw [QF1 _ (Q9X ..)]at e;cases e
   ·rintro QA;rw [QF1 _ (List.mem_cons_of_mem _ (Q9X ..))]at e;cases e
  have r':Rel c (fzN (Gq sa P) QV) QD (Gq sa P) {st2 ps with loc:=CK (fun x=>Q12 x) (AK xs [.QP 0] dv) fun _=>QG} {s with YL:=hh,Q0P:=tk}:={
   nn:=QA
   ns:=⟨_,hns,fun x=>by rw [Ew];exact hbr.bindL (m:=fun _=>QG) (m':=fun _=>QG) (fun _=>ZN) x⟩
   Q4V:=fun b o e=>Q8C b o (B3 e)
   Q8Z:=fun b o e=>by
    refine DH (gk b o e) fun l hl e2=>?_
    have:=gn b o e
    have hl:l=0\/l=1:=lt2 hl
    rcases hl with QA | QA
    ·exact this.1 QF2
    ·exact this.2 QF2
   fzL:=by
    cases q:fzN (Gq sa P) QV QD with
    | QG=>rfl
    | QB o=>exact Xc (Qz (B3 q)) (XY _)
   ob:=fun l hl=>by
    have hl:l=0\/l=1:=lt2 hl
    rcases hl with QA | QA
    ·exact ⟨_,Q8C _ _ h1,QA⟩
    ·exact ⟨_,Q8C _ _ h2,fun e he=>(by cases he),QA⟩
   fzl:=fun l h=>by unfold fzN;rw [QY ⟨l,h,QA⟩]
   lne:=fun l hl=>by
    have hl:l=0\/l=1:=lt2 hl
    rcases hl with QA | QA
    ·exact Y5 lsa
    ·exact Y5 lP
   inj:=fun l l' hl hl' e=>by
    have hl:l=0\/l=1:=lt2 hl
    have hl':l'=0\/l'=1:=lt2 hl'
    rcases hl with QA | QA <;> rcases hl' with QA | QA
    ·rfl
    ·exact (hne e).Q32
    ·exact (hne QGV).Q32
    ·rfl
   Q4p:=by rw [hcg,hideAll_size];exact Qh _
   low:=low
   nsm:=fun l hl=>by
    have hl:l=0\/l=1:=lt2 hl
    rcases hl with QA | QA
    ·exact n1
    ·exact n2
   os:=hos
   Q0L:=hgens}
  have hnd':((Q57 (QD+1) Q8G []).map (·.1)).QDu:=by rw [hcn];exact hnd
  obtain ⟨Za,e',r2,hl⟩:=C2 (cm:=B5 (fun x=>Q12 x) (AK xs [.QP 0] dv) fun _=>QG) (cm':=B5 (fun x=>Q12 x) (Q9R [.QP sa]++dv) fun _=>QG) (Q57 (QD+1) Q8G []) r' (fun x=>hbr.bindC (m:=fun _=>QG) (m':=fun _=>QG) (fun _=>ZN) x)
   (fun p hp=>by
    have:=I.cell p.1 p.2 (CG hnd' hp)
    rw [Ex]at this;exact this) I.apart (fun p hp=>by
    have hgt:=I.above p.1 p.2 hp
    have hsz:QD < p.2:=hgt
    refine ⟨hgt,?_,fun l hlt e=>?_⟩
    ·cases hq:fzN (Gq sa P) QV p.2 with
     | QG=>rfl
     | QB o=>exact Xc (Qz (B3 hq)) (ZI (XD hsz))
    ·have hlt:l=0\/l=1:=lt2 hlt
     rcases hlt with QA | QA
     ·have e:sa=p.2:=e
      rw [e]at lsa;exact XY _ (Q1F lsa hsz)
     ·have e:P=p.2:=e
      rw [e]at lP;exact XY _ (Q1F lP hsz))
  rw [hcn]at r2 hl
  refine ⟨(Q87 gk).keeps Q8C,QEk ?_⟩
  refine (S _ _ ⟨Q1M,HH (AZ Q1M) 2,QA5,QB (P,1)⟩ n (Q8V _)).xs YZ Za _ _ h (fzN (Gq sa P) QV) _ _ _ ⟨QA,F.gl,F.bl,F.kd,?_,QA,?_⟩ r2 ?_
  ·intros x l hl'
   exact hl x l hl'
  ·intros P' l h
   cases h
   have h1:1 < (Gq sa P).n:=by show 1 < 2;exact Ku
   exact ⟨QQ h1 e'.1,by rw [e'.2 1 h1];rfl⟩
  ·intros Λ2 s2 fl f σ2 e2 p2 hf r3
   obtain ⟨p2,p3,es,p4⟩:=p2
   have z0:0 < (Gq sa P).n:=by show 0 < 2;exact Kv
   have z1:1 < (Gq sa P).n:=by show 1 < 2;exact Ku
   have l0:0 < Λ2.n:=QQ z0 (QCp e2).1
   have l1:1 < Λ2.n:=QQ z1 (QCp e2).1
   have f0:Λ2.f 0=sa:=(QCp e2).2 0 z0
   have f1:Λ2.f 1=P:=(QCp e2).2 1 z1
   obtain ⟨o0,g0,k0⟩:=(r3.ob 0 l0)
   rw [p3]at k0
   rw [f0,k0]at g0
   obtain ⟨o1,g1,k1⟩:=(r3.ob 1 l1)
   rw [p4]at k1
   rw [f1,k1.2]at g1
   have fin:=q s2 (fun b o e hb=>?_) ⟨_,g1⟩ (r3.os.trans hos.symm) r3.gens
   ·cases fl with
    | YC=>cases p2
    | brk=>cases p2
    | QAh=>cases p2
    | ret v =>
     injections v zI
     obtain ⟨cv,QA,hv⟩:=hf
     cases p2
     cases hv
     exact fin
   ·by_cases hs:b=sa
    ·subst hs
     rw [h1]at e
     cases e
     exact g0
    ·refine r3.keep b o (DH e ?_);intros l hl e2
     have hl:l=0\/l=1:=lt2 hl
     rcases hl with QA | QA
     ·exact hs QF2
     ·exact hb QF2
end
end Mini
end
section
open PySem PySem.W PySem.Calls PyProof.Rows
set_option maxRecDepth 100000
set_option maxHeartbeats 2000000
namespace Mine01
open Mini
mutual
theorem Ly {R:QCq} {cl:X6->QW Qq} {h:ZP} (ns:QC X3):∀(vs:QC QI) (as:QC Qq),ReadsAllW R cl h vs (Q4J .Qm) as->∃ps:QC (X3×Tok),vs=Q13 (fun p=>Q54 p.1 p.2)/\ns=Q13 fun p=>p.1:=by
 refine ns.rec ?_ ?_
 ·exact fun _ _ r=>⟨[],(QAG r).1,QA⟩
 intros i ns ih vs as r
 obtain ⟨v,ws,as1,as2,e,e0,r1,r2⟩:=Q9Y r
 obtain ⟨t,e1,e4⟩:=readsW_int_inv r1
 obtain ⟨ps,e2,e3⟩:=ih _ _ r2
 exact ⟨(i,t)::ps,QBe (congr (Z4 QE0 e1) e2),Z4 (i::·) e3⟩
theorem afZ (K:Q1A) (c:Cx) (h:c.K=K):GlOk c (Ub K) where
 is:=fun x v e=>by
  rw [h]
  unfold Ub at e
  split at e
  ·rename_i u hu;cases e;exact .inl hu
  ·rename_i hu
   split at e
   ·cases e
   ·rename_i hx;exact .inr ⟨hu,e,hx⟩
  ·cases e
theorem afS (P:Ql):((K P).map (·.1)).QG3 296=QJ:=by kernel_rfl
theorem O6 (P:Ql):((K P).all fun p=>match p.2.cls with | .Qk t=>t != "list" | _=>QM)=QM:=by kernel_rfl
theorem Em {b:Qq} {o:ZC}:∀ {K:Q1A},Q9n b=QB o->(b,o)∈K
 | [],h=>by simp at h
 | (a,o')::r,h=>by
  rw [Z1]at h
  cases e:b == a with
  | QM=>rw [e]at h;cases h;rw [Z0 e];exact .Zc _
  | QJ=>rw [e]at h;exact .Q31 _ (Em h)
theorem O9 {R:QCq} {xs:QC QGG} {n:QH} (h:(WTm.and (.not (.lt (.lit (.Qm n)) (.len (.arg 0)))) (.lit (.Yn QM))).holds R {Xb:=[.Qs xs]}=QM):Qn<=n:=by
 by_cases q:(n:X3) < Qn
 ·exfalso
  have e:Num.less? (WData.int n) (WData.int Qn)=QB QM:=by unfold Num.less?;simp [q]
  simp [WTm.holds,WTm.value,less?,e]at h
 ·exact QB0 (fun e=>q (Yz e))
theorem Lr {R:QCq} {a b:QC QGG}:(WShape.has R (.Yn QM) .Yn&&(WTm.eq .res (.lit (.Yn QM))).holds R {Xb:=a,res:=QB (.Yn QM),after:=b})=QM:=by
 refine Bool.and_eq_true_iff.mpr ⟨QA,?_⟩
 first | rfl | kernel_rfl | simp [WTm.holds,WTm.value,same]
theorem FI {K:Q1A} {h:ZP} {N:Qq} {mg:X6->QW QI} {n:X6} {v:QI} (X:QAf h) (G:h.Ns N mg) (e:nsIn K N n=QB (QB v)):mg n=QB v:=by
 injections K h N mg n v _ _ _
 obtain ⟨o,es,ep,ho,hd,_,hf⟩:=G
 delta nsIn at e
 generalize hq:Q9n N=q at e
 cases q with
 | QG=>exact nomatch e
 | QB o' =>
  injections o' zI
  have ee:o'=o:=X1 ((X _ _ hq).QCW ho)
  rw [ee]at e
  obtain ⟨c1,d1,dt1,sl1⟩:=o
  have hd:dt1=.Q01 es ep:=hd
  rw [hd]at e
  have e:(match QBd (·.key.isStr n) with | QB e=>QB (QB e.val) | QG=>if Q92 (·.refKey) then QG else QB QG)=QB (QB v):=e
  generalize he:QBd (·.key.isStr n)=w at e
  cases w with
  | QB a =>
   rw [<- hf]
   unfold nsFind findBy
   rw [<- Array.find?_toList,he]
   exact X1 e
  | QG =>
   have e:(if Q92 (·.refKey)=QM then QG else QB QG)=QB (QB v):=e
   by_cases hb:Q92 (·.refKey)=QM
   ·rw [QY hb]at e;cases e
   ·rw [QN hb]at e;cases e
theorem Nx (P:Ql):nsIn (K P) Q3W "law"=QB (QB (.QP 299)):=by kernel_rfl
theorem T2 (P:Ql):(K P).QEi 299=QB (AO P):=by kernel_rfl
theorem K3 (P:Ql):(K P).QEi 298=QB (Nh P):=by kernel_rfl
theorem Pc:(recsOf q).any (fun d=>d.name == "law")=QM:=by kernel_rfl
instance:Q25 QGG:=⟨.QG⟩
instance:Q25 DefRec:=⟨⟨Zs,Zs,[],Zs,Zs⟩⟩
def WL (P:Ql) (h:ZP) (v:QI) (d:QGG):Prop:=d.casesOn Q3x (fun _=>Q3x) (fun _=>Q3x) (fun _=>Q3x) (fun xs=>∃a vs,v=.QP a/\Q03 a=QB {cls:=.Qk "list",YA:=.seq Xt}/\WellAll P h vs xs) (fun _=>Q3x) (fun _=>Q3x) (fun _=>Q3x) (fun _=>Q3x) (fun _=>Q3x) (fun _=>Q3x) (fun _=>Q3x) (fun _ _=>Q3x)
theorem aeK {P:Ql} {h:ZP} {v:QI} {d:QGG} (w:Well P h v d):WL P h v d:=by
 cases w with
 | Qs g1 g2=>exact ⟨_,_,QA,g1,g2⟩
 | _=>trivial
theorem Pd {P:Ql} {h:ZP} {R:QCq} {cl:X6->QW Qq} {Q7K:QC QI} {Xb:QC QGG} {as:QC Qq} (p:WShape.hasAll R Xb [.Qs .Qm]=QM) (w:WellAll P h Q7K Xb) (r:ReadsAllW R cl h Q7K Xb as) :
  ∃(sa:Qq) (ps:QC (X3×Tok)),Xb=[.Qs (Q13 fun p=>.Qm p.1)]/\Q7K=[.QP sa]/\Q03 sa=QB {cls:=.Qk "list",YA:=.seq (Q13 fun p=>Q54 p.1 p.2).Xe}/\sa∈as:=by
 injections P h R cl Q7K Xb as _ _ _
 obtain ⟨dt,Q9m,e0,e1,e2⟩:=hasAllW_cons (e:=.Qs .Qm) (es:=[]) p
 obtain ⟨xs,e3,e4⟩:=hasW_list e1
 obtain ⟨ns,e5⟩:=items_int e4
 have e6:Xb=[.Qs (Q4J .Qm)]:=e0.trans (congr (Z4 QE0 (e3.trans (Z4 _ e5))) (hasAllW_nil e2))
 rw [e6]at w r
 obtain ⟨v,vs,as1,as2,e7,e8,r1,r2⟩:=Q9Y r
 obtain ⟨sa,us,as3,e10,⟨o,ho,hc,n,hd⟩,r3,e11⟩:=readsW_list_inv r1
 obtain ⟨ps,e12,e13⟩:=Ly _ _ _ r3
 have e14:Q7K=[.QP sa]:=e7.trans (congr (Z4 QE0 e10) (QAG r2).1)
 rw [e14]at w
 obtain ⟨a,ws,e15,g1,g2⟩:=aeK (wellAll_head w).1
 refine ⟨sa,ps,?_,e14,?_,?_⟩
 ·rw [e6,e13,YT];rfl
 ·have e16:a=sa:=(Value.ref.inj e15).Q3w
  rw [e16]at g1
  have e17:Q1v=.seq ws.toArray 0:=Z4 Obj.data (X1 (ho.symm.trans g1))
  rw [g1,<- e12]
  have e18:us=ws.toArray:=by injection hd.symm.trans e17
  rw [e18]
 ·rw [e8,e11];exact .Zc _
theorem Tr (law:∀(P:Ql) (ps:QC (X3×Tok)),Zg<=63->JG (G P) (Ae (G P) 20) (QB (296,1)) 299 [.QP 0] (st2 ps) fun v XF=>v=.Yn QM/\X4 0=.Q4m ps 0/\∃es,X4 1=.tab es) :
  WalkO q QBt (Q0 q []) (QDO H) (Xp).QBu ⟨Qb "law",fnP (st 13),fnB (st 13),fnS (st 13),Tf (st 13)⟩ [] fun f vs=>PySem.call f vs:=by
 intros w s₀ Q1m mg mb Gd Y a o pm cd doc dV kV h1 h2 h3 h4 h5 hgens Xb Q7K as hpre hlay hrd hwell hsm
 have X:(K Q0K).In QE1:=kIn_of Y
 obtain ⟨p1,p2⟩:=pre_splitW hpre
 obtain ⟨sa,ps,QA,QA,g1,hlow⟩:=Pd p1 hwell hrd
 have Q2U:Zg<=63:=by
  have:=O9 (n:=63) (R:=(Xp).row.toRowW.records) p2
  rwa [QK]at this
 have ha:mg "law"=QB (.QP a):=h5
 rw [FI X Gd.T.g (Nx Q0K)]at ha
 obtain QA:299=a:=by injection ha with ha;injection ha
 obtain ⟨dr,hdr,hdn⟩:=(List.any_eq_true.mp Pc)
 obtain ⟨a',o',fd,c,Pt,t1,t2,t3,t4,t5,⟨⟨oc,vc,t6,t7,t8,t9⟩,t10⟩⟩:=(Gd.T.tab dr hdr)
 rw [Z0 hdn,FI X Gd.T.g (Nx Q0K)]at t1
 obtain QA:299=a':=by injection t1 with t1;injection t1
 rw [X _ _ (T2 Q0K)]at t2
 cases t2
 have t4':c=298:=by
  have e:(fdO (AO Q0K)).Q0o=.QP c:=by
   have:(AO Q0K).YA=.Q7Y fd:=t3
   unfold fdO;rw [this];exact t4
  have e':(fdO (AO Q0K)).Q0o=.QP 298:=by kernel_rfl
  rw [e']at e;injection e with e;exact QGV
 subst t4'
 rw [X _ _ (K3 Q0K)]at t6
 cases t6
 have t9':Pt=296:=by
  have e:(Nh Q0K).YA=.Xo vc:=t8
  have e':(match (Nh Q0K).YA with | .Xo vc=>vc[11]? | _=>QG)=QB (.QP 296):=by kernel_rfl
  rw [e]at e'
  have e':vc[11]?=QB (.QP 296):=e'
  rw [e']at t9
  injection t9 with t9;injection t9 with t9;exact t9.symm
 subst t9'
 have hdict:∀b o es n,s₁.heap.get? b=QB o->Q1v=.Q01 es n->b∉[sa,296]:=by
  intros b o es n e ed hb
  rcases XP hb with QA | hb
  ·rw [g1]at e;cases e;cases ed
  ·rw [Xi]at hb;subst hb
   rw [t10]at e;cases e;cases ed
 have hns:∀ {N m},s₁.heap.Ns N m->(QHP QE1 [sa,296]).Ns N m:=fun {N m} n=>by
  obtain (⟨o,es,ep,k1,k2,k3⟩):=n
  exact ⟨o,es,ep,QBN _ k1 (hdict _ _ _ _ k1 k2),k2,k3⟩
 have T:=topRead_of Gd.T
 have hc:Cx.Ok ⟨(Xp).row.toRowW.prog,w,K Q0K,QHP QE1 [sa,296],q,looseW q QBt,mg,mb,s₁.os⟩:={
  inK:=fun b o e=>by
   refine QBN _ (X b o e) fun hb=>?_
   rcases XP hb with QA | hb
   ·have hl:=O6 Q0K
    have:=Q1Z hl _ (Em e)
    have e':=X _ _ e
    rw [g1]at e'
    cases e'
    simp at this
   ·rw [Xi]at hb;subst hb
    have hk:=afS Q0K
    have:((K Q0K).map (·.1)).QG3 296=QM:=List.contains_iff_mem.mpr (Q0D ⟨_,Em e,QA⟩)
    rw [hk]at this;cases this
  top:=⟨hns T.g,hns T.b,let ⟨mc,k1,k2⟩:=T.nolimit;⟨mc,hns k1,k2⟩,T.builtins,T.free⟩
  bmain:=by
   obtain ⟨bm,ob,k1,k2,k3,k4,k5,k6⟩:=Gd.T.bmain
   refine ⟨bm,ob,k1,k2,QBN _ k3 ?_,k4,k5,k6⟩;intros hb
   rcases XP hb with QA | hb
   ·rw [g1]at k3;cases k3;cases k6
   ·rw [Xi]at hb;subst hb
    rw [t10]at k3;cases k3;cases k6}
 refine enter_call ?_
 have hne:sa≠296:=by
  intros e
  rw [e,t10]at g1;cases g1
 refine JZ (d:=20) (ps:=ps) (P:=296) hc QA (afZ _ _ QA) ?_ QA g1 t10 hne ?_ ?_ (by decide) QA hgens (law Q0K ps Q2U) ?_
 ·exact ⟨by decide,by decide,by decide⟩
 ·exact Q5S (by decide) (Qz t10)
 ·refine Yi ?_;intros e
  have:=hsm sa hlow
  rw [e]at this;simp at this
 intros s' q1 q2 q3 q4
 ·refine ⟨.inl ⟨.Yn QM,.Yn QM,[],QA,fun cls=>QA,.Yn QM,?_,fun _=>⟨.Zl,fun _ ha=>nomatch ha⟩⟩,⟨?_,?_⟩,q3,.of_eq q4⟩
  ·exact Lr
  ·intros b o e
   by_cases hb:b=296
   ·subst hb
    obtain ⟨ps',q2⟩:=q2
    rw [t10]at e;cases e
    refine .inr (.inl ⟨⟨_,_,_,X _ _ (K3 Q0K),t7,t8,t9⟩,QA,#[],ps',QA,?_⟩)
    rw [q2];simp [QC0]
   ·exact .inl (q1 b o e hb)
  ·intros b o e
   by_cases hb:b=296
   ·subst hb;obtain ⟨ps',q2⟩:=q2;exact ⟨_,q2⟩
   ·exact ⟨o,q1 b o e hb⟩
end
end Mine01
end
section
open PySem PySem.W PySem.Calls PyProof.Rows
set_option maxRecDepth 100000
set_option maxHeartbeats 2000000
namespace Mine01
open Mini
local macro_rules | `(tactic| kc_close)=>D1 true "!m :_ :^. :^_ :!"
local macro_rules | `(tactic| keq_rows)=>D1 false "!m :~ afK:1 T0:1 DZ:6 ajm:!1"
local macro_rules | `(tactic| kcj_m)=>D1 false "!m :~ UH aft afw:7 afr:7 afs:7 agt:7 Nat.le_refl agu:7 afB:7 afx:7 afy:7 afv:a7 afA:a7 afu:a7 Ni:~ afz:~ afC:~ afL:7"
local macro_rules | `(tactic| kwd_less)=>D1 true "!m :_ :~ :7 afp:7 afq:7 afo:~ :^. :^7 :^(7 :^[7 :& :^&"
local macro_rules | `(tactic| kas_types)=>D1 false "!m :~ HN:2 D3:36 Cu:36 FQ:32 Ct:32 :_"
local macro_rules | `(tactic| kwd_rel)=>D1 false "!m GroH.refl :~ GroH.set GroH.alloc GroH.updR:)"
local macro_rules | `(tactic| kp_flats)=>D1 false "!m :% :!"
local macro_rules | `(tactic| kts_caught)=>D1 false "!m afX aiO afY aiM agB aiN Ph aiL aiP af1 ajr aiQ af0 UJ Ua agv agx agw afJ aiB aiC"
local macro_rules | `(tactic| kaf_pre)=>D1 false "!m ai8 UN ai6 UM ai7:!5 ai5:!5"
local macro_rules | `(tactic| keq_hits)=>D1 false "!m Ar S3 ahx:0 agi:;0 agh:;0 aeR aeQ aeJ:;0 aja ahw ajI ajc ahy ajd Ug Uf agI agG af3:01 aiU:04 ajs af5:0 agD:0 aiS:0 agF aiX:0 aiT:0 aiR:+ aiW:00 aje ahE ajf:0 ahC ahD ahF ajH:0 PK:0 ai9 ajG ahO agr ags ae3 O1 II agl aeS:0 AB TI agk ahJ ajJ ajK ai1 ajL Tj ajy ae0 ae2 ajl ajk ai4 ahz:,1 ajq:- ajn:- ajo:0- ajp:2- agL:= UI aiZ ajz ai0 ajw ajv ajx ajB UK:2 Uc:2 af6 Ms:2! agA:2! agy:2! aiK:2! aiY ajb aeL:!04 ahI:!! ajg ajh:2 ago:2 agp:232 ahN:2 agq:2! ajA OD ahB agj ajF ajE agC:2205* ahK:22005 agz:2245"
section
variable {P:Params} {d:Nat} {σ:Mini.St}
theorem J7 {i j k:Int} {Q:Val->Mini.St->Prop} (h:∀l σ',Gro σ σ'->σ.nx<=l->l < σ'.nx->σ'.hp l=.sub 152 [.int i,.int j,.int k]->Q (.ref l) σ') :
  Ae (G P) (d+1) (.imm (.ref 152)) [.int i,.int j,.int k] σ Q:=by
 injections P d σ i j k Q _
 refine LJ ⟨153,99,.type "type",Ts P,rfl,?_⟩
 refine AE (FV P) rfl ?_ ?_ 40 ?_
 ·kernel_rfl
 ·kernel_rfl
 intros σ1 hh hn hl
 have h1:σ1.loc "_cls"=some (.imm (.ref 152)):=hl _ _ (by kernel_rfl)
 have h2:σ1.loc "a"=some (.int i):=hl _ _ (by kernel_rfl)
 have h3:σ1.loc "b"=some (.int j):=hl _ _ (by kernel_rfl)
 have h4:σ1.loc "size"=some (.int k):=hl _ _ (by kernel_rfl)
 refine Ar ?_
 repeat keq_hits
 refine Ho (Ts P) (xs:=[.int i,.int j,.int k]) ?_ ?_ ?_
 ·kas_types
 ·simp [sizeLine_eq]
 keq_hits
 have hG:Gro σ {(σ1.alloc (.tuple [.int i,.int j,.int k])).alloc (.sub 152 [.int i,.int j,.int k]) with loc:=σ.loc}:=by
  refine ⟨?_,rfl,?_⟩
  ·show σ.nx<=σ1.nx+1+1;exact W2 hn
  ·intros l hl
   show (if l=σ1.nx+1 then _ else if l=σ1.nx then _ else σ1.hp l)=_
   rw [if_neg (by exact W1 hn hl),if_neg (by exact WZ hn hl),hh]
 refine ⟨⟨σ1.nx+1,_,rfl,if_pos rfl⟩,h _ _ hG ?_ ?_ (if_pos rfl)⟩
 ·show σ.nx<=σ1.nx+1;exact WY hn
 ·show σ1.nx+1 < σ1.nx+1+1;exact WX
end
section
variable {P:Params} {d:Nat} {σ:Mini.St}
mutual
def iD1 (fv:QU):QC (X6×QU):=[("isjunk",fv),("a",.QG),("b",.QG),("autojunk",.Yn QJ)]
def iD2 (fv av:QU):QC (X6×QU):=[("isjunk",fv),("a",av),("b",.QG),("autojunk",.Yn QJ),("matching_blocks",.QG),("opcodes",.QG)]
def iD3 (fv av bv:QU):QC (X6×QU):=[("isjunk",fv),("a",av),("b",bv),("autojunk",.Yn QJ),("matching_blocks",.QG),("opcodes",.QG),("fullbcount",.QG)]
theorem LH {s ds la:QH} {fv:QU} {Q:QU->QE->Prop} (hs:QS s=.Q5C 259 ds) (hd:QS ds=.Q1V (iD1 fv)) (hne:s≠ds)
  (h:∀XF,QGC [ds] σ XF->X4 ds=.Q1V (iD2 fv (.QP la))->Q .QG XF) :
  Ae (G P) (d+1) (.imm (.QP 191)) [.QP s,.QP la] σ Q:=by
 injections P d σ s ds la fv Q _ _ _ _
 refine BQ (AE (BP P) QA ?_ ?_ 40 ?_)
 ·kernel_rfl
 ·kernel_rfl
 intros σ1 hh hn hl
 have h1:ZX "self"=QB (.QP s):=hl _ _ (by kernel_rfl)
 have h2:ZX "a"=QB (.QP la):=hl _ _ (by kernel_rfl)
 rw [<- hh]at hs hd
 unfold iD1 at hd
 refine Ar ?_
 repeat keq_hits
 refine h _ (.of hh hn ?_) ?_
 ·repeat kwd_rel
 ·exact QY QA
end
end
structure JF (P:Params) (d:Nat) (fv:Val) (J:Key->Bool) (ok:Key->Prop) (S:List Nat) (σ:Mini.St):Prop where
 lt:∀l∈S,l < σ.nx
 hand:Bf fv=true
 truth:∀σ':Mini.St,(∀l∈S,σ'.hp l=σ.hp l)->∀R:Bool->Mini.St->Prop,R true σ'->AC (K P) fv σ' R
 keep:∀σ':Mini.St,(∀l∈S,σ'.hp l=σ.hp l)->Bw (K P) σ' fv
 call:∀σ':Mini.St,(∀l∈S,σ'.hp l=σ.hp l)->∀k,ok k->∀Q:Val->Mini.St->Prop,(∀σ'',Gro σ' σ''->Q (.bool (J k)) σ'')->Ae (G P) d fv [k.val] σ' Q
noncomputable def iD4 (fv av bv xv jv pv:Val):List (Str×Val):=[("isjunk",fv),("a",av),("b",bv),("autojunk",.bool false),("matching_blocks",.none),("opcodes",.none),("fullbcount",.none),("b2j",xv),("bjunk",jv),("bpopular",pv)]
section
variable {P:Params} {d:Nat} {σ:Mini.St}
theorem J6 {s ds lb:Nat} {fv av:Val} {B:List Key} {J:Key->Bool} {ok:Key->Prop} {S:List Nat} {Q:Val->Mini.St->Prop} (hs:σ.hp s=.inst 259 ds) (hd:σ.hp ds=.idict (iD3 fv av (.ref lb))) (hb:σ.hp lb=.list (B.map Key.val))
  (hne:s≠ds) (hne2:lb≠ds) (ls:s < σ.nx) (lds:ds < σ.nx) (llb:lb < σ.nx) (hB:B.length<=4000) (hJ:JF P d fv J ok S σ) (hok:∀k∈B,ok k) (hS:ds∉S) (hH:Bf fv=true) (hHa:Bf av=true)
  (h:∀σ' bj js bp kvs xs,GroX [ds] σ σ'->σ'.hp ds=.idict (iD4 fv av (.ref lb) (.ref bj) (.ref js) (.ref bp))->σ.nx<=bj->bj < σ'.nx->σ.nx<=js->js < σ'.nx->σ'.hp bj=.dict kvs ->
   (∀k,k∈B->J k=false->∃l,Ak kvs k=some (.ref l)/\σ.nx<=l/\l < σ'.nx/\σ'.hp l=.list ((B6 B k).map fun i:Nat=>.int i))->(∀k,(k∉B\/J k=true)->Ak kvs k=none) ->
   σ'.hp js=.set xs->(∀k,k∈xs↔k∈B/\J k=true)->Q .none σ') :
  Ae (G P) (d+1) (.imm (.ref 205)) [.ref s] σ Q:=by
 injections P d σ s ds lb fv av B J ok S Q _ _ _ _ _ _ _ _ _ _ _ _ _ _ _
 refine BQ (AE (BF P) rfl ?_ ?_ 40 ?_)
 ·kernel_rfl
 ·kernel_rfl
 intros σ1 hh hn hl
 have h1:σ1.loc "self"=some (.ref s):=hl _ _ (by kernel_rfl)
 rw [<- hh]at hs hd hb
 rw [<- hn]at ls lds llb
 unfold iD3 at hd
 refine Ar ?_
 repeat keq_hits
 refine Ax (fun t σ'=>(σ'.loc "self"=some (.ref s)/\σ'.loc "b"=some (.ref lb)/\σ'.loc "b2j"=some (.ref σ1.nx))/\GroH [ds] σ1 σ'/\σ1.nx < σ'.nx/\σ'.hp ds=.idict (("isjunk",fv)::("a",av)::("b",.ref lb)::("autojunk",.bool false)::("matching_blocks",.none)::("opcodes",.none)::("fullbcount",.none)::("b2j",.ref σ1.nx)::[])/\∃kvs,σ'.hp σ1.nx=.dict kvs/\L1 σ'.hp (σ1.nx+1) σ'.nx kvs (B.take t)) (fun _=>False) (fun _ _=>False) ?_ ?_ ?_ ?_ (fun _ q=>q.elim) (fun _ _ q=>q.elim)
 ·refine ⟨⟨?_,?_,?_⟩,?_,?_,?_,?_⟩
  ·keq_rows
  ·keq_rows
  ·keq_rows
  ·repeat kwd_rel
  ·kwd_less
  ·kas_types
  ·exact ⟨[],by have:=Cj lds;kas_types,.nil⟩
 ·intros t σ2 xq01
  obtain ⟨_,g,_⟩:=xq01
  rw [g.hp lb llb (by simpa using hne2),hb]
 ·intros t x σ2 hx hI R hn' hc' u1 u2
  obtain ⟨⟨i1,i2,i3⟩,g,hx0,i4,kvs,i5,L⟩:=hI
  have zO:∃e,B[t]?=some e/\x=(t,e.val):=by
   have ht:t < B.length:=by
    have:=(List.getElem?_eq_some_iff.mp hx).1
    rw [Dk,List.length_map]at this;exact this
   have h3:(B.map Key.val)[t]?=some (B[t]'ht).val:=by rw [List.getElem?_map,List.getElem?_eq_getElem ht];rfl
   have h2:=Hi h3
   rw [h2]at hx
   exact ⟨B[t]'ht,List.getElem?_eq_getElem ht,(Option.some.inj hx).symm⟩
  obtain ⟨e,he,rfl⟩:=zO
  dsimp only
  have:=Ag hx0;repeat keq_hits
  have gL:∀l,Ak kvs e=some (.ref l)->σ1.nx+1<=l/\l < σ2.nx/\σ2.hp l=.list ((B6 (B.take t) e).map fun i:Nat=>.int i):=by
   intros l hu
   have:e∈B.take t:=Classical.byContradiction fun n=>by rw [L.not e n]at hu;cases hu
   obtain ⟨l',g1,g2,g3,g4⟩:=(L.has e this)
   rw [hu]at g1;cases g1;exact ⟨g2,g3,g4⟩
  refine GB (kvs:=kvs) (k:=e) ?_ rfl ?_ ?_ ?_
  ·have:=Ag hx0;kas_types
  ·have:=L.len;rw [List.length_take]at this;rw [sizeLine_eq];omega
  ·intros u hu
   have zO:∃l,u=.ref l:=by
    have:e∈B.take t:=Classical.byContradiction fun n=>by rw [L.not e n]at hu;cases hu
    obtain ⟨l',g1,_⟩:=(L.has e this)
    rw [hu]at g1;cases g1;exact ⟨l',rfl⟩
   obtain ⟨l,rfl⟩:=zO
   obtain ⟨g2,g3,g4⟩:=(gL l hu)
   have:=Ag g3;repeat keq_hits
   refine Bc (xs:=(B6 (B.take t) e).map fun i:Nat=>.int i) ?_ ?_ ?_
   ·have:=Ag g3;kas_types
   ·rw [List.length_map,sizeLine_eq]
    have:(B6 (B.take t) e).length<=t:=by
     unfold B6
     exact Nat.le_trans (List.length_filter_le ..) (by rw [List.length_range,List.length_take];omega)
    have:=(List.getElem?_eq_some_iff.mp he).1
    exact WW hB (by assumption) this
   repeat keq_hits
   refine hn' _ ⟨⟨?_,?_,?_⟩,?_,?_,?_,kvs,?_,?_⟩
   ·keq_rows
   ·keq_rows
   ·keq_rows
   ·have:=GL g2;repeat kwd_rel
   ·kwd_less
   ·have:=WV lds g2;have:=RI lds g2 g3;have:=WU lds g2 g3;kas_types
   ·have:=WT g2;have:=Ag hx0;kas_types
   ·refine L.old he hu ?_ ?_ ?_
    ·kwd_less
    ·rw [List.map_append,List.map_singleton];kas_types
    ·intros k k1 k2 k3
     have:=Ag k2;kas_types
  ·intros hu
   repeat keq_hits
   refine Bc (xs:=[]) ?_ ?_ ?_
   ·kas_types
   ·simp
   rw [List.nil_append]
   repeat keq_hits
   refine hn' _ ⟨⟨?_,?_,?_⟩,?_,?_,?_,kvs++[(e,.ref (σ2.nx+1))],?_,?_⟩
   ·keq_rows
   ·keq_rows
   ·keq_rows
   ·have:=Sy hx0;repeat kwd_rel
   ·kwd_less
   ·have:=Ds lds hx0;have:=Ag lds;have:=DJ lds hx0;kas_types
   ·rw [<- Lu hu];kas_types
   ·refine L.new he hu ?_ ?_ ?_ ?_ ?_
    ·exact EA
    ·exact WS hx0
    ·kwd_less
    ·kas_types
    ·intros k k1 k2
     have:=Rm k1;have:=Ag k2;kas_types
 ·intros σ' hI
  obtain ⟨⟨i1,i2,i3⟩,g,hx0,i4,kvs,i5,L⟩:=hI
  have gn:=g.nx
  rw [Dk,List.length_map,List.take_length]at L
  have e1:σ'.hp s=.inst 259 ds:=by rw [g.hp s ls (by simpa using hne)];exact hs
  have e2:σ'.hp lb=.list (B.map Key.val):=by rw [g.hp lb llb (by simpa using hne2)];exact hb
  have:=DJ ls hx0;have:=DJ lds hx0;repeat keq_hits
  have hJs:∀l∈S,l < σ1.nx:=fun l hl=>by rw [hn];exact hJ.lt l hl
  have hSd:∀l∈S,l≠ds:=fun l hl q=>hS (q▸hl)
  refine hJ.truth _ ?_ _ ?_
  ·intros l hl
   have k1:=hJs l hl
   have k2:=hSd l hl
   rw [<- hh,<- g.hp l k1 (by simpa using k2)]
   have:=WR hx0 k1;kas_types
  have:=Cj lds;have:=Ag hx0;repeat keq_hits
  refine Pv (kvs:=kvs) ?_ ?_
  ·have:=Cj lds;have:=Ag hx0;kas_types
  have:=Cj lds;have:=Ag hx0;repeat keq_hits
  intros co
  refine Ax (fun t σ2=>(σ2.loc "self"=some (.ref s)/\σ2.loc "b"=some (.ref lb)/\σ2.loc "b2j"=some (.ref σ1.nx)/\σ2.loc "junk"=some (.ref σ'.nx)/\σ2.loc "isjunk"=some fv)/\GroH [ds,σ1.nx] σ' σ2/\σ'.nx < σ2.nx/\σ2.hp ds=.idict (("isjunk",fv)::("a",av)::("b",.ref lb)::("autojunk",.bool false)::("matching_blocks",.none)::("opcodes",.none)::("fullbcount",.none)::("b2j",.ref σ1.nx)::("bjunk",.ref σ'.nx)::[])/\σ2.hp σ1.nx=.raw co/\∃xs,σ2.hp σ'.nx=.set xs/\(∀k,k∈xs↔k∈(kvs.map (·.1)).take t/\J k=true)/\xs.Nodup/\xs.length<=t) (fun _=>False) (fun _ _=>False) ?_ ?_ ?_ ?_ (fun _ q=>q.elim) (fun _ _ q=>q.elim)
  ·refine ⟨⟨?_,?_,?_,?_,?_⟩,?_,?_,?_,?_,[],?_,?_,.nil,Nat.le_refl _⟩
   ·keq_rows
   ·keq_rows
   ·keq_rows
   ·keq_rows
   ·keq_rows
   ·repeat kwd_rel
   ·kwd_less
   ·have:=Ag lds;have:=Ds lds hx0;kas_types
   ·kas_types
   ·have:=Cj hx0;have:=Rl lds hx0;kas_types
   ·simp
  ·intros t σ2 xq02
   obtain ⟨_,_,_,_,q,_⟩:=xq02
   exact q
  ·intros t x σ2 hx hI R hn' hc' u3 u4
   obtain ⟨⟨j1,j2,j3,j4,j5⟩,g2,hx2,j6,j7,xs,j8,j9,j10,j11⟩:=hI
   have zO:∃e,(kvs.map (·.1))[t]?=some e/\x=e.val:=by
    rw [show (kvs.map fun p=>p.1.val)=(kvs.map (·.1)).map Key.val by rw [List.map_map];rfl,List.getElem?_map]at hx
    cases q:(kvs.map (·.1))[t]? with
    | none=>rw [q]at hx;cases hx
    | some e=>rw [q]at hx;exact ⟨e,rfl,(Option.some.inj hx).symm⟩
   obtain ⟨e,he,rfl⟩:=zO
   have heB:e∈B:=by
    refine Classical.byContradiction ?_
    intros n
    have:=BU.mpr (List.mem_of_getElem? he)
    rw [L.not e n]at this;cases this
   have htl:t < kvs.length:=by
    have:=(List.getElem?_eq_some_iff.mp he).1
    rwa [List.length_map]at this
   have hlen:=L.len
   have gn2:=g2.nx
   have hSk:∀σ3:Mini.St,(∀l,l < σ'.nx->l≠ds->l≠σ1.nx->σ3.hp l=σ2.hp l)->∀l∈S,σ3.hp l=σ.hp l:=by
    intros σ3 q l hl
    have k1:=hJs l hl
    have k2:=hSd l hl
    have k3:l≠σ1.nx:=by exact Ag k1
    rw [q l (by exact Dr hx0 k1) k2 k3,g2.hp l (by exact Dr hx0 k1) (by simp;exact ⟨k2,k3⟩),g.hp l k1 (by simpa using k2),hh]
   try dsimp only
   repeat keq_hits
   refine ⟨hJ.keep _ (hSk _ fun l q1 q2 q3=>by kas_types),?_⟩
   refine hJ.call _ (hSk _ fun l q1 q2 q3=>by kas_types) e (hok e heB) _ ?_;intros σ3 g3
   have gn3:σ2.nx<=σ3.nx:=g3.nx
   have hq:∀l,l < σ2.nx->σ3.hp l=σ2.hp l:=fun l hl=>g3.hp l hl
   have a1:σ3.loc "self"=some (.ref s):=by rw [g3.loc];keq_rows
   have a2:σ3.loc "b"=some (.ref lb):=by rw [g3.loc];keq_rows
   have a3:σ3.loc "b2j"=some (.ref σ1.nx):=by rw [g3.loc];keq_rows
   have a4:σ3.loc "junk"=some (.ref σ'.nx):=by rw [g3.loc];keq_rows
   have a5:σ3.loc "isjunk"=some fv:=by rw [g3.loc];keq_rows
   have a6:σ3.loc "elt"=some e.val:=by rw [g3.loc];keq_rows
   have b1:=(hq ds (by exact H5 lds hx0 hx2)).trans j6
   have b2:=(hq σ1.nx (by exact Ds hx0 hx2)).trans j7
   have b3:=(hq σ'.nx (by omega)).trans j8
   have G3:GroH [ds,σ1.nx] σ' σ3:=⟨by exact Rs hx2 gn3,fun l hl hx=>(hq l (by exact Dr hx2 hl)).trans (g2.hp l hl hx)⟩
   have hnx:e∉xs:=by
    intros q
    have q1:=((j9 e).mp q).1
    obtain ⟨i,hi⟩:=List.mem_iff_getElem?.mp q1
    rw [List.getElem?_take]at hi
    split at hi
    ·rename_i hlt
     have:=(List.getElem?_inj (i:=i) (j:=t) (by rw [List.length_map];exact Dr htl hlt) L.nd).mp (by rw [hi,he])
     exact Rk hlt this
    ·cases hi
   have hmem:∀k,k∈(kvs.map (·.1)).take (t+1)↔k∈(kvs.map (·.1)).take t\/k=e:=fun k=>Az he
   refine OD ?_
   refine BE ?_ ?_
   ·intros hJe
    repeat keq_hits
    refine Up (xs:=xs) (k:=e) ?_ rfl ?_ ?_
    ·kas_types
    ·have:scanBound=4096:=rfl
     exact WQ hB j11 htl hlen this
    rw [if_neg hnx]
    repeat keq_hits
    refine hn' _ ⟨⟨?_,?_,?_,?_,?_⟩,?_,?_,?_,?_,xs++[e],?_,?_,?_,?_⟩
    ·keq_rows
    ·keq_rows
    ·keq_rows
    ·keq_rows
    ·keq_rows
    ·repeat kwd_rel
    ·have:=B8 hx2 gn3;kwd_less
    ·have:=DJ lds hx0;kas_types
    ·have:=Ag hx0;kas_types
    ·kas_types
    ·intros k
     rw [List.mem_append,List.mem_singleton,j9,hmem]
     constructor
     ·rintro (q | rfl)
      ·exact ⟨.inl q.1,q.2⟩
      ·exact ⟨.inr rfl,hJe⟩
     ·rintro ⟨q | rfl,q2⟩
      ·exact .inl ⟨q,q2⟩
      ·exact .inr rfl
    ·rw [List.nodup_append]
     exact ⟨j10,by simp,fun a ha b hb=>by rw [List.mem_singleton]at hb;subst hb;intro q;subst q;exact hnx ha⟩
    ·rw [List.length_append,List.length_singleton];exact zq2 j11
   ·intros hJe
    repeat keq_hits
    refine hn' _ ⟨⟨a1,a2,a3,a4,a5⟩,G3,by exact B8 hx2 gn3,b1,b2,xs,b3,?_,j10,by exact Hs j11⟩
    intros k
    rw [j9,hmem]
    constructor
    ·rintro q;exact ⟨.inl q.1,q.2⟩
    ·rintro ⟨q | rfl,q2⟩
     ·exact ⟨q,q2⟩
     ·rw [hJe]at q2;cases q2
  ·intros σ2 hI
   obtain ⟨⟨j1,j2,j3,j4,j5⟩,g2,hx2,j6,j7,xs,j8,j9,j10,j11⟩:=hI
   have gn2:=g2.nx
   refine ⟨j7,?_⟩
   rw [List.length_map,<- List.length_map (f:=(·.1)),List.take_length]at j9
   have c1:σ2.hp s=.inst 259 ds:=by rw [g2.hp s (by exact Ds ls hx0) (by simp;exact ⟨hne,by exact Ag ls⟩)];exact e1
   have c2:σ2.hp lb=.list (B.map Key.val):=by rw [g2.hp lb (by exact Ds llb hx0) (by simp;exact ⟨hne2,by exact Ag llb⟩)];exact e2
   have:=Cj hx0;repeat keq_hits
   intros co2 ys hys
   refine Ax (fun t σ4=>(σ4.loc "self"=some (.ref s)/\σ4.loc "b"=some (.ref lb)/\σ4.loc "b2j"=some (.ref σ1.nx))/\GroH [ds,σ1.nx] σ' σ4/\σ'.nx < σ4.nx/\σ4.hp ds=.idict (("isjunk",fv)::("a",av)::("b",.ref lb)::("autojunk",.bool false)::("matching_blocks",.none)::("opcodes",.none)::("fullbcount",.none)::("b2j",.ref σ1.nx)::("bjunk",.ref σ'.nx)::[])/\σ4.hp σ'.nx=.raw co2/\∃kvs',σ4.hp σ1.nx=.dict kvs'/\(∀k,Ak kvs' k=if k∈ys.take t then none else Ak kvs k)/\kvs'.length<=kvs.length) (fun _=>False) (fun _ _=>False) ?_ ?_ ?_ ?_ (fun _ q=>q.elim) (fun _ _ q=>q.elim)
   ·refine ⟨⟨?_,?_,?_⟩,?_,?_,?_,?_,kvs,?_,?_,Nat.le_refl _⟩
    ·keq_rows
    ·keq_rows
    ·keq_rows
    ·repeat kwd_rel
    ·kwd_less
    ·have:=DJ lds hx0;have:=Ag lds;kas_types
    ·kas_types
    ·have:=Ag hx0;kas_types
    ·intros k;simp
   ·intros t σ4 xq03
    obtain ⟨_,_,_,_,q,_⟩:=xq03
    exact q
   ·intros t x σ4 hx hI R hn' hc' u5 u6
    obtain ⟨⟨d1,d2,d3⟩,g4,hx4,d4,d5,kv4,d6,d7,d8⟩:=hI
    have gn4:=g4.nx
    have zO:∃e,ys[t]?=some e/\x=e.val:=by
     rw [List.getElem?_map]at hx
     cases q:ys[t]? with
     | none=>rw [q]at hx;cases hx
     | some e=>rw [q]at hx;exact ⟨e,rfl,(Option.some.inj hx).symm⟩
    obtain ⟨e,he,rfl⟩:=zO
    have hyn:ys.Nodup:=hys.nodup_iff.mpr j10
    have het:e∉ys.take t:=by
     intros q
     obtain ⟨i,hi⟩:=List.mem_iff_getElem?.mp q
     rw [List.getElem?_take]at hi
     split at hi
     ·rename_i hlt
      have hil:i < ys.length:=(List.getElem?_eq_some_iff.mp hi).1
      have:=(List.getElem?_inj (i:=i) (j:=t) hil hyn).mp (by rw [hi,he])
      exact Rk hlt this
     ·cases hi
    have hek:(Ak kv4 e).isSome=true:=by
     rw [d7,if_neg het]
     exact BU.mpr ((j9 e).mp (hys.mem_iff.mp (List.mem_of_getElem? he))).1
    have hlen:=L.len
    try dsimp only
    repeat keq_hits
    refine Pm (kvs:=kv4) (k:=e) ?_ rfl ?_ hek ?_
    ·kas_types
    ·rw [sizeLine_eq];exact WP hB d8 hlen
    repeat keq_hits
    refine hn' _ ⟨⟨?_,?_,?_⟩,?_,?_,?_,?_,EL kv4 e,?_,?_,?_⟩
    ·keq_rows
    ·keq_rows
    ·keq_rows
    ·repeat kwd_rel
    ·kwd_less
    ·have:=Ag lds;kas_types
    ·have:=Cj hx0;kas_types
    ·kas_types
    ·intros k
     rw [Lw,d7]
     by_cases q:k=e
     ·rw [if_pos q,if_pos (((Az he).mpr (.inr q)))]
     ·rw [if_neg q]
      by_cases q2:k∈ys.take t
      ·rw [if_pos q2,if_pos ((Az he).mpr (.inl q2))]
      ·rw [if_neg q2,if_neg (fun r=>((Az he).mp r).elim q2 q)]
    ·have:=HK kv4 e;exact WO d8 this
   ·intros σ4 hI
    obtain ⟨⟨d1,d2,d3⟩,g4,hx4,d4,d5,kv4,d6,d7,d8⟩:=hI
    have gn4:=g4.nx
    refine ⟨d5,?_⟩
    rw [List.length_map,List.take_length]at d7
    have f1:σ4.hp s=.inst 259 ds:=by rw [g4.hp s (by exact Ds ls hx0) (by simp;exact ⟨hne,by exact Ag ls⟩)];exact e1
    have f2:σ4.hp lb=.list (B.map Key.val):=by rw [g4.hp lb (by exact Ds llb hx0) (by simp;exact ⟨hne2,by exact Ag llb⟩)];exact e2
    have:=H5 ls hx0 hx4;have:=DJ ls hx0;have:=H5 lds hx0 hx4;have:=DJ lds hx0;repeat keq_hits
    refine F3 (xs:=B.map Key.val) ?_ ?_ ?_
    ·have:=H5 llb hx0 hx4;have:=DJ llb hx0;kas_types
    ·rw [List.length_map,sizeLine_eq];exact GK hB
    have:=H5 ls hx0 hx4;have:=DJ ls hx0;repeat keq_hits
    refine h _ σ1.nx σ'.nx σ4.nx kv4 xs (.of hh hn ?_) ?_ ?_ ?_ ?_ ?_ ?_ ?_ ?_ ?_ ?_
    ·have:GroH [ds,σ1.nx] σ' {loc:=σ4.loc,hp:=σ4.hp,nx:=σ4.nx}:=g4
     have g5:GroH [ds] σ1 σ4:=⟨by exact WN hx0 hx4,fun l hl hx=>by
      have:l≠ds:=by simpa using hx
      rw [g4.hp l (by exact Dr hx0 hl) (by simp;exact ⟨this,by exact Ag hl⟩),g.hp l hl hx]⟩
     repeat kwd_rel
    ·dsimp only
     unfold iD4
     kas_types
    ·exact Ko hn
    ·dsimp only
     have:=Ds hx0 hx4;kwd_less
    ·exact WM hn hx0
    ·dsimp only
     kwd_less
    ·dsimp only
     have:=Cj lds;have:=Ds hx0 hx4;have:=Ag hx0;kas_types
    ·intros k hk hkJ
     obtain ⟨l,r1,r2,r3,r4⟩:=(L.has k hk)
     refine ⟨l,?_,by exact WK hn r2,?_,?_⟩
     ·rw [d7,if_neg]
      ·exact r1
      ·intros q
       have:=((j9 k).mp (hys.mem_iff.mp q)).2
       rw [hkJ]at this;cases this
     ·dsimp only
      have:=Dr hx4 r3;kwd_less
     ·dsimp only
      have hlds:l≠ds:=by exact WJ lds r2
      have hl5:σ4.hp l=.list ((B6 B k).map fun i:Nat=>.int i):=by rw [g4.hp l r3 (by simp;exact ⟨hlds,by exact Rm r2⟩)];exact r4
      have:=Dr hx4 r3;have:=Ag r3;kas_types
    ·intros k hk
     rw [d7]
     split
     ·rfl
     ·rename_i q
      rcases hk with hk | hk
      ·exact L.not k hk
      ·refine Classical.byContradiction ?_;intros n;refine q ?_
       refine hys.mem_iff.mpr ((j9 k).mpr ⟨BU.mp ?_,hk⟩)
       cases e:Ak kvs k with
       | none=>exact absurd e n
       | some _=>rfl
    ·dsimp only
     have:=Rl lds hx0;kas_types
    ·intros k
     rw [j9]
     constructor
     ·intros xq04
      obtain ⟨q,q2⟩:=xq04
      refine ⟨Classical.byContradiction ?_,q2⟩;intros n
      have:=BU.mpr q
      rw [L.not k n]at this;cases this
     ·intros xq05
      obtain ⟨q,q2⟩:=xq05
      refine ⟨BU.mp ?_,q2⟩
      obtain ⟨l,r1,_⟩:=(L.has k q)
      rw [r1];rfl
end
mutual
theorem JF.mono {P:Ql} {d:QH} {fv:QU} {J:Yb->Qu} {ok:Yb->Prop} {S:QC QH} {σ XF:QE} (h:JF P d fv J ok S σ) (hn:QO<=Xg) (hs:∀l∈S,X4 l=QS l):JF P d fv J ok S XF where
 lt:=fun l hl=>QQ (h.lt l hl) hn
 hand:=h.hand
 truth:=fun σ2 q=>h.truth σ2 fun l hl=>(q l hl).QR (hs l hl)
 Q4V:=fun σ2 q=>h.keep σ2 fun l hl=>(q l hl).QR (hs l hl)
 Q0M:=fun σ2 q=>h.call σ2 fun l hl=>(q l hl).QR (hs l hl)
structure SMOk (hp:QH->Ob) (hi:QH) (s ds bj js bp la lb:QH) (fv mb:QU) (Y4:QC (Yb×QU)) (xs A B:QC Yb) (J:Yb->Qu):Prop where
 Q5C:hp s=.Q5C 259 ds
 Q1V:hp ds=.Q1V [("isjunk",fv),("a",.QP la),("b",.QP lb),("autojunk",.Yn QJ),("matching_blocks",mb),("opcodes",.QG),("fullbcount",.QG),("b2j",.QP bj),("bjunk",.QP js),("bpopular",.QP bp)]
 a:hp la=.Qs (Q93 Q10)
 b:hp lb=.Qs (Q94 Q10)
 b2j:hp bj=.Q01 Y4
 junk:hp js=.set xs
 has:∀k,k∈B->J k=QJ->∃l,Ak Y4 k=QB (.QP l)/\l < hi/\l≠ds/\hp l=.Qs ((B6 B k).map fun i:QH=>.Qm i)
 not:∀k,(k∉B\/J k=QM)->Ak Y4 k=QG
 mem:∀k,k∈xs↔k∈B/\J k=QM
 ls:s < hi
 lds:ds < hi
 lla:la < hi
 llb:lb < hi
 lbj:bj < hi
 ljs:js < hi
 sds:s≠ds
 ads:la≠ds
 bds:lb≠ds
 jds:bj≠ds
 sjs:js≠ds
end
section
variable {P:Params} {d:Nat} {σ:Mini.St}
mutual
theorem LG {s ds lb:QH} {fv av:QU} {B:QC Yb} {J:Yb->Qu} {ok:Yb->Prop} {S:QC QH} {Q:QU->QE->Prop} (hs:QS s=.Q5C 259 ds) (hd:QS ds=.Q1V (iD2 fv av)) (hb:QS lb=.Qs (Q94 Q10))
  (hne:s≠ds) (hne2:lb≠ds) (ls:s < QO) (lds:ds < QO) (llb:lb < QO) (hB:Xm<=4000) (hJ:JF P d fv J ok S σ) (hok:∀k∈B,ok k) (hS:ds∉S) (hH:Bf fv=QM) (hHa:Bf av=QM)
  (h:∀XF bj js bp Y4 xs,QGC [ds] σ XF->X4 ds=.Q1V (iD4 fv av (.QP lb) (.QP bj) (.QP js) (.QP bp))->QO<=bj->bj < Xg->QO<=js->js < Xg->X4 bj=.Q01 Y4 ->
   (∀k,k∈B->J k=QJ->∃l,Ak Y4 k=QB (.QP l)/\QO<=l/\l < Xg/\X4 l=.Qs ((B6 B k).map fun i:QH=>.Qm i))->(∀k,(k∉B\/J k=QM)->Ak Y4 k=QG) ->
   X4 js=.set xs->(∀k,k∈xs↔k∈B/\J k=QM)->Q .QG XF) :
  Ae (G P) (d+2) (.imm (.QP 198)) [.QP s,.QP lb] σ Q:=by
 injections P d σ s ds lb fv av B J ok S Q _ _ _ _ _ _ _ _ _ _ _ _ _ _ _
 refine BQ (AE (BO P) QA ?_ ?_ 40 ?_)
 ·kernel_rfl
 ·kernel_rfl
 intros σ1 hh hn hl
 have h1:ZX "self"=QB (.QP s):=hl _ _ (by kernel_rfl)
 have h2:ZX "b"=QB (.QP lb):=hl _ _ (by kernel_rfl)
 rw [<- hh]at hs hd hb
 rw [<- hn]at ls lds llb
 unfold iD2 at hd
 refine Ar ?_
 repeat keq_hits
 refine J6 (B:=B) (J:=J) (ok:=ok) (S:=S) (fv:=fv) (av:=av) ?_ ?_ ?_ hne hne2 ls lds llb hB ?_ hok hS hH hHa ?_
 ·kas_types
 ·unfold iD3;kas_types
 ·kas_types
 ·refine QF3 (by have:=Ko hn;kwd_less) ?_;intros l hl
  rw [<- hh]
  have:l≠ds:=fun q=>hS (q▸hl)
  kas_types
 intros XF bj js bp Y4 xs g g1 g2 g3 g4 g5 g6 g7 g8 g9 g10
 repeat keq_hits
 have gn:=Q7U
 refine h _ bj js bp Y4 xs ⟨?_,QA,?_⟩ g1 (by rw [<- hn];exact g2) g3 (by rw [<- hn];exact g4) g5 g6 ?_ g8 g9 g10
 ·rw [<- hn];exact gn
 ·intros l hl hx
  have hx':l≠ds:=by simpa using hx
  rw [<- hn]at hl
  refine (Q1Y l hl hx).QR ?_
  rw [<- hh]
  kas_types
 ·intros k k1 k2
  obtain ⟨l,r1,r2,r3,r4⟩:=(g7 k k1 k2)
  exact ⟨l,r1,by rw [<- hn];exact r2,r3,r4⟩
theorem LF {s ds la lb:QH} {fv:QU} {A B:QC Yb} {J:Yb->Qu} {ok:Yb->Prop} {S:QC QH} {Q:QU->QE->Prop} (hs:QS s=.Q5C 259 ds) (hd:QS ds=.Q1V (iD1 fv)) (ha:QS la=.Qs (Q93 Q10)) (hb:QS lb=.Qs (Q94 Q10))
  (hne:s≠ds) (hne1:la≠ds) (hne2:lb≠ds) (ls:s < QO) (lds:ds < QO) (lla:la < QO) (llb:lb < QO) (hB:Xm<=4000) (hJ:JF P d fv J ok S σ) (hok:∀k∈B,ok k) (hS:ds∉S) (hH:Bf fv=QM)
  (h:∀XF bj js bp Y4 xs,QGC [ds] σ XF->SMOk X4 Xg s ds bj js bp la lb fv .QG Y4 xs A B J->Q .QG XF) :
  Ae (G P) (d+3) (.imm (.QP 184)) [.QP s,.QP la,.QP lb] σ Q:=by
 injections P d σ s ds la lb fv A B J ok S Q _ _ _ _ _ _ _ _ _ _ _ _ _ _ _ _ _
 refine BQ (AE (BN P) QA ?_ ?_ 40 ?_)
 ·kernel_rfl
 ·kernel_rfl
 intros σ1 hh hn hl
 have h1:ZX "self"=QB (.QP s):=hl _ _ (by kernel_rfl)
 have h2:ZX "a"=QB (.QP la):=hl _ _ (by kernel_rfl)
 have h3:ZX "b"=QB (.QP lb):=hl _ _ (by kernel_rfl)
 rw [<- hh]at hs hd ha hb
 rw [<- hn]at ls lds lla llb
 unfold iD1 at hd
 refine Ar ?_
 repeat keq_hits
 have hd':Q24 ds=.Q1V (iD1 fv):=hd
 refine LH hs hd' hne ?_;intros σ2 g k1
 have gn:=Q7U
 have c1:Yy s=.Q5C 259 ds:=(Q1Y s ls (by simpa using hne)).QR hs
 have c2:Yy la=.Qs (Q93 Q10):=(Q1Y la lla (by simpa using hne1)).QR ha
 have c3:Yy lb=.Qs (Q94 Q10):=(Q1Y lb llb (by simpa using hne2)).QR hb
 unfold iD2 at k1
 have a1:Q3t "self"=QB (.QP s):=by rw [QAH];exact h1
 have a3:Q3t "b"=QB (.QP lb):=by rw [QAH];exact h3
 repeat keq_hits
 have hSl:∀l∈S,l≠ds/\l < YB:=fun l hl=>⟨fun q=>hS (q▸hl),by rw [hn];exact hJ.lt l hl⟩
 refine LG (B:=B) (J:=J) (ok:=ok) (S:=S) c1 (show Yy ds=.Q1V (iD2 fv (.QP la)) from k1) c3 hne hne2 (by exact B8 ls gn) (by exact B8 lds gn) (by exact B8 llb gn) hB (QF3 (by exact WH hn gn) ?_) hok hS hH QA ?_
 ·intros l hl
  rw [<- hh]
  exact Q1Y l (hSl l hl).2 (by simpa using (hSl l hl).1)
 intros σ3 bj js bp Y4 xs g' g1 g2 g3 g4 g5 g6 g7 g8 g9 g10
 have gn':=Q4u
 repeat keq_hits
 have gg:QGC [ds] σ1 {σ3 with loc:=ZX}:=⟨by show YB<=Q0h;exact WG gn g4 g5,QA,fun l hl hx=>(Q0O l (by exact Be gn hl) hx).QR (Q1Y l hl hx)⟩
 refine h _ bj js bp Y4 xs ⟨by rw [<- hn];exact gg.nx,QA,fun l hl hx=>by rw [<- hh];exact gg.hp l (by rw [hn];exact hl) hx⟩ ?_
 exact {
     Q5C:=(Q0O s (by exact B8 ls gn) (by simpa using hne)).QR c1,Q1V:=g1,a:=(Q0O la (by exact B8 lla gn) (by simpa using hne1)).QR c2,b:=(Q0O lb (by exact B8 llb gn) (by simpa using hne2)).QR c3,b2j:=g6,junk:=g9,has:=fun k q1 q2=>by
      refine ew1 (g7 k q1 q2) fun l yq8w=>?_;refine an4 yq8w fun r1 r2 r3 r4=>?_;clear yq8w
      exact ⟨l,r1,r3,by exact L5 lds gn r2,r4⟩
     not:=g8,mem:=g10,ls:=(by show s < Q0h;exact Kj ls gn g4 g5),lds:=(by show ds < Q0h;exact Kj lds gn g4 g5),lla:=(by show la < Q0h;exact Kj lla gn g4 g5),llb:=(by show lb < Q0h;exact Kj llb gn g4 g5),lbj:=g3,ljs:=g5,sds:=hne,ads:=hne1,bds:=hne2,jds:=(by exact L5 lds gn g2),sjs:=(by exact L5 lds gn g4)}
theorem Px {la lb:QH} {fv:QU} {A B:QC Yb} {J:Yb->Qu} {ok:Yb->Prop} {S:QC QH} {Q:QU->QE->Prop} (ha:QS la=.Qs (Q93 Q10)) (hb:QS lb=.Qs (Q94 Q10))
  (lla:la < QO) (llb:lb < QO) (hB:Xm<=4000) (hJ:JF P d fv J ok S σ) (hok:∀k∈B,ok k) (hH:Bf fv=QM)
  (h:∀XF s ds bj js bp Y4 xs,Gro σ XF->QO<=s->QO<=ds->SMOk X4 Xg s ds bj js bp la lb fv .QG Y4 xs A B J->Q (.QP s) XF) :
  Ae (G P) (d+4) (.imm (.QP 259)) [fv,.QP la,.QP lb,.Yn QJ] σ Q:=by
 injections P d σ la lb fv A B J ok S Q _ _ _ _ _ _ _ _ _
 refine N1 ⟨177,Np P,by kernel_rfl,by kernel_rfl,?_⟩
 refine AE (B7 P) QA ?_ ?_ 40 ?_
 ·kernel_rfl
 ·kernel_rfl
 intros σ1 hh hn hl
 have h1:ZX "self"=QB (.QP (QO+1)):=hl _ _ (by kernel_rfl)
 have h2:ZX "isjunk"=QB fv:=hl _ _ (by kernel_rfl)
 have h3:ZX "a"=QB (.QP la):=hl _ _ (by kernel_rfl)
 have h4:ZX "b"=QB (.QP lb):=hl _ _ (by kernel_rfl)
 have h5:ZX "autojunk"=QB (.Yn QJ):=hl _ _ (by kernel_rfl)
 have hn2:YB=QO+2:=hn
 have hs:Q24 (QO+1)=.Q5C 259 QO:=by rw [hh];kas_types
 have hd:Q24 QO=.Q1V []:=by rw [hh];kas_types
 have ha1:Q24 la=.Qs (Q93 Q10):=by rw [hh];have:=Ag lla;kas_types
 have hb1:Q24 lb=.Qs (Q94 Q10):=by rw [hh];have:=Ag llb;kas_types
 have hold:∀l,l < QO->Q24 l=QS l:=fun l hl=>by rw [hh];have:=Ag hl;kas_types
 refine Ar ?_
 repeat keq_hits
 refine LF (A:=A) (B:=B) (J:=J) (ok:=ok) (S:=S) (fv:=fv) (ds:=QO) (la:=la) (lb:=lb) ?_ ?_ ?_ ?_ (by exact acd) (by exact Ag lla) (by exact Ag llb) ?_ ?_ ?_ ?_ hB ?_ hok ?_ hH ?_
 ·kas_types
 ·unfold iD1;kas_types
 ·have:=Ag lla;kas_types
 ·have:=Ag llb;kas_types
 ·have:=WF hn2;kwd_less
 ·have:=WE hn2;kwd_less
 ·have:=Rj lla hn2;kwd_less
 ·have:=Rj llb hn2;kwd_less
 ·refine QF3 ?_ ?_
  ·have:=Ri hn2;kwd_less
  intros l hl
  have:=hJ.lt l hl
  rw [<- hold l this]
  have:=Ag this;kas_types
 ·intros q
  have:=hJ.lt _ q
  exact WD this
 intros σ2 bj js bp Y4 xs g sm
 have gn:=Q7U
 repeat keq_hits
 refine ⟨QA,h _ (QO+1) QO bj js bp Y4 xs ⟨?_,QA,?_⟩ (by exact EA) (Qh _) sm⟩
 ·dsimp only
  refine Y1 ?_ gn
  have:=Ri hn2;kwd_less
 ·intros l hl
  dsimp only
  rw [Q1Y l (by have:=WC hn2 hl;kwd_less) (by simp;exact Ag hl),<- hold l hl]
  have:=Ag hl;kas_types
end
end
mutual
def MM (A B:QC Yb) (i j:QH):Qu:=match A[i]?,B[j]? with
 | QB x,QB y=>XV (x=y)
 | _,_=>QJ
def UU (B:QC Yb) (J:Yb->Qu) (j:QH):Qu:=match B[j]? with
 | QB y=>J y
 | QG=>QJ
theorem JM {A B:QC Yb} {i j:QH}:MM A B i j=QM↔∃x,A[i]?=QB x/\B[j]?=QB x:=by
 unfold MM
 cases ha:A[i]? with
 | QG=>simp
 | QB x =>
  cases hb:B[j]? with
  | QG=>simp
  | QB y =>
   simp only [Xl]
   constructor
   ·rintro QA;exact ⟨x,QA,QA⟩
   ·rintro ⟨z,h1,h2⟩;cases h1;cases h2;rfl
theorem M1 {hp:QH->Ob} {hi s ds bj js bp la lb no:QH} {fv mb:QU} {Y4:QC (Yb×QU)} {xs A B:QC Yb} {J:Yb->Qu} (sm:SMOk hp hi s ds bj js bp la lb fv mb Y4 xs A B J) {hp':QH->Ob} (hno:hp' no=.Qs []) (hk:∀l,l < hi->hp' l=hp l) {i:QH} {k:Yb} (hi:A[i]?=QB k) :
  ∃(l:QH) (L:QC QH),(Ak Y4 k).Q4f (.QP no)=.QP l/\hp' l=.Qs (L.map fun i:QH=>.Qm i)/\(∀j,j∈L↔MM A B i j=QM/\UU B J j=QJ)/\Q5U (· < ·)/\(∀j∈L,j < Xm)/\Q6b<=Xm:=by
 have len:(B6 B k).ZT<=Xm:=by
  unfold B6;exact Y1 (Q42 ..) (by rw [Y8];exact Qh _)
 have nomem:(k∉B\/J k=QM)->∀j,¬(MM A B i j=QM/\UU B J j=QJ):=by
  intro h j Q2T
  obtain (⟨h1,h2⟩):=Q2T
  refine ew1 (JM.mp h1) fun x yq8x=>?_;refine an2 yq8x fun e1 e2=>?_;clear yq8x
  rw [hi]at e1;cases e1
  unfold UU at h2
  rw [e2]at h2
  dsimp only at h2
  rcases h with h | h
  ·exact h (XE e2)
  ·rw [h]at h2;cases h2
 by_cases hB:k∈B
 ·cases hJ:J k with
  | QJ =>
   refine ew1 (sm.has k hB hJ) fun l yq8y=>?_;refine an4 yq8y fun h1 h2 h3 h4=>?_;clear yq8y
   refine ⟨l,B6 B k,by rw [h1];rfl,by rw [hk l h2];exact h4,fun j=>?_,I3 B k,fun j hj=>?_,len⟩
   ·rw [IR]
    constructor
    ·intro q;exact ⟨JM.mpr ⟨k,hi,q⟩,by unfold UU;rw [q];exact hJ⟩
    ·intro Q6g
     obtain (⟨q,_⟩):=Q6g
     refine ew1 (JM.mp q) fun x yq8z=>?_;refine an2 yq8z fun e1 e2=>?_;clear yq8z
     rw [hi]at e1;cases e1;exact e2
   ·exact (QX (IR.mp hj)).1
  | QM =>
   rw [sm.not k (.inr hJ)]
   exact ⟨no,[],QA,hno,fun j=>⟨fun q=>(by cases q),fun q=>(nomem (.inr hJ) j q).Q32⟩,.Zl,fun j q=>(by cases q),XT _⟩
 ·rw [sm.not k (.inl hB)]
  exact ⟨no,[],QA,hno,fun j=>⟨fun q=>(by cases q),fun q=>(nomem (.inl hB) j q).Q32⟩,.Zl,fun j q=>(by cases q),XT _⟩
def Ei (M:QH->QH->Qu) (U:QH->Qu) (w:Win) (i:QH) (C:QH->Prop) (kv:QC (Yb×QU)):Prop :=
 ∀z:X3,(∀y:QH,z=y->C y->Xz<=y->y < Q0F->0 < An M U Xy Xz i y->Ak kv (.i z)=QB (.Qm (An M U Xy Xz i y))) /\
  ((∀y:QH,z=y->C y->Xz<=y->y < Q0F->An M U Xy Xz i y=0)->Ak kv (.i z)=QG)
theorem Ei.prev {M:QH->QH->Qu} {U:QH->Qu} {w:Win} {i t j:QH} {kv:QC (Yb×QU)} (h:Ei M U w (i - 1) (fun _=>0 < t) kv) (hi:Xy+t=i) (hj:j < Q0F) :
  (Ak kv (.i ((j:X3) - 1))).Q4f (.Qm 0)=.Qm (FA M U Xy Xz i j):=by
 obtain (⟨h1,h2⟩):=h ((j:X3) - 1)
 cases i with
 | Q2Q =>
  rw [h2 fun y _ q=>by omega]
  cases j <;> rfl
 | Q2R i =>
  cases j with
  | Q2Q=>rw [h2 fun y q=>by omega];rfl
  | Q2R j =>
   show _=Q11 (An M U Xy Xz i j)
   by_cases r:0 < An M U Xy Xz i j
   ·have:¬(i < Xy\/j < Xz):=fun q=>by rw [M0 M U _ _ _ _ q]at r;exact Rh r
    rw [h1 j (by exact ia1 (Kg)) (by omega) (by omega) (by exact GO hj) r];rfl
   ·rw [h2 fun y q _ _ _=>?_]
    ·rw [Q78 r];rfl
    ·have:y=j:=by omega
     subst this;exact Q78 r
theorem Ei.skip {M:QH->QH->Qu} {U:QH->Qu} {w:Win} {i:QH} {C C':QH->Prop} {kv:QC (Yb×QU)} (h:Ei M U w i C kv) (hC:∀y,Xz<=y->y < Q0F->0 < An M U Xy Xz i y->(C y↔C' y)):Ei M U w i C' kv:=fun z=>by
 obtain (⟨h1,h2⟩):=h z
 refine ⟨fun y q c a b r=>h1 y q ((hC y a b r).mpr c) a b r,fun q=>h2 fun y e c a b=>?_⟩
 refine Q15 fun n=>?_
 have r:0 < An M U Xy Xz i y:=Q5H n
 exact n (q y e ((hC y a b r).mp c) a b)
theorem Ei.add {M:QH->QH->Qu} {U:QH->Qu} {w:Win} {i j:QH} {C C':QH->Prop} {kv:QC (Yb×QU)} (h:Ei M U w i C kv) (hC:∀y,C' y↔C y\/y=j) (hb:Xz<=j) (hb2:j < Q0F) (hr:0 < An M U Xy Xz i j) :
  Ei M U w i C' (Ce kv (.i j) (.Qm (An M U Xy Xz i j))):=fun z=>by
 obtain (⟨h1,h2⟩):=h z
 rw [Lv]
 by_cases e:z=j
 ·subst e
  rw [QY QA]
  refine ⟨fun y q _ _ _ _=>?_,fun q=>?_⟩
  ·have:y=j:=by exact UV (Q0p q)
   rw [this]
  ·have:=q j QA ((hC j).mpr (.inr QA)) hb hb2
   omega
 ·rw [QN fun q=>e (by cases q;rfl)]
  refine ⟨fun y q c a b r=>h1 y q (((hC y).mp c).Q91 fun n=>e (by rw [q,n])) a b r,fun q=>h2 fun y e c a b=>q y e ((hC y).mpr (.inl c)) a b⟩
structure FS (σ1 XF:QE) (la lb js:QH) (w:Win) (x y z:QH):Prop where
 a:Y9 "a"=QB (.QP la)
 b:Y9 "b"=QB (.QP lb)
 isb:Y9 "isbjunk"=QB (.QP YB)
 alo:Y9 "alo"=QB (.Qm Xy)
 ahi:Y9 "ahi"=QB (.Qm Q0N)
 blo:Y9 "blo"=QB (.Qm Xz)
 bhi:Y9 "bhi"=QB (.Qm Q0F)
 bi:Y9 "besti"=QB (.Qm x)
 bj:Y9 "bestj"=QB (.Qm y)
 bz:Y9 "bestsize"=QB (.Qm z)
 g:YP [] σ1 XF
 hx:YB < Xg
 bm:X4 YB=.bm "set.__contains__" (.QP js)
end
section
variable {P:Params} {d:Nat} {σ:Mini.St}
theorem N5 {s ds bj js bp la lb:Nat} {fv mb:Val} {kvs:List (Key×Val)} {xs A B:List Key} {J:Key->Bool} {w:Win} {Q:Val->Mini.St->Prop} (sm:SMOk σ.hp σ.nx s ds bj js bp la lb fv mb kvs xs A B J) (hw1:w.alo<=w.ahi) (hw2:w.ahi<=A.length) (hw3:w.blo<=w.bhi) (hw4:w.bhi<=B.length)
  (hA:A.length<=4000) (hB:B.length<=4000) (hlk:∀x∈A,∀y∈B,KS x y=true)
  (h:∀σ' l (i j k:Nat),Gro σ σ'->σ.nx<=l->l < σ'.nx->σ'.hp l=.sub 152 [.int i,.int j,.int k]->Flm (MM A B) (UU B J) w i j k->Q (.ref l) σ') :
  Ae (G P) (d+2) (.imm (.ref 213)) [.ref s,.int w.alo,.int w.ahi,.int w.blo,.int w.bhi] σ Q:=by
 injections P d σ s ds bj js bp la lb fv mb kvs xs A B J w Q _ _ _ _ _ _ _ _ _
 refine BQ (AE (AY P) rfl ?_ ?_ 40 ?_)
 ·kernel_rfl
 ·kernel_rfl
 intros σ1 hh hn hl
 have h1:σ1.loc "self"=some (.ref s):=hl _ _ (by kernel_rfl)
 have h2:σ1.loc "alo"=some (.int w.alo):=hl _ _ (by kernel_rfl)
 have h3:σ1.loc "ahi"=some (.int w.ahi):=hl _ _ (by kernel_rfl)
 have h4:σ1.loc "blo"=some (.int w.blo):=hl _ _ (by kernel_rfl)
 have h5:σ1.loc "bhi"=some (.int w.bhi):=hl _ _ (by kernel_rfl)
 rw [<- hh,<- hn]at sm
 have c1:=sm.inst
 have c2:=sm.idict
 have c3:=sm.a
 have c4:=sm.b
 have c5:=sm.b2j
 have c6:=sm.junk
 have l1:=sm.ls
 have l2:=sm.lds
 have l3:=sm.lla
 have l4:=sm.llb
 have l5:=sm.lbj
 have l6:=sm.ljs
 refine Ar ?_
 repeat keq_hits
 refine M7 (a:=w.alo) (b:=w.ahi) (s:=1) ?_ (CX hw1 (by exact WB hw2 hA)) (by rw [A5 hw1];exact Int.ofNat_le.mpr (UT)) ?_
 ·kas_types
 have hF:∀l,l < σ1.nx->l≠σ1.nx:=fun l h=>Nat.ne_of_lt h
 refine Ax (fun t σ2=>(σ2.loc "a"=some (.ref la)/\σ2.loc "b"=some (.ref lb)/\σ2.loc "b2j"=some (.ref bj)/\σ2.loc "isbjunk"=some (.ref σ1.nx)/\σ2.loc "alo"=some (.int w.alo)/\σ2.loc "ahi"=some (.int w.ahi)/\σ2.loc "blo"=some (.int w.blo)/\σ2.loc "bhi"=some (.int w.bhi)/\σ2.loc "nothing"=some (.ref (σ1.nx+4)))/\GroH [] σ1 σ2/\σ1.nx+4 < σ2.nx/\σ2.hp σ1.nx=.bm "set.__contains__" (.ref js)/\σ2.hp (σ1.nx+4)=.list []/\(∃x y z:Nat,σ2.loc "besti"=some (.int x)/\σ2.loc "bestj"=some (.int y)/\σ2.loc "bestsize"=some (.int z)/\Bst (MM A B) (UU B J) w.alo w.blo (fun x y=>w.alo<=x/\x < w.alo+t/\w.blo<=y/\y < w.bhi) (x,y,z))/\∃jl kv,σ2.loc "j2len"=some (.ref jl)/\σ1.nx<=jl/\jl < σ2.nx/\σ2.hp jl=.dict kv/\Ei (MM A B) (UU B J) w (w.alo+t - 1) (fun _=>0 < t) kv) (fun _=>False) (fun _ _=>False) ?_ (fun _ _ _=>trivial) ?_ ?_ (fun _ q=>q.elim) (fun _ _ q=>q.elim)
 ·refine ⟨⟨?_,?_,?_,?_,?_,?_,?_,?_,?_⟩,?_,?_,?_,?_,⟨w.alo,w.blo,0,?_,?_,?_,.inl ⟨rfl,fun x y q=>by omega⟩⟩,σ1.nx+3,[],?_,?_,?_,?_,fun z=>⟨fun _ _ q=>by omega,fun _=>rfl⟩⟩
  all_goals first | keq_rows | kas_types | kwd_less | (repeat kwd_rel)
 ·intros t x σ2 hx hI R hn' hc' u1 u2
  obtain ⟨⟨i1,i2,i3,i4,i5,i6,i7,i8,i9⟩,g,hx0,i10,i11,⟨bx,by',bz,b1,b2,b3,bst⟩,jl,kv,j1,j2,j3,j4,j5⟩:=hI
  have gn:=g.nx
  have zO:w.alo+t < w.ahi/\x=.int ((w.alo+t:Nat):Int):=by
   rw [List.getElem?_map]at hx
   cases q:(Ay (w.alo:Int) (w.ahi:Int) 1)[t]? with
   | none=>rw [q]at hx;cases hx
   | some z =>
    injections z zI
    rw [q]at hx
    obtain ⟨r1,r2⟩:=Fz hw1 q
    subst r1
    exact ⟨r2,(Option.some.inj hx).symm⟩
  obtain ⟨hit,rfl⟩:=zO
  generalize hi:w.alo+t=i at *
  have zO:∃k,A[i]?=some k:=⟨A[i]'(by exact Be hw2 hit),List.getElem?_eq_getElem (by exact Be hw2 hit)⟩
  obtain ⟨k,hk⟩:=zO
  have hgo:∀l,l < σ1.nx->σ2.hp l=σ1.hp l:=fun l hl=>g.hp l hl (by simp)
  have d3:σ2.hp la=.list (A.map Key.val):=(hgo la l3).trans c3
  have d5:σ2.hp bj=.dict kvs:=(hgo bj l5).trans c5
  try dsimp only
  have:=L4 l5 hx0;repeat keq_hits
  refine Ao (k:=i) (xs:=A.map Key.val) (v:=k.val) ?_ rfl (by rw [List.getElem?_map,hk];rfl) (by exact WA hw2 hA hit) ?_
  ·have:=L4 l3 hx0;kas_types
  repeat keq_hits
  refine Uo (k:=k) (kvs:=kvs) ?_ rfl ?_
  ·have:=L4 l5 hx0;kas_types
  obtain ⟨l,L,hv,hl,hL1,hL2,hL3,hL4⟩:=(M1 (no:=σ1.nx+4) (hp':=σ2.hp) sm i11 hgo hk)
  have hlx:l < σ2.nx:=by
   by_cases q:∃u,Ak kvs k=some u
   ·obtain ⟨u,hu⟩:=q
    have:k∈B/\J k=false:=by
     refine ⟨Classical.byContradiction ?_,?_⟩
     ·intros n
      rw [sm.not k (.inl n)]at hu;cases hu
     ·cases hJ:J k with
      | false=>rfl
      | true=>rw [sm.not k (.inr hJ)]at hu;cases hu
    obtain ⟨l',r1,r2,_⟩:=(sm.has k this.1 this.2)
    rw [r1]at hv
    cases hv;exact Wz hx0 r2
   ·cases hu:Ak kvs k with
    | some u=>exact (q ⟨u,hu⟩).elim
    | none=>rw [hu]at hv;cases hv;omega
  rw [hv]
  repeat keq_hits
  refine Ax (fun t2 σ3=>(σ3.loc "a"=some (.ref la)/\σ3.loc "b"=some (.ref lb)/\σ3.loc "b2j"=some (.ref bj)/\σ3.loc "isbjunk"=some (.ref σ1.nx)/\σ3.loc "alo"=some (.int w.alo)/\σ3.loc "ahi"=some (.int w.ahi)/\σ3.loc "blo"=some (.int w.blo)/\σ3.loc "bhi"=some (.int w.bhi)/\σ3.loc "nothing"=some (.ref (σ1.nx+4))/\σ3.loc "i"=some (.int (i:Nat))/\σ3.loc "j2lenget"=some (.ref σ2.nx)/\σ3.loc "newj2len"=some (.ref (σ2.nx+1)))/\GroH [] σ2 σ3/\σ2.nx+1 < σ3.nx/\σ3.hp σ2.nx=.bm "dict.get" (.ref jl)/\(∃x y z:Nat,σ3.loc "besti"=some (.int x)/\σ3.loc "bestj"=some (.int y)/\σ3.loc "bestsize"=some (.int z)/\Bst (MM A B) (UU B J) w.alo w.blo (fun x y=>(w.alo<=x/\x < i/\w.blo<=y/\y < w.bhi)\/(x=i/\y∈L.take t2/\w.blo<=y/\y < w.bhi)) (x,y,z))/\∃kv2,σ3.hp (σ2.nx+1)=.dict kv2/\kv2.length<=t2/\Ei (MM A B) (UU B J) w i (fun y=>y∈L.take t2) kv2) (fun σ3=>(σ3.loc "a"=some (.ref la)/\σ3.loc "b"=some (.ref lb)/\σ3.loc "b2j"=some (.ref bj)/\σ3.loc "isbjunk"=some (.ref σ1.nx)/\σ3.loc "alo"=some (.int w.alo)/\σ3.loc "ahi"=some (.int w.ahi)/\σ3.loc "blo"=some (.int w.blo)/\σ3.loc "bhi"=some (.int w.bhi)/\σ3.loc "nothing"=some (.ref (σ1.nx+4))/\σ3.loc "newj2len"=some (.ref (σ2.nx+1)))/\GroH [] σ2 σ3/\σ2.nx+1 < σ3.nx/\(∃x y z:Nat,σ3.loc "besti"=some (.int x)/\σ3.loc "bestj"=some (.int y)/\σ3.loc "bestsize"=some (.int z)/\Bst (MM A B) (UU B J) w.alo w.blo (fun x y=>w.alo<=x/\x < w.alo+(t+1)/\w.blo<=y/\y < w.bhi) (x,y,z))/\∃kv2,σ3.hp (σ2.nx+1)=.dict kv2/\Ei (MM A B) (UU B J) w i (fun _=>0 < t+1) kv2) (fun _ _=>False) ?_ ?_ ?_ ?_ ?_ (fun _ _ q=>q.elim)
  ·refine ⟨⟨?_,?_,?_,?_,?_,?_,?_,?_,?_,?_,?_,?_⟩,?_,?_,?_,⟨bx,by',bz,?_,?_,?_,bst.grow (fun x y q=>.inl q) (fun x y q n=>?_)⟩,[],?_,Nat.le_refl _,fun z=>⟨fun y _ q=>(by simp at q),fun _=>rfl⟩⟩
   all_goals first | keq_rows | kas_types | kwd_less | (repeat kwd_rel) | skip
   rcases q with q | q
   ·exact (n q).elim
   ·simp at q
  ·intros t2 σ3 xq03
   obtain ⟨_,g3,_⟩:=xq03
   rw [g3.hp l hlx (by simp)];exact hl
  ·intros t2 x σ3 hx2 hI2 R2 hn2 hc2 hb2 u3
   obtain ⟨⟨m1,m2,m3,m4,m5,m6,m7,m8,m9,m10,m11,m12⟩,g3,hx3,m13,⟨cx,cy,cz,n1,n2,n3,cst⟩,kv2,n4,n5,n6⟩:=hI2
   have gn3:=g3.nx
   have zO:∃j:Nat,L[t2]?=some j/\x=.int (j:Int):=by
    rw [List.getElem?_map]at hx2
    cases q:L[t2]? with
    | none=>rw [q]at hx2;cases hx2
    | some j=>rw [q]at hx2;exact ⟨j,rfl,(Option.some.inj hx2).symm⟩
   obtain ⟨j,hj,rfl⟩:=zO
   have hjL:=List.mem_of_getElem? hj
   obtain ⟨hM,hU⟩:=(hL1 j).mp hjL
   have ht2:t2 < L.length:=(List.getElem?_eq_some_iff.mp hj).1
   have hR:=AQ (MM A B) (UU B J) w.alo w.blo i j
   have hjl:σ3.hp jl=.dict kv:=(g3.hp jl j3 (by simp)).trans j4
   try dsimp only
   repeat keq_hits
   refine BE ?_ ?_
   ·intros q
    have q':j < w.blo:=by have:=of_decide_eq_true q;exact (Int.ofNat_lt.mp this)
    repeat keq_hits
    refine hc2 _ ⟨⟨?_,?_,?_,?_,?_,?_,?_,?_,?_,?_,?_,?_⟩,?_,?_,?_,⟨cx,cy,cz,?_,?_,?_,cst.grow (fun x y c=>?_) (fun x y c n=>?_)⟩,kv2,?_,by exact Hs n5,n6.skip fun y y1 y2 y3=>?_⟩
    all_goals first | keq_rows | kas_types | kwd_less | (repeat kwd_rel) | skip
    ·rcases c with c | zR
     ·exact .inl c
     ·obtain ⟨c1,c2,c3,c4⟩:=zR
      exact .inr ⟨c1,(Bj hj).mpr (.inl c2),c3,c4⟩
    ·rcases c with c | zR
     ·exact (n (.inl c)).elim
     ·obtain ⟨c1,c2,c3,c4⟩:=zR
      rcases (Bj hj).mp c2 with r | r
      ·exact (n (.inr ⟨c1,r,c3,c4⟩)).elim
      ·exact Wy q' c3 r
    ·rw [Bj hj]
     constructor
     ·exact .inl
     ·rintro (r | r)
      ·exact r
      ·exact absurd (r▸y1) (Nat.not_le_of_lt q')
   intros q
   have q':w.blo<=j:=by have:=of_decide_eq_false q;exact Nat.le_of_not_lt (fun e=>this (Int.ofNat_lt.mpr e))
   repeat keq_hits
   refine BE ?_ ?_
   ·intros p
    have p':w.bhi<=j:=by have:=of_decide_eq_true p;exact (Int.ofNat_le.mp this)
    have hlast:∀y,y < w.bhi->0 < An (MM A B) (UU B J) w.alo w.blo i y->y∈L.take t2:=by
     intros y y2 y3
     refine Classical.byContradiction ?_;intros n
     rw [AQ]at y3
     split at y3
     ·rename_i r
      have:=Pl hL2 hj ((hL1 y).mpr ⟨r.1,r.2.1⟩) n
      exact Wx p' y2 this
     ·exact Rh y3
    repeat keq_hits
    refine hb2 _ ⟨⟨?_,?_,?_,?_,?_,?_,?_,?_,?_,?_⟩,?_,?_,⟨cx,cy,cz,?_,?_,?_,cst.grow (fun x y c=>c.elim (fun c=>⟨c.1,by exact Rd hi c.2.1,c.2.2.1,c.2.2.2⟩) fun c=>⟨by exact Rc hi c.1,by exact Rb hi c.1,c.2.2.1,c.2.2.2⟩) (fun x y c n=>?_)⟩,kv2,?_,n6.skip fun y y1 y2 y3=>?_⟩
    all_goals first | keq_rows | kas_types | kwd_less | (repeat kwd_rel) | skip
    ·refine Nat.eq_zero_of_not_pos ?_;intros r;refine n ?_
     by_cases e:x < i
     ·exact .inl ⟨c.1,e,c.2.2.1,c.2.2.2⟩
     ·have:x=i:=by exact Rg hi c.2.1 e
      subst this
      exact .inr ⟨rfl,hlast y c.2.2.2 r,c.2.2.1,c.2.2.2⟩
    ·exact ⟨fun _=>by exact Mc,fun _=>hlast y y2 y3⟩
   intros p
   have p':j < w.bhi:=by have:=of_decide_eq_false p;exact Nat.lt_of_not_le (fun e=>this (Int.ofNat_le.mpr e))
   have hR':An (MM A B) (UU B J) w.alo w.blo i j=FA (MM A B) (UU B J) w.alo w.blo i j+1:=by rw [hR,if_pos ⟨hM,hU,by exact Ww hi,q'⟩]
   have hRle:=DR (MM A B) (UU B J) w.alo w.blo i j (by exact Ma hR')
   repeat keq_hits
   refine N0 (k:=.i ((j:Int) - 1)) (kvs:=kv) (l:=jl) ?_ ?_ rfl ?_
   ·kas_types
   ·kas_types
   rw [j5.prev hi p']
   repeat keq_hits
   refine OU (kvs:=kv2) (k:=.i j) ?_ rfl ?_ ?_
   ·kas_types
   ·rw [sizeLine_eq];exact Wv hB hL4 n5 ht2
   repeat keq_hits
   have hz:((FA (MM A B) (UU B J) w.alo w.blo i j:Nat):Int)+1=((An (MM A B) (UU B J) w.alo w.blo i j:Nat):Int):=by exact ia4 (Vj hR')
   have hset:Ei (MM A B) (UU B J) w i (fun y=>y∈L.take (t2+1)) (Ce kv2 (.i j) (.int (An (MM A B) (UU B J) w.alo w.blo i j))):=n6.add (fun y=>Bj hj) q' p' (by exact Ma hR')
   have hmore:=cst.more (C':=fun x y=>(w.alo<=x/\x < i/\w.blo<=y/\y < w.bhi)\/(x=i/\y∈L.take (t2+1)/\w.blo<=y/\y < w.bhi)) (i:=i) (j:=j) (fun x y=>by
     rw [Bj hj]
     constructor
     ·rintro (c | ⟨c1,c2 | c2,c3,c4⟩)
      ·exact .inl (.inl c)
      ·exact .inl (.inr ⟨c1,c2,c3,c4⟩)
      ·exact .inr ⟨c1,c2⟩
     ·rintro ((c | ⟨c1,c2,c3,c4⟩) | ⟨c1,c2⟩)
      ·exact .inl c
      ·exact .inr ⟨c1,.inl c2,c3,c4⟩
      ·exact .inr ⟨c1,.inr c2,by exact Wu q' c2,by exact Wt p' c2⟩) (fun x y c=>by
     rcases c with c | ⟨c1,c2,c3,c4⟩
     ·exact .inl c.2.1
     ·have:=OF hL2 hj c2
      exact .inr ⟨c1,this⟩)
   rw [hz]
   generalize hr:An (MM A B) (UU B J) w.alo w.blo i j=r at *
   dsimp only at hmore
   have hlen2:=HJ kv2 (.i j) (.int r)
   refine BE ?_ ?_
   ·intros g1
    have g1':r > cz:=by have:=of_decide_eq_true g1;exact (Int.ofNat_lt.mp this)
    rw [if_pos g1']at hmore
    have ex:((i:Nat):Int) - (r:Nat)+1=((i+1 - r:Nat):Int):=by exact ia3 (PU hRle.1)
    have ey:((j:Nat):Int) - (r:Nat)+1=((j+1 - r:Nat):Int):=by exact ia3 (PU hRle.2)
    repeat keq_hits
    rw [ex,ey]
    refine hn2 _ ⟨⟨?_,?_,?_,?_,?_,?_,?_,?_,?_,?_,?_,?_⟩,?_,?_,?_,⟨i+1 - r,j+1 - r,r,?_,?_,?_,hmore⟩,_,?_,?_,hset⟩
    all_goals first | keq_rows | ((try have:=GO hx3);kas_types) | ((try have:=Rf n5 hlen2);kwd_less) | (repeat kwd_rel) | omega
   ·intros g1
    have g1':¬r > cz:=by have:=of_decide_eq_false g1;exact (fun e=>this (Int.ofNat_lt.mpr e))
    rw [if_neg g1']at hmore
    repeat keq_hits
    refine hn2 _ ⟨⟨?_,?_,?_,?_,?_,?_,?_,?_,?_,?_,?_,?_⟩,?_,?_,?_,⟨cx,cy,cz,?_,?_,?_,hmore⟩,_,?_,?_,hset⟩
    all_goals first | keq_rows | kas_types | ((try have:=Rf n5 hlen2);kwd_less) | (repeat kwd_rel) | omega
  ·intros σ3 hI2
   obtain ⟨⟨m1,m2,m3,m4,m5,m6,m7,m8,m9,m10,m11,m12⟩,g3,hx3,m13,⟨cx,cy,cz,n1,n2,n3,cst⟩,kv2,n4,n5,n6⟩:=hI2
   have gn3:=g3.nx
   rw [List.length_map,List.take_length]at *
   have hall:∀y,0 < An (MM A B) (UU B J) w.alo w.blo i y->y∈L:=by
    intros y y3
    rw [AQ]at y3
    split at y3
    ·rename_i r
     exact (hL1 y).mpr ⟨r.1,r.2.1⟩
    ·exact absurd y3 (Nat.lt_irrefl 0)
   have hst:Bst (MM A B) (UU B J) w.alo w.blo (fun x y=>w.alo<=x/\x < w.alo+(t+1)/\w.blo<=y/\y < w.bhi) (cx,cy,cz):=by
    refine cst.grow ?_ ?_
    ·intros x y c
     rcases c with c | zR
     ·exact ⟨Hr c.1,Rd hi c.2.1,Hr c.2.2.1,Kq c.2.2.2⟩
     ·obtain ⟨c1,c2,c3,c4⟩:=zR
      exact ⟨Rc hi c1,Rb hi c1,Hr c3,Kq c4⟩
    ·intros x y c n
     refine Nat.eq_zero_of_not_pos ?_;intros r;refine n ?_
     by_cases e:x < i
     ·exact .inl ⟨c.1,e,c.2.2.1,c.2.2.2⟩
     ·have:x=i:=by exact Rg hi c.2.1 e
      subst this
      exact .inr ⟨rfl,hall y r,c.2.2.1,c.2.2.2⟩
   have hrow:Ei (MM A B) (UU B J) w i (fun _=>0 < t+1) kv2:=n6.skip fun y _ _ r=>⟨fun _=>Nat.succ_pos t,fun _=>hall y r⟩
   have g13:GroH [] σ1 σ3:=g.trans g3
   have u1:σ3.hp σ1.nx=.bm "set.__contains__" (.ref js):=(g3.hp _ (by exact L3 hx0) (by simp)).trans i10
   have u2:σ3.hp (σ1.nx+4)=.list []:=(g3.hp _ (by omega) (by simp)).trans i11
   have u3:w.alo+(t+1) - 1=i:=by exact Ra hi
   repeat keq_hits
   refine hn' _ ⟨⟨?_,?_,?_,?_,?_,?_,?_,?_,?_⟩,?_,?_,?_,?_,⟨cx,cy,cz,?_,?_,?_,hst⟩,σ2.nx+1,kv2,?_,?_,?_,?_,?_⟩
   all_goals first | keq_rows | kas_types | ((try have:=P9 hx0 hx3);(try have:=P8 hx0);kwd_less) | (rw [u3];exact hrow) | (repeat kwd_rel)
  ·intros σ3 hI2
   obtain ⟨⟨m1,m2,m3,m4,m5,m6,m7,m8,m9,m12⟩,g3,hx3,⟨cx,cy,cz,n1,n2,n3,hst⟩,kv2,n4,hrow⟩:=hI2
   have gn3:=g3.nx
   have g13:GroH [] σ1 σ3:=g.trans g3
   have u1:σ3.hp σ1.nx=.bm "set.__contains__" (.ref js):=(g3.hp _ (by exact L3 hx0) (by simp)).trans i10
   have u2:σ3.hp (σ1.nx+4)=.list []:=(g3.hp _ (by omega) (by simp)).trans i11
   have u3:w.alo+(t+1) - 1=i:=by exact Ra hi
   repeat keq_hits
   refine hn' _ ⟨⟨?_,?_,?_,?_,?_,?_,?_,?_,?_⟩,?_,?_,?_,?_,⟨cx,cy,cz,?_,?_,?_,hst⟩,σ2.nx+1,kv2,?_,?_,?_,?_,?_⟩
   all_goals first | keq_rows | kas_types | ((try have:=P9 hx0 hx3);(try have:=P8 hx0);kwd_less) | (rw [u3];exact hrow) | (repeat kwd_rel)
 ·intros σ2 hI
  rw [List.length_map,Fy hw1]at hI
  obtain ⟨⟨i1,i2,i3,i4,i5,i6,i7,i8,i9⟩,g,hx0,i10,i11,⟨bx,by',bz,b1,b2,b3,bst⟩,_⟩:=hI
  have gn:=g.nx
  rw [show w.alo+(w.ahi - w.alo)=w.ahi by exact abN hw1]at bst
  have bst:Bst (MM A B) (UU B J) w.alo w.blo w.cells (bx,by',bz):=bst
  have hin:=bst.inside hw1 hw3
  dsimp only at hin
  obtain ⟨hin1,hin2,hin3,hin4⟩:=hin
  have fs0:FS σ1 σ2 la lb js w bx by' bz:=⟨i1,i2,i4,i5,i6,i7,i8,b1,b2,b3,g,by exact L3 hx0,i10⟩
  repeat keq_hits
  with_reducible refine DL (0+1) ?_
  refine BX (n:=0) (fun n σ3=>FS σ1 σ3 la lb js w bx by' bz) (fun σ3=>FS σ1 σ3 la lb js w bx by' bz) fs0 ?_ ?_
  ·intros n σ3 hI R Q hn2 hc2 hE
   have fs:=hI
   obtain ⟨f1,f2,f3,f4,f5,f6,f7,f8,f9,f10,f11,f12,f13⟩:=fs
   have gn3:=f11.nx
   have d3:σ3.hp la=.list (A.map Key.val):=(f11.hp la l3 (by simp)).trans c3
   have d4:σ3.hp lb=.list (B.map Key.val):=(f11.hp lb l4 (by simp)).trans c4
   have d6:σ3.hp js=.set xs:=(f11.hp js l6 (by simp)).trans c6
   repeat keq_hits
   refine Aw ?_ ?_
   ·intros q1
    have q1:w.alo < bx:=by have:=of_decide_eq_true q1;exact (Int.ofNat_lt.mp this)
    repeat keq_hits
    refine Aw ?_ ?_
    ·intros q2
     have q2:w.blo < by':=by have:=of_decide_eq_true q2;exact (Int.ofNat_lt.mp this)
     have zO:∃k,B[by' - 1]?=some k:=⟨_,List.getElem?_eq_getElem (by exact P7 hw4 hin4 q2)⟩
     obtain ⟨kb,hkb⟩:=zO
     have zO:∃k,A[bx - 1]?=some k:=⟨_,List.getElem?_eq_getElem (by exact P7 hw2 hin3 q1)⟩
     obtain ⟨ka,hka⟩:=zO
     have hkM:MM A B (bx - 1) (by' - 1)=decide (ka=kb):=by unfold MM;rw [hka,hkb]
     have hkU:UU B J (by' - 1)=decide (kb∈xs):=by
      unfold UU;rw [hkb];dsimp only
      have:=sm.mem kb
      cases hJ:J kb with
      | true=>rw [hJ]at this;exact (decide_eq_true (this.mpr ⟨List.mem_of_getElem? hkb,rfl⟩)).symm
      | false=>rw [hJ]at this;exact (decide_eq_false fun q=>by have:=(this.mp q).2;cases this).symm
     repeat keq_hits
     refine Ao (k:=by' - 1) (xs:=B.map Key.val) (v:=kb.val) ?_ (by exact ia1 (H3 q2)) (by rw [List.getElem?_map,hkb];rfl) (by exact LZ hw4 hB hin4) ?_
     ·kas_types
     repeat keq_hits
     refine HW (l:=js) (xs:=xs) (k:=kb) ?_ ?_ rfl ?_
     ·kas_types
     ·kas_types
     rw [<- hkU]
     repeat keq_hits
     refine Aw ?_ ?_
     ·intros q3
      repeat keq_hits
      refine Ao (k:=bx - 1) (xs:=A.map Key.val) (v:=ka.val) ?_ (by exact ia1 (H3 q1)) (by rw [List.getElem?_map,hka];rfl) (by exact LZ hw2 hA hin3) ?_
      ·kas_types
      repeat keq_hits
      refine Ao (k:=by' - 1) (xs:=B.map Key.val) (v:=kb.val) ?_ (by exact ia1 (H3 q2)) (by rw [List.getElem?_map,hkb];rfl) (by exact LZ hw4 hB hin4) ?_
      ·kas_types
      refine K6 (hlk ka (List.mem_of_getElem? hka) kb (List.mem_of_getElem? hkb)) ?_
      rw [<- hkM]
      repeat keq_hits
      refine Aw ?_ ?_
      ·intros q4
       exact (bst.noLeft q1 q2 ⟨q4,by simpa using q3⟩).elim
      ·intros q4
       repeat keq_hits
       exact hE _ ⟨f1,f2,f3,f4,f5,f6,f7,f8,f9,f10,f11,f12,f13⟩
     ·intros q3
      repeat keq_hits
      exact hE _ ⟨f1,f2,f3,f4,f5,f6,f7,f8,f9,f10,f11,f12,f13⟩
    ·intros q2
     repeat keq_hits
     exact hE _ ⟨f1,f2,f3,f4,f5,f6,f7,f8,f9,f10,f11,f12,f13⟩
   ·intros q1
    repeat keq_hits
    exact hE _ ⟨f1,f2,f3,f4,f5,f6,f7,f8,f9,f10,f11,f12,f13⟩
  ·intros σ3 hI
   clear fs0
   have fs0:=hI
   clear hI
   clear i1 i2 i3 i4 i5 i6 i7 i8 i9 b1 b2 b3 g gn hx0 i10 i11
   repeat keq_hits
   with_reducible refine DL (0+1) ?_
   refine BX (n:=0) (fun n σ3=>FS σ1 σ3 la lb js w bx by' bz) (fun σ3=>FS σ1 σ3 la lb js w bx by' bz) fs0 ?_ ?_
   ·intros n σ3 hI R Q hn2 hc2 hE
    have fs:=hI
    obtain ⟨f1,f2,f3,f4,f5,f6,f7,f8,f9,f10,f11,f12,f13⟩:=fs
    have gn3:=f11.nx
    have d3:σ3.hp la=.list (A.map Key.val):=(f11.hp la l3 (by simp)).trans c3
    have d4:σ3.hp lb=.list (B.map Key.val):=(f11.hp lb l4 (by simp)).trans c4
    have d6:σ3.hp js=.set xs:=(f11.hp js l6 (by simp)).trans c6
    repeat keq_hits
    refine Aw ?_ ?_
    ·intros q1
     have q1:bx+bz < w.ahi:=by have:=of_decide_eq_true q1;exact (Int.ofNat_lt.mp this)
     repeat keq_hits
     refine Aw ?_ ?_
     ·intros q2
      have q2:by'+bz < w.bhi:=by have:=of_decide_eq_true q2;exact (Int.ofNat_lt.mp this)
      have zO:∃k,B[by'+bz]?=some k:=⟨_,List.getElem?_eq_getElem (by exact P6 hw4 q2)⟩
      obtain ⟨kb,hkb⟩:=zO
      have zO:∃k,A[bx+bz]?=some k:=⟨_,List.getElem?_eq_getElem (by exact P6 hw2 q1)⟩
      obtain ⟨ka,hka⟩:=zO
      have hkM:MM A B (bx+bz) (by'+bz)=decide (ka=kb):=by unfold MM;rw [hka,hkb]
      have hkU:UU B J (by'+bz)=decide (kb∈xs):=by
       unfold UU;rw [hkb];dsimp only
       have:=sm.mem kb
       cases hJ:J kb with
       | true=>rw [hJ]at this;exact (decide_eq_true (this.mpr ⟨List.mem_of_getElem? hkb,rfl⟩)).symm
       | false=>rw [hJ]at this;exact (decide_eq_false fun q=>by have:=(this.mp q).2;cases this).symm
      repeat keq_hits
      refine Ao (k:=by'+bz) (xs:=B.map Key.val) (v:=kb.val) ?_ (by exact ia2 (CR)) (by rw [List.getElem?_map,hkb];rfl) (by exact LY hw4 hB q2) ?_
      ·kas_types
      repeat keq_hits
      refine HW (l:=js) (xs:=xs) (k:=kb) ?_ ?_ rfl ?_
      ·kas_types
      ·kas_types
      rw [<- hkU]
      repeat keq_hits
      refine Aw ?_ ?_
      ·intros q3
       repeat keq_hits
       refine Ao (k:=bx+bz) (xs:=A.map Key.val) (v:=ka.val) ?_ (by exact ia2 (CR)) (by rw [List.getElem?_map,hka];rfl) (by exact LY hw2 hA q1) ?_
       ·kas_types
       repeat keq_hits
       refine Ao (k:=by'+bz) (xs:=B.map Key.val) (v:=kb.val) ?_ (by exact ia2 (CR)) (by rw [List.getElem?_map,hkb];rfl) (by exact LY hw4 hB q2) ?_
       ·kas_types
       refine K6 (hlk ka (List.mem_of_getElem? hka) kb (List.mem_of_getElem? hkb)) ?_
       rw [<- hkM]
       repeat keq_hits
       refine Aw ?_ ?_
       ·intros q4
        exact (bst.noRight q1 q2 hw1 hw3 ⟨q4,by simpa using q3⟩).elim
       ·intros q4
        repeat keq_hits
        exact hE _ ⟨f1,f2,f3,f4,f5,f6,f7,f8,f9,f10,f11,f12,f13⟩
      ·intros q3
       repeat keq_hits
       exact hE _ ⟨f1,f2,f3,f4,f5,f6,f7,f8,f9,f10,f11,f12,f13⟩
     ·intros q2
      repeat keq_hits
      exact hE _ ⟨f1,f2,f3,f4,f5,f6,f7,f8,f9,f10,f11,f12,f13⟩
    ·intros q1
     repeat keq_hits
     exact hE _ ⟨f1,f2,f3,f4,f5,f6,f7,f8,f9,f10,f11,f12,f13⟩
   ·intros σ3 hI
    clear fs0
    have fs0:=hI
    clear hI
    repeat keq_hits
    with_reducible refine DL (bx+1) ?_
    refine BX (n:=bx) (fun n σ3=>∃u,n+u=bx/\FS σ1 σ3 la lb js w (bx - u) (by' - u) (bz+u)/\u<=by'/\w.alo+u<=bx/\w.blo+u<=by'/\∀t,t < u->MM A B (bx - 1 - t) (by' - 1 - t)=true/\UU B J (by' - 1 - t)=true) (fun σ3=>∃u,FS σ1 σ3 la lb js w (bx - u) (by' - u) (bz+u)/\Kf (MM A B) (UU B J) w bx by' u) ⟨0,by exact Wr,fs0,by exact zq8,by omega,by omega,fun t q=>absurd q (Nat.not_lt_zero t)⟩ ?_ ?_
    ·intros n σ3 hI R Q hn2 hc2 hE
     obtain ⟨u,hu,fs,k1,k2,k3,hall⟩:=hI
     obtain ⟨f1,f2,f3,f4,f5,f6,f7,f8,f9,f10,f11,f12,f13⟩:=fs
     have gn3:=f11.nx
     have d3:σ3.hp la=.list (A.map Key.val):=(f11.hp la l3 (by simp)).trans c3
     have d4:σ3.hp lb=.list (B.map Key.val):=(f11.hp lb l4 (by simp)).trans c4
     have d6:σ3.hp js=.set xs:=(f11.hp js l6 (by simp)).trans c6
     repeat keq_hits
     refine Aw ?_ ?_
     ·intros q1
      have q1:w.alo < bx - u:=by have:=of_decide_eq_true q1;exact (Int.ofNat_lt.mp this)
      repeat keq_hits
      refine Aw ?_ ?_
      ·intros q2
       have q2:w.blo < by' - u:=by have:=of_decide_eq_true q2;exact (Int.ofNat_lt.mp this)
       have zO:∃k,B[by' - u - 1]?=some k:=⟨_,List.getElem?_eq_getElem (by exact P5 hw4 hin4 q2)⟩
       obtain ⟨kb,hkb⟩:=zO
       have zO:∃k,A[bx - u - 1]?=some k:=⟨_,List.getElem?_eq_getElem (by exact P5 hw2 hin3 q1)⟩
       obtain ⟨ka,hka⟩:=zO
       have hkM:MM A B (bx - u - 1) (by' - u - 1)=decide (ka=kb):=by unfold MM;rw [hka,hkb]
       have hkU:UU B J (by' - u - 1)=decide (kb∈xs):=by
        unfold UU;rw [hkb];dsimp only
        have:=sm.mem kb
        cases hJ:J kb with
        | true=>rw [hJ]at this;exact (decide_eq_true (this.mpr ⟨List.mem_of_getElem? hkb,rfl⟩)).symm
        | false=>rw [hJ]at this;exact (decide_eq_false fun q=>by have:=(this.mp q).2;cases this).symm
       repeat keq_hits
       refine Ao (k:=by' - u - 1) (xs:=B.map Key.val) (v:=kb.val) ?_ (by exact ia1 (LR q2)) (by rw [List.getElem?_map,hkb];rfl) (by exact LX hw4 hB hin4 q2) ?_
       ·kas_types
       repeat keq_hits
       refine HW (l:=js) (xs:=xs) (k:=kb) ?_ ?_ rfl ?_
       ·kas_types
       ·kas_types
       rw [<- hkU]
       repeat keq_hits
       refine Aw ?_ ?_
       ·intros q3
        repeat keq_hits
        refine Ao (k:=bx - u - 1) (xs:=A.map Key.val) (v:=ka.val) ?_ (by exact ia1 (LR q1)) (by rw [List.getElem?_map,hka];rfl) (by exact LX hw2 hA hin3 q1) ?_
        ·kas_types
        repeat keq_hits
        refine Ao (k:=by' - u - 1) (xs:=B.map Key.val) (v:=kb.val) ?_ (by exact ia1 (LR q2)) (by rw [List.getElem?_map,hkb];rfl) (by exact LX hw4 hB hin4 q2) ?_
        ·kas_types
        refine K6 (hlk ka (List.mem_of_getElem? hka) kb (List.mem_of_getElem? hkb)) ?_
        rw [<- hkM]
        repeat keq_hits
        refine Aw ?_ ?_
        ·intros q4
         repeat keq_hits
         have x1:((bx - u:Nat):Int) - 1=((bx - (u+1):Nat):Int):=by exact ia1 (PS q1)
         have x2:((by' - u:Nat):Int) - 1=((by' - (u+1):Nat):Int):=by exact ia1 (PS q2)
         have x3:((bz+u:Nat):Int)+1=((bz+(u+1):Nat):Int):=by exact ia4 (Vi)
         rw [x1,x2,x3]
         refine hn2 (n - 1) _ (by exact Wq hu q1) ⟨u+1,by exact Wp hu q1,⟨?_,?_,?_,?_,?_,?_,?_,?_,?_,?_,?_,?_,?_⟩,by exact Wo q2,by exact P4 q1,by exact P4 q2,?_⟩
         all_goals first | keq_rows | ((try have:=Ag f12);kas_types) | kwd_less | ((repeat kwd_rel);done) | skip
         intros t ht
         by_cases e:t=u
         ·subst e;rw [show bx - 1 - t=bx - t - 1 by exact Wn,show by' - 1 - t=by' - t - 1 by exact L8 k1];exact ⟨q4,q3⟩
         ·exact hall t (by exact Bl ht e)
        ·intros q4
         repeat keq_hits
         refine hE _ ⟨u,⟨f1,f2,f3,f4,f5,f6,f7,f8,f9,f10,f11,f12,f13⟩,by exact Ki k2,Nat.le_trans (Nat.le_add_left _ _) k3,k2,k3,hall,?_⟩;intros r;rw [r.2.2.1]at q4;cases q4
       ·intros q3
        repeat keq_hits
        refine hE _ ⟨u,⟨f1,f2,f3,f4,f5,f6,f7,f8,f9,f10,f11,f12,f13⟩,by exact Ki k2,Nat.le_trans (Nat.le_add_left _ _) k3,k2,k3,hall,?_⟩;intros r;rw [r.2.2.2]at q3;cases q3
      ·intros q2
       repeat keq_hits
       refine hE _ ⟨u,⟨f1,f2,f3,f4,f5,f6,f7,f8,f9,f10,f11,f12,f13⟩,by exact Ki k2,Nat.le_trans (Nat.le_add_left _ _) k3,k2,k3,hall,?_⟩;intros r;have q:=of_decide_eq_false q2;have r1:=r.2.1;exact PN (fun e=>q (Int.ofNat_lt.mpr e)) r1
     ·intros q1
      repeat keq_hits
      refine hE _ ⟨u,⟨f1,f2,f3,f4,f5,f6,f7,f8,f9,f10,f11,f12,f13⟩,by exact Ki k2,Nat.le_trans (Nat.le_add_left _ _) k3,k2,k3,hall,?_⟩;intros r;have q:=of_decide_eq_false q1;have r1:=r.1;exact PN (fun e=>q (Int.ofNat_lt.mpr e)) r1
    ·intros σ3 hI
     obtain ⟨u,fs1,hlx⟩:=hI
     have hlx':=hlx
     obtain ⟨k1,k2,k3,k4,_,_⟩:=hlx'
     repeat keq_hits
     with_reducible refine DL ((w.ahi - (bx+bz))+1) ?_
     refine BX (n:=(w.ahi - (bx+bz))) (fun n σ3=>∃r,n+(bx+bz+r)=w.ahi/\FS σ1 σ3 la lb js w (bx - u) (by' - u) (bz+u+r)/\by'+bz+r<=w.bhi/\∀t,t < r->MM A B (bx+bz+t) (by'+bz+t)=true/\UU B J (by'+bz+t)=true) (fun σ3=>∃r,FS σ1 σ3 la lb js w (bx - u) (by' - u) (bz+u+r)/\Ke (MM A B) (UU B J) w (bx+bz) (by'+bz) r) ⟨0,by exact Wm hin3,fs1,by omega,fun t q=>absurd q (Nat.not_lt_zero t)⟩ ?_ ?_
     ·intros n σ3 hI R Q hn2 hc2 hE
      obtain ⟨r,hr,fs,k5,hall⟩:=hI
      obtain ⟨f1,f2,f3,f4,f5,f6,f7,f8,f9,f10,f11,f12,f13⟩:=fs
      have gn3:=f11.nx
      have d3:σ3.hp la=.list (A.map Key.val):=(f11.hp la l3 (by simp)).trans c3
      have d4:σ3.hp lb=.list (B.map Key.val):=(f11.hp lb l4 (by simp)).trans c4
      have d6:σ3.hp js=.set xs:=(f11.hp js l6 (by simp)).trans c6
      repeat keq_hits
      refine Aw ?_ ?_
      ·intros q1
       have q1:bx+bz+r < w.ahi:=by have:=of_decide_eq_true q1;exact PM (Int.ofNat_lt.mp this)
       repeat keq_hits
       refine Aw ?_ ?_
       ·intros q2
        have q2:by'+bz+r < w.bhi:=by have:=of_decide_eq_true q2;exact PM (Int.ofNat_lt.mp this)
        have zO:∃k,B[by'+bz+r]?=some k:=⟨_,List.getElem?_eq_getElem (by exact P3 hw4 q2)⟩
        obtain ⟨kb,hkb⟩:=zO
        have zO:∃k,A[bx+bz+r]?=some k:=⟨_,List.getElem?_eq_getElem (by exact P3 hw2 q1)⟩
        obtain ⟨ka,hka⟩:=zO
        have hkM:MM A B (bx+bz+r) (by'+bz+r)=decide (ka=kb):=by unfold MM;rw [hka,hkb]
        have hkU:UU B J (by'+bz+r)=decide (kb∈xs):=by
         unfold UU;rw [hkb];dsimp only
         have:=sm.mem kb
         cases hJ:J kb with
         | true=>rw [hJ]at this;exact (decide_eq_true (this.mpr ⟨List.mem_of_getElem? hkb,rfl⟩)).symm
         | false=>rw [hJ]at this;exact (decide_eq_false fun q=>by have:=(this.mp q).2;cases this).symm
        repeat keq_hits
        refine Ao (k:=by'+bz+r) (xs:=B.map Key.val) (v:=kb.val) ?_ (by exact ia2 (LQ k2)) (by rw [List.getElem?_map,hkb];rfl) (by exact LW hw4 hB q2) ?_
        ·kas_types
        repeat keq_hits
        refine HW (l:=js) (xs:=xs) (k:=kb) ?_ ?_ rfl ?_
        ·kas_types
        ·kas_types
        rw [<- hkU]
        repeat keq_hits
        refine Aw ?_ ?_
        ·intros q3
         repeat keq_hits
         refine Ao (k:=bx+bz+r) (xs:=A.map Key.val) (v:=ka.val) ?_ (by exact ia2 (LQ k1)) (by rw [List.getElem?_map,hka];rfl) (by exact LW hw2 hA q1) ?_
         ·kas_types
         repeat keq_hits
         refine Ao (k:=by'+bz+r) (xs:=B.map Key.val) (v:=kb.val) ?_ (by exact ia2 (LQ k2)) (by rw [List.getElem?_map,hkb];rfl) (by exact LW hw4 hB q2) ?_
         ·kas_types
         refine K6 (hlk ka (List.mem_of_getElem? hka) kb (List.mem_of_getElem? hkb)) ?_
         rw [<- hkM]
         repeat keq_hits
         refine Aw ?_ ?_
         ·intros q4
          repeat keq_hits
          have x3:((bz+u+r:Nat):Int)+1=((bz+u+(r+1):Nat):Int):=by exact ia4 (Vh)
          rw [x3]
          refine hn2 (n - 1) _ (by exact Wl hr q1) ⟨r+1,by exact Wk hr q1,⟨?_,?_,?_,?_,?_,?_,?_,?_,?_,?_,?_,?_,?_⟩,by exact Wj q2,?_⟩
          all_goals first | keq_rows | kas_types | kwd_less | ((repeat kwd_rel);done) | skip
          intros t ht
          by_cases e:t=r
          ·subst e;exact ⟨q4,q3⟩
          ·exact hall t (by exact Bl ht e)
         ·intros q4
          repeat keq_hits
          refine hE _ ⟨r,⟨f1,f2,f3,f4,f5,f6,f7,f8,f9,f10,f11,f12,f13⟩,.inr ⟨by exact LV q1,k5⟩,hall,?_⟩;intros v;rw [v.2.2.1]at q4;cases q4
        ·intros q3
         repeat keq_hits
         refine hE _ ⟨r,⟨f1,f2,f3,f4,f5,f6,f7,f8,f9,f10,f11,f12,f13⟩,.inr ⟨by exact LV q1,k5⟩,hall,?_⟩;intros v;rw [v.2.2.2]at q3;cases q3
       ·intros q2
        repeat keq_hits
        refine hE _ ⟨r,⟨f1,f2,f3,f4,f5,f6,f7,f8,f9,f10,f11,f12,f13⟩,.inr ⟨by exact LV q1,k5⟩,hall,?_⟩;intros v;have q:=of_decide_eq_false q2;have r1:=v.2.1;exact PL k4 (fun e=>q (Int.ofNat_lt.mpr e)) r1
      ·intros q1
       repeat keq_hits
       refine hE _ ⟨r,⟨f1,f2,f3,f4,f5,f6,f7,f8,f9,f10,f11,f12,f13⟩,.inr ⟨by exact Wi hr,k5⟩,hall,?_⟩;intros v;have q:=of_decide_eq_false q1;have r1:=v.1;exact PL k3 (fun e=>q (Int.ofNat_lt.mpr e)) r1
     ·intros σ3 hI
      obtain ⟨r,fs2,hrx⟩:=hI
      obtain ⟨f1,f2,f3,f4,f5,f6,f7,f8,f9,f10,f11,f12,f13⟩:=fs2
      have gn4:=f11.nx
      repeat keq_hits
      refine J7 ?_;intros l σ5 g5 hl1 hl2 hl3
      repeat keq_hits
      have gn5:=g5.nx
      refine h _ l (bx - u) (by' - u) (bz+u+r) ⟨?_,rfl,?_⟩ ?_ hl2 hl3 ⟨(bx,by',bz),u,r,bst,hlx,hrx,rfl,rfl,rfl⟩
      ·show σ.nx<=σ5.nx;exact Wh hn f12 hl1 hl2
      ·intros l' hl'
       show σ5.hp l'=_
       rw [g5.hp l' (by exact Wg hn f12 hl'),f11.hp l' (by exact Tl hn hl') (by simp),hh]
      ·exact Wf hn f12 hl1
end
mutual
def AF (t:Ap):QC QU:=[.Qm t.1,.Qm t.2.1,.Qm t.2.2]
theorem EK (P:Ql):D0 (G P).K 152=QM:=by kernel_rfl
end
section
variable {P:Params} {d:Nat} {σ:Mini.St}
mutual
theorem Pu {l:QH} {xs:QC QU} {R:QU->QE->Prop} (h:QS l=.sub 152 xs) (hl:Qn<=Xa) (p:R (.Qm Qn) σ):Ae (G P) d (.imm (.Qd "len")) [.QP l] σ R:=by
 refine A0 ?_
 unfold AD;dsimp only
 rw [QN (by decide),QN (by decide),QY QA]
 refine ⟨QA,.inr ?_⟩;refine Cq.mk h ?_
 exact ⟨EK P,hl,p⟩
theorem LK {m t:QH} {a b c:QU} {Q:QU->QE->Prop} (hm:QS m=.Q9d 106 152) (ht:QS t=.YJ [a,b,c])
  (h:∀l XF,Gro σ XF->QO<=l->l < Xg->X4 l=.sub 152 [a,b,c]->Q (.QP l) XF):Ae (G P) (d+1) (.QP m) [.QP t] σ Q:=by
 injections P d σ m t a b c Q _ _ _
 refine Zy ?_;refine CE.mk hm ?_
 refine AE (FU P) QA ?_ ?_ 40 ?_
 ·kernel_rfl
 ·kernel_rfl
 intros σ1 hh hn hl
 have h1:ZX "cls"=QB (.imm (.QP 152)):=hl _ _ (by kernel_rfl)
 have h2:ZX "iterable"=QB (.QP t):=hl _ _ (by kernel_rfl)
 have ht1:Q24 t=.YJ [a,b,c]:=by rw [hh];exact ht
 refine Ar ?_
 repeat keq_hits
 refine Ho (Ts P) (xs:=[a,b,c]) ?_ ?_ ?_
 ·kas_types
 ·simp [X8]
 repeat keq_hits
 refine Pu (xs:=[a,b,c]) ?_ ?_ ?_
 ·kas_types
 ·simp [X8]
 repeat keq_hits
 refine BE ?_ ?_
 ·intros q
  simp at q
 intros q
 repeat keq_hits
 refine h _ _ (.of hh hn ?_) ?_ ?_ ?_
 ·repeat kwd_rel
 ·exact Ko hn
 ·dsimp only;kwd_less
 ·dsimp only;kas_types
theorem Pj {Q:QU->QE->Prop} (h:Q (.QP QO) (Qw (.Q9d 106 152))):BB (G P).K (.imm (.QP 152)) "_make" σ Q:=by
 injections P σ Q _
 exact YG (Cs.mk QA ⟨.Qk "type",108,106,_,(by kernel_rfl),(by kernel_rfl),QA,h⟩)
theorem Un {l:QH} {fv:QU} {xs:QC QU} {R:QU->QE->Prop} (h:QS l=.Qs xs) (p:R (.QP (QO+2)) (((Qw (.Q8m l 0)).Q8y (.YJ [.QP QO])).Q8y (.QE2 fv (QO+1)))):Ae (G P) d (.imm (.Qk "map")) [fv,.QP l] σ R:=by
 refine D6 (by decide) ?_
 unfold AD;dsimp only
 rw [QY QA]
 refine ⟨QA,?_⟩;refine Q3z h ?_;exact p
theorem Je {m tl il l f:QH} {qs:QC (QH×Ap)} {R:QU->QE->Prop} (hm:QS m=.QE2 (.QP f) tl) (ht:QS tl=.YJ [.QP il]) (hi:QS il=.Q8m l 0) (hl:QS l=.Qs (YI fun q=>.QP q.1)) (hf:QS f=.Q9d 106 152)
  (lm:m < QO) (ltl:tl < QO) (lil:il < QO) (ll:l < QO) (lf:f < QO) (Q2U:Q4K<=4000) (ha:∀q∈qs,q.1 < QO/\QS q.1=.YJ (AF q.2))
  (h:∀(XF:QE) (rs:QC (QH×Ap)),QGC [il] σ XF->(∀q∈rs,q.1 < Xg/\X4 q.1=.sub 152 (AF q.2))->Q4k (·.2)=YI (·.2)->R (.QP Xg) (QDx (.Qs (Q4k fun q=>.QP q.1)))) :
  Ae (G P) (d+2) (.imm (.Qk "list")) [.QP m] σ R:=by
 refine Zy ⟨QA,QA,?_⟩;refine DF.mk hm ?_;show FE _ _ _ _ _ _
 have n1:m≠il:=fun e=>by rw [e,hi]at hm;cases hm
 have n2:tl≠il:=fun e=>by rw [e,hi]at ht;cases ht
 have n3:l≠il:=fun e=>by rw [e,hi]at hl;cases hl
 have n4:f≠il:=fun e=>by rw [e,hi]at hf;cases hf
 refine ⟨il,l,YI fun q=>.QP q.1,by rw [QK,X8];exact GK Q2U,?_⟩
 have key:∀(Q9m dn:QC (QH×Ap)) (i:QH) (acc:QC (QH×Ap)) (σ2:QE),qs=dn++Q9m->QGC [il] σ σ2->Yy il=.Q8m l i->(∀q∈acc,q.1 < Zz/\Yy q.1=.sub 152 (AF q.2))->QBj (·.2)=dn.map (·.2) ->
   Ek (Ae (G P) (d+1)) m tl il l (.QP f) (YI fun q=>.QP q.1) (rest.map fun q=>.QP q.1) i (QBj fun q=>.QP q.1) σ2 fun vs XF=>R (.QP Xg) (QDx (.Qs vs)):=by
  intro Q9m
  induction Q9m with
  | Zl =>
   intro dn i acc σ2 hq g k1 k2 k3
   rw [Q3H]at hq
   subst hq
   refine ⟨⟨(Q1Y m lm (by simpa using n1)).QR hm,(Q1Y tl ltl (by simpa using n2)).QR ht,k1,(Q1Y l ll (by simpa using n3)).QR hl⟩,?_⟩
   refine h (σ2.upd il .any) acc ⟨Q7U,QAH,fun l' hl' hx=>?_⟩ (fun q hq=>⟨(k2 q hq).1,?_⟩) k3
   ·have:l'≠il:=by simpa using hx
    rw [Bp,QN this];exact Q1Y l' hl' hx
   ·have:q.1≠il:=fun e=>by have:=(k2 q hq).2;rw [e,k1]at this;cases this
    rw [Bp,QN this];exact (k2 q hq).2
  | Xu q Q9m ih =>
   intro dn i acc σ2 hq g k1 k2 k3
   have gn:=Q7U
   obtain (⟨b1,b2⟩):=ha q (by rw [hq];simp)
   have n5:q.1≠il:=fun e=>by rw [e,hi]at b2;cases b2
   refine ⟨⟨(Q1Y m lm (by simpa using n1)).QR hm,(Q1Y tl ltl (by simpa using n2)).QR ht,k1,(Q1Y l ll (by simpa using n3)).QR hl⟩,?_⟩
   refine LK (a:=.Qm q.2.1) (b:=.Qm q.2.2.1) (c:=.Qm q.2.2.2) ?_ ?_ fun l' σ3 g3 h1 h2 h3=>?_
   ·rw [Bp,QN n4];exact (Q1Y f lf (by simpa using n4)).QR hf
   ·rw [Bp,QN n5];exact (Q1Y q.1 b1 (by simpa using n5)).QR b2
   have gn3:Zz<=Q0h:=Q95
   have h1':Zz<=l':=h1
   have e2:(QBj fun q=>YU q.1)++[YU l']=(acc++[(l',q.2)]).map fun q=>YU q.1:=by rw [Qt];rfl
   rw [e2]
   refine ih (dn++[q]) (i+1) (acc++[(l',q.2)]) σ3 (by rw [hq];simp) ⟨by exact VD gn h2 h1',g3.loc.trans QAH,fun x hx hx2=>?_⟩ ?_ (fun r hr=>?_) (by rw [Qt,Qt,k3];rfl)
   ·have:x≠il:=by simpa using hx2
    refine (Q3u x (by show x < Zz;exact Be gn hx)).QR ?_
    rw [Bp,QN this];exact Q1Y x hx hx2
   ·refine (Q3u il (by show il < Zz;exact B8 lil gn)).QR ?_
    rw [Bp,QY QA]
   ·rcases Y3 hr with hr | hr
    ·obtain (⟨y1,y2⟩):=k2 r hr
     have:r.1≠il:=fun e=>by rw [e,k1]at y2;cases y2
     refine ⟨by exact GF h2 h1' y1,(Q3u r.1 y1).QR ?_⟩
     rw [Bp,QN this];exact y2
    ·rw [Xi]at hr
     subst hr
     exact ⟨h2,h3⟩
 exact key qs [] 0 [] σ QA ⟨Qh _,QA,fun _ _ _=>QA⟩ hi (fun q hq=>(by cases hq)) QA
end
end
mutual
def Oy (w:Win):QC QU:=[.Qm Xy,.Qm Q0N,.Qm Xz,.Qm Q0F]
theorem JP (P:Ql):Nq (K P) 152=QM:=by kernel_rfl
theorem CS (P:Ql):Du (G P).K 152=QM:=by kernel_rfl
structure Q8 (σ1 σ2:QE) (s na nb:QH) (qs:QC (QH×Win)) (ms:QC (QH×Ap)):Prop where
 Q1e:Q3t "self"=QB (.QP s)
 la:Q3t "la"=QB (.Qm na)
 lb:Q3t "lb"=QB (.Qm nb)
 queue:Q3t "queue"=QB (.QP (YB+2))
 mb:Q3t "matching_blocks"=QB (.QP (YB+3))
 g:YP [] σ1 σ2
 hx:YB+3 < Zz
 hq:Yy (YB+2)=.Qs ((YI fun q=>YU q.1).Q5x)
 hm:Yy (YB+3)=.Qs (Q6G fun q=>.QP q.1)
 qa:∀q∈qs,q.1 < Zz/\Yy q.1=.YJ (Oy q.2)/\q.2.alo<=q.2.ahi/\q.2.ahi<=na/\q.2.blo<=q.2.bhi/\q.2.bhi<=nb
 ma:∀q∈ms,q.1 < Zz/\Yy q.1=.sub 152 (AF q.2)
theorem OG (ws:QC Win):Q4L<=(QCn wsz).sum:=by
 induction ws with
 | Zl=>exact Qh _
 | Xu w ws ih=>simp only [XZ,XR,Zr,wsz]at *;exact We ih
def sF (q:QH×Ap):QH×X3×QC QU:=(q.1,(q.2.1:X3),[.Qm q.2.2.1,.Qm q.2.2.2])
def Te:QU->QH
 | .Qm i=>QGn
 | _=>0
def sG (u:QH×X3×QC QU):QH×Ap:=(u.1,u.2.1.Q1X,Te (u.2.2.Q4f 0 .QG),Te (u.2.2.Q4f 1 .QG))
theorem S6 (q:QH×Ap):sG (sF q)=q:=QA
theorem Gj {ms:QC (QH×Ap)} {L:QC Ap} {us:QC (QH×X3×QC QU)} (hP:(Q6G (·.2)).Perm L) (hL:Q5U (fun x y=>x.1 < y.1)) (hu:QEo (Q6G sF)) (hs:Q8A (fun x y=>x.2.1 < y.2.1)) :
  ∃vs:QC (QH×Ap),us=Q9Z sF/\vs.Perm ms/\Q9Z (·.2)=L:=by
 have QD5:∀u∈us,sF (sG u)=u:=fun u h=>by
  refine ew1 (Yx (hu.mem_iff.mp h)) fun q yq93=>?_;refine an2 yq93 fun _ yq94=>?_;obtain QA:=yq94;clear yq93
  rw [S6]
 have e1:us=(QEp sG).map sF:=by
  rw [YT]
  conv=>lhs;rw [<- QGH us]
  exact Q8l fun u h=>(QD5 u h).Q3w
 have e2:(QEp sG).Perm ms:=by
  have:=hu.map sG
  rw [YT]at this
  have e3:Q6G (sG ∘ sF)=ms:=by
   conv=>rhs;rw [<- QGH ms]
   exact Q8l fun q _=>S6 q
  rwa [e3]at this
 refine ⟨QEp sG,e1,e2,?_⟩
 refine Dv (f:=fun t:Ap=>(t.1:X3)) ((e2.map (·.2)).QR hP) ?_ (hL.imp fun h=>by exact Yz h)
 rw [e1,QAI]at hs
 rw [QAI]
 exact hs.imp fun h=>h
end
section
variable {P:Params} {d:Nat} {σ:Mini.St}
mutual
theorem SMOk.old {hp hp':QH->Ob} {hi hi' s ds bj js bp la lb:QH} {fv mb:QU} {Y4:QC (Yb×QU)} {xs A B:QC Yb} {J:Yb->Qu} (sm:SMOk hp hi s ds bj js bp la lb fv mb Y4 xs A B J) (hk:∀l,l < hi->hp' l=hp l) (hh:hi<=hi'):SMOk hp' hi' s ds bj js bp la lb fv mb Y4 xs A B J where
 Q5C:=(hk _ sm.ls).QR QHQ
 Q1V:=(hk _ sm.lds).QR QGI
 a:=(hk _ sm.lla).QR sm.a
 b:=(hk _ sm.llb).QR sm.b
 b2j:=(hk _ sm.lbj).QR sm.b2j
 junk:=(hk _ sm.ljs).QR sm.junk
 has:=fun k h1 h2=>by
  refine ew1 (sm.has k h1 h2) fun l yq95=>?_;refine an4 yq95 fun r1 r2 r3 r4=>?_;clear yq95
  exact ⟨l,r1,by exact Be hh r2,r3,(hk l r2).QR r4⟩
 not:=sm.not
 mem:=sm.mem
 ls:=by have:=sm.ls;exact Be hh this
 lds:=by have:=sm.lds;exact Be hh this
 lla:=by have:=sm.lla;exact Be hh this
 llb:=by have:=sm.llb;exact Be hh this
 lbj:=by have:=sm.lbj;exact Be hh this
 ljs:=by have:=sm.ljs;exact Be hh this
 sds:=sm.sds
 ads:=sm.ads
 bds:=sm.bds
 jds:=sm.jds
 sjs:=sm.sjs
theorem N3 {s ds bj js bp la lb:QH} {fv:QU} {Y4:QC (Yb×QU)} {xs A B:QC Yb} {J:Yb->Qu} {Q:QU->QE->Prop} (sm:SMOk QS QO s ds bj js bp la lb fv .QG Y4 xs A B J)
  (hA:XN<=4000) (hA':∀L,Blk (MM A B) (UU B J) ⟨0,XN,0,Xm⟩ L->Q6b < 64) (hB:Xm<=4000) (hlk:∀x∈A,∀y∈B,KS x y=QM)
  (h:∀XF l (qs:QC (QH×Ap)),QGC [ds] σ XF->QO<=l->l < Xg->X4 l=.Qs (YI fun q=>.QP q.1)->(∀q∈qs,q.1 < Xg/\X4 q.1=.sub 152 (AF q.2))->Gmb (MM A B) (UU B J) XN Xm (YI (·.2))->Q (.QP l) XF) :
  Ae (G P) (d+3) (.imm (.QP 220)) [.QP s] σ Q:=by
 injections P d σ s ds bj js bp la lb fv Y4 xs A B J Q _ _ _ _ _ _
 refine BQ (AE (AU P) QA ?_ ?_ 40 ?_)
 ·kernel_rfl
 ·kernel_rfl
 intros σ1 hh hn hl
 have h1:ZX "self"=QB (.QP s):=hl _ _ (by kernel_rfl)
 rw [<- hh,<- hn]at sm
 have c1:=QHQ
 have c2:=QGI
 have c3:=sm.a
 have c4:=sm.b
 have l1:=sm.ls
 have l2:=sm.lds
 have l3:=sm.lla
 have l4:=sm.llb
 refine Ar ?_
 repeat keq_hits
 refine F3 (xs:=Q93 Q10) ?_ ?_ ?_
 ·kas_types
 ·rw [QK,X8];exact GK hA
 repeat keq_hits
 refine F3 (xs:=Q94 Q10) ?_ ?_ ?_
 ·kas_types
 ·rw [QK,X8];exact GK hB
 rw [QK,QK]
 repeat keq_hits
 with_reducible refine DL (2*XN+1+1) ?_
 refine BX (n:=2*XN+1) (fun n σ2=>∃qs ms,Q8 σ1 σ2 s XN Xm qs ms/\Eb (MM A B) (UU B J) ⟨0,XN,0,Xm⟩ (Q6G (·.2)) (YI (·.2))/\n=((YI (·.2)).map wsz).sum/\QB5+n<=2*XN+1) (fun σ2=>∃ms,Q8 σ1 σ2 s XN Xm [] ms/\Eb (MM A B) (UU B J) ⟨0,XN,0,Xm⟩ (Q6G (·.2)) []/\QB5<=2*XN+1) ?_ ?_ ?_
 ·refine ⟨[(YB+1,⟨0,XN,0,Xm⟩)],[],⟨?_,?_,?_,?_,?_,?_,?_,?_,?_,?_,fun q hq=>(by cases hq)⟩,Eb.start _,(by simp [wsz]),(by simp)⟩
  all_goals first | keq_rows | kas_types | kwd_less | ((repeat kwd_rel);done) | skip
  intros q hq
  rw [Xi]at hq
  subst hq
  refine ⟨?_,?_,XT _,Qh _,XT _,Qh _⟩
  ·kwd_less
  ·show Q2f _ (YB+1)=Q3v [.Qm 0,.Qm XN,.Qm 0,.Qm Xm]
   kas_types
 ·intros n σ2 hI R Q' hn2 hc2 hE
  obtain ⟨qs,ms,qq,qi,QCr,hms⟩:=hI
  obtain ⟨f1,f2,f3,f4,f5,f6,f7,f8,f9,f10,f11⟩:=qq
  have gn2:=f6.nx
  have hql:=OG (YI (·.2))
  rw [QK,<- QCr]at hql
  repeat keq_hits
  refine OC (xs:=(YI fun q=>YU q.1).Q5x) ?_ ?_ ?_
  ·kas_types
  ·rw [Q30,QK,X8];exact Wd hA hms hql
  refine BE ?_ ?_
  ·intros qe
   cases qs with
   | Zl=>simp at qe
   | Xu q qs =>
    injections q qs zI
    obtain ⟨x1,x2,x3,x4,x5,x6⟩:=(f10 q (.Zc _))
    have f8':Yy (YB+2)=.Qs ((YI fun q=>YU q.1).Q5x++[.QP q.1]):=by rw [f8,XR,Q0V]
    have hlab:q.1≠YB+2:=fun e=>by rw [e,f8]at x2;cases x2
    have e1:Yy s=.Q5C 259 ds:=(f6.hp s l1 (by simp)).QR c1
    have e2:Yy ds=_:=(f6.hp ds l2 (by simp)).QR c2
    have hold:∀l,l < YB->Yy l=Q24 l:=fun l hl=>f6.hp l hl (by simp)
    unfold Oy at x2
    repeat keq_hits
    refine Um (ys:=(YI fun q=>YU q.1).Q5x) (y:=.QP q.1) ?_ ?_ ?_
    ·kas_types
    ·rw [Xw,Q30,QK,X8];simp only [XZ,List.length_nil]at *;exact Wc hA hms hql
    have:=H4 l1;have:=H4 l2;repeat keq_hits
    refine N5 (w:=q.2) (sm.old (hp':=Q2f _) (hi':=Mini.St.nx _) ?_ ?_) x3 (by omega) x5 (by omega) hA hB hlk ?_
    ·intros l hl
     rw [<- hold l hl];have:=H4 hl;kas_types
    ·kwd_less
    intros σ3 l i j k g3 hl1 hl2 hl3 hf
    have gn3:Zz<=Q0h:=Q95
    have hq3:∀l,l < Zz->l≠YB+2->Q4l l=Yy l:=fun l hl hne=>(Q3u l hl).QR (by kas_types)
    have hq4:Q4l (YB+2)=.Qs ((YI fun q=>YU q.1).Q5x):=(Q3u _ (by dsimp only [Ah,Ac];exact Wb f7)).QR (by kas_types)
    have a1:Q1O "self"=QB (.QP s):=by rw [Q8H];keq_rows
    have a2:Q1O "la"=QB (.Qm XN):=by rw [Q8H];keq_rows
    have a3:Q1O "lb"=QB (.Qm Xm):=by rw [Q8H];keq_rows
    have a4:Q1O "queue"=QB (.QP (YB+2)):=by rw [Q8H];keq_rows
    have a5:Q1O "matching_blocks"=QB (.QP (YB+3)):=by rw [Q8H];keq_rows
    have a6:Q1O "alo"=QB (.Qm q.2.alo):=by rw [Q8H];keq_rows
    have a7:Q1O "ahi"=QB (.Qm q.2.ahi):=by rw [Q8H];keq_rows
    have a8:Q1O "blo"=QB (.Qm q.2.blo):=by rw [Q8H];keq_rows
    have a9:Q1O "bhi"=QB (.Qm q.2.bhi):=by rw [Q8H];keq_rows
    have G3:YP [] σ1 σ3:=⟨by exact Wa f7 gn3,fun l hl hx=>(hq3 l (by exact P2 f7 hl) (by exact H4 hl)).QR (hold l hl)⟩
    have b1:Q4l (YB+3)=.Qs (Q6G fun q=>.QP q.1):=(hq3 _ (by omega) (by exact V9)).QR f9
    have hin:=QDz x3 x5
    repeat keq_hits
    refine Mt hl3 (CS P) QA ?_
    repeat keq_hits
    refine BE ?_ ?_
    ·intros ke
     have kp:0 < k:=by
      have:((k:X3) != 0)=QM:=ke
      simp at this
      exact V8 this
     have hsz:=Lq (ws:=YI (·.2)) (w:=q.2) (i:=i) (j:=j) (k:=k) kp hin.1 hin.2.1
     have hqt:=qi.take hf kp
     repeat keq_hits
     refine Bc (xs:=Q6G fun q=>YU q.1) ?_ ?_ ?_
     ·kas_types
     ·rw [QK,X8];simp only [XZ]at *;exact V7 hA hms
     have QB6:Zz<=l:=hl1
     have hqa:∀q'∈qs,q'.1 < Zz/\q'.1≠YB+2/\q'.1≠YB+3/\Q4l q'.1=.YJ (Oy q'.2)/\q'.2.alo<=q'.2.ahi/\q'.2.ahi<=XN/\q'.2.blo<=q'.2.bhi/\q'.2.bhi<=Xm:=by
      intros q' hq'
      obtain ⟨y1,y2,y3⟩:=(f10 q' (.Q31 _ hq'))
      have hne:q'.1≠YB+2:=fun e=>by rw [e,f8]at y2;cases y2
      have QF4:q'.1≠YB+3:=fun e=>by rw [e,f9]at y2;cases y2
      exact ⟨y1,hne,QF4,(hq3 _ y1 hne).QR y2,y3⟩
     have hma:∀q'∈ms++[(l,(i,j,k))],q'.1 < Q0h/\q'.1≠YB+2/\q'.1≠YB+3/\Q4l q'.1=.sub 152 (AF q'.2):=by
      intros q' hq'
      rcases Y3 hq' with hq' | hq'
      ·obtain ⟨y1,y2⟩:=f11 q' hq'
       have hne:q'.1≠YB+2:=fun e=>by rw [e,f8]at y2;cases y2
       have QF4:q'.1≠YB+3:=fun e=>by rw [e,f9]at y2;cases y2
       exact ⟨by exact GF hl2 QB6 y1,hne,QF4,(hq3 _ y1 hne).QR y2⟩
      ·rw [Xi]at hq'
       subst hq'
       exact ⟨hl2,by dsimp only;exact V6 f7 QB6,by dsimp only;exact V5 f7 QB6,hl3⟩
     have hmap:(ms++[(l,(i,j,k))]).map (fun q=>YU q.1)=(Q6G fun q=>YU q.1)++[.QP l]:=by rw [Qt];rfl
     with_reducible apply AB
     with_reducible apply Ar
     refine HS (fun σ5=>∃qs',QHR (·.2)=Cd q.2 i j (YI (·.2))/\Q8 σ1 σ5 s XN Xm qs' (ms++[(l,(i,j,k))])/\(Q3I "ahi"=QB (.Qm q.2.ahi)/\Q3I "bhi"=QB (.Qm q.2.bhi)/\Q3I "i"=QB (.Qm i)/\Q3I "j"=QB (.Qm j)/\Q3I "k"=QB (.Qm k))) ?_ ?_
     ·intros R5 hR5
      repeat keq_hits
      refine Aw ?_ ?_
      ·intros p1
       have p1':q.2.alo < i:=by have:=YD p1;exact (Yg this)
       repeat keq_hits
       refine Aw ?_ ?_
       ·intros p2
        have p2':q.2.blo < j:=by have:=YD p2;exact (Yg this)
        repeat keq_hits
        refine Bc (xs:=(YI fun q=>YU q.1).Q5x) ?_ ?_ ?_
        ·have:=V4 f7 hl2 QB6;kas_types
        ·rw [Q30,QK,X8];simp only [XZ]at *;exact V3 hA hms hql
        repeat keq_hits
        refine hR5 _ ⟨(Q0h,⟨q.2.alo,i,q.2.blo,j⟩)::qs,(by unfold Cd;rw [QY ⟨p1',p2'⟩];rfl),⟨?_,?_,?_,?_,?_,?_,?_,?_,?_,fun q' hq'=>?_,fun q' hq'=>?_⟩,?_,?_,?_,?_,?_⟩
        all_goals first | keq_rows | ((try have:=Kh f7 hl2 QB6);kwd_less) | ((repeat kwd_rel);done) | skip
        ·rw [XR,Q0V];kas_types
        ·rw [hmap];have:=Kh f7 hl2 QB6;kas_types
        ·rcases XP hq' with hq' | hq'
         ·subst hq'
          refine ⟨?_,?_,?_,?_,?_,?_⟩
          ·kwd_less
          ·show Q2f _ Q0h=Q3v [.Qm q.2.alo,.Qm i,.Qm q.2.blo,.Qm j]
           have:=V2 f7 hl2 QB6;kas_types
          all_goals (dsimp only;first | exact XD (by assumption) | omega)
         ·obtain ⟨y1,y2,y3,y4,y5⟩:=(hqa q' hq')
          exact ⟨by have:=GF hl2 QB6 y1;kwd_less,by have:=GF hl2 QB6 y1;kas_types,y5⟩
        ·obtain ⟨y1,y2,y3,y4⟩:=(hma q' hq')
         exact ⟨by kwd_less,by kas_types⟩
       ·intros p2
        have p2':¬q.2.blo < j:=by have:=ZK p2;exact (fun e=>this (Yz e))
        repeat keq_hits
        refine hR5 _ ⟨qs,(by unfold Cd;rw [QN (fun r=>p2' r.2)]),⟨?_,?_,?_,?_,?_,?_,?_,?_,?_,fun q' hq'=>?_,fun q' hq'=>?_⟩,?_,?_,?_,?_,?_⟩
        all_goals first | keq_rows | ((try have:=Kh f7 hl2 QB6);kwd_less) | ((repeat kwd_rel);done) | (rw [hmap];kas_types;done) | (kas_types;done) | skip
        ·obtain ⟨y1,y2,y3,y4,y5⟩:=(hqa q' hq')
         exact ⟨by have:=GF hl2 QB6 y1;kwd_less,by kas_types,y5⟩
        ·obtain ⟨y1,y2,y3,y4⟩:=(hma q' hq')
         exact ⟨by kwd_less,by kas_types⟩
      ·intros p1
       have p1':¬q.2.alo < i:=by have:=ZK p1;exact (fun e=>this (Yz e))
       repeat keq_hits
       refine hR5 _ ⟨qs,(by unfold Cd;rw [QN (fun r=>p1' r.1)]),⟨?_,?_,?_,?_,?_,?_,?_,?_,?_,fun q' hq'=>?_,fun q' hq'=>?_⟩,?_,?_,?_,?_,?_⟩
       all_goals first | keq_rows | ((try have:=Kh f7 hl2 QB6);kwd_less) | ((repeat kwd_rel);done) | (rw [hmap];kas_types;done) | (kas_types;done) | skip
       ·obtain ⟨y1,y2,y3,y4,y5⟩:=(hqa q' hq')
        exact ⟨by have:=GF hl2 QB6 y1;kwd_less,by kas_types,y5⟩
       ·obtain ⟨y1,y2,y3,y4⟩:=(hma q' hq')
        exact ⟨by kwd_less,by kas_types⟩
     ·intros σ5 hK
      obtain ⟨qs',hqs',⟨w1,w2,w3,w4,w5,w6,w7,w8,w9,w10,w11⟩,v1,v2,v3,v4,v5⟩:=hK
      with_reducible apply AB
      with_reducible apply Ar
      refine HS (fun σ5=>∃qs',QHR (·.2)=DT q.2 i j k (Cd q.2 i j (YI (·.2)))/\Q8 σ1 σ5 s XN Xm qs' (ms++[(l,(i,j,k))])) ?_ ?_
      ·intros R5 hR5
       have gn5:=w6.nx
       have hlen':qs'.length<=Q4K+1:=by
        have:=Z4 QGJ hqs'
        rw [QK]at this
        rw [this]
        unfold Cd
        split <;> simp
       have hqa':∀q'∈qs',q'.1 < Q4M/\q'.1≠YB+2/\q'.1≠YB+3/\Q9a q'.1=.YJ (Oy q'.2)/\q'.2.alo<=q'.2.ahi/\q'.2.ahi<=XN/\q'.2.blo<=q'.2.bhi/\q'.2.bhi<=Xm:=by
        intros q' hq'
        obtain ⟨y1,y2,y3⟩:=(w10 q' hq')
        have hne:q'.1≠YB+2:=fun e=>by rw [e,w8]at y2;cases y2
        have QF4:q'.1≠YB+3:=fun e=>by rw [e,w9]at y2;cases y2
        exact ⟨y1,hne,QF4,y2,y3⟩
       have hma':∀q'∈ms++[(l,(i,j,k))],q'.1 < Q4M/\q'.1≠YB+2/\q'.1≠YB+3/\Q9a q'.1=.sub 152 (AF q'.2):=by
        intros q' hq'
        obtain ⟨y1,y2⟩:=w11 q' hq'
        have hne:q'.1≠YB+2:=fun e=>by rw [e,w8]at y2;cases y2
        have QF4:q'.1≠YB+3:=fun e=>by rw [e,w9]at y2;cases y2
        exact ⟨y1,hne,QF4,y2⟩
       have xk:(i:X3)+(k:X3)=((i+k:QH):X3):=by exact ia2 (CR)
       have yk:(j:X3)+(k:X3)=((j+k:QH):X3):=by exact ia2 (CR)
       repeat keq_hits
       refine Aw ?_ ?_
       ·intros p1
        have p1':i+k < q.2.ahi:=by have:=YD p1;exact (Yg this)
        repeat keq_hits
        refine Aw ?_ ?_
        ·intros p2
         have p2':j+k < q.2.bhi:=by have:=YD p2;exact (Yg this)
         repeat keq_hits
         rw [xk,yk]
         refine Bc (xs:=(QHR fun q=>YU q.1).Q5x) ?_ ?_ ?_
         ·have:=V0 w7;kas_types
         ·rw [Q30,QK,X8];simp only [XZ]at *;exact VZ hA hms hql hlen'
         repeat keq_hits
         refine hR5 _ ⟨(Q4M,⟨i+k,q.2.ahi,j+k,q.2.bhi⟩)::qs',(by unfold DT;rw [QY ⟨p1',p2'⟩,<- hqs'];rfl),⟨?_,?_,?_,?_,?_,?_,?_,?_,?_,fun q' hq'=>?_,fun q' hq'=>?_⟩⟩
         all_goals first | keq_rows | kwd_less | ((repeat kwd_rel);done) | skip
         ·rw [XR,Q0V];kas_types
         ·have:=P1 w7;kas_types
         ·rcases XP hq' with hq' | hq'
          ·subst hq'
           refine ⟨?_,?_,?_,?_,?_,?_⟩
           ·kwd_less
           ·show Q2f _ Q4M=Q3v [.Qm ((i+k:QH):X3),.Qm q.2.ahi,.Qm ((j+k:QH):X3),.Qm q.2.bhi]
            have:=VY w7;kas_types
           all_goals (dsimp only;first | exact XD (by assumption) | omega)
          ·obtain ⟨y1,y2,y3,y4,y5⟩:=(hqa' q' hq')
           exact ⟨by kwd_less,by have:=Ag y1;kas_types,y5⟩
         ·obtain ⟨y1,y2,y3,y4⟩:=(hma' q' hq')
          exact ⟨by kwd_less,by have:=Ag y1;kas_types⟩
        ·intros p2
         have p2':¬j+k < q.2.bhi:=by have:=ZK p2;exact (fun e=>this (Yz e))
         repeat keq_hits
         exact hR5 _ ⟨qs',(by unfold DT;rw [QN (fun r=>p2' r.2)];exact hqs'),⟨w1,w2,w3,w4,w5,w6,w7,w8,w9,w10,w11⟩⟩
       ·intros p1
        have p1':¬i+k < q.2.ahi:=by have:=ZK p1;exact (fun e=>this (Yz e))
        repeat keq_hits
        exact hR5 _ ⟨qs',(by unfold DT;rw [QN (fun r=>p1' r.1)];exact hqs'),⟨w1,w2,w3,w4,w5,w6,w7,w8,w9,w10,w11⟩⟩
      ·intros σ5 hK
       obtain ⟨qs2,hqs2,hQS⟩:=hK
       repeat keq_hits
       refine hn2 _ _ ?_ ⟨qs2,ms++[(l,(i,j,k))],hQS,?_,QA,?_⟩
       ·rw [hqs2,QCr];exact hsz
       ·rw [hqs2,Qt];exact hqt
       ·rw [hqs2,Xw,Q06]
        simp only [XR,Zr]at QCr hsz
        exact VX hms QCr hsz
    ·intros ke
     have k0:k=0:=by
      have:((k:X3) != 0)=QJ:=ke
      simpa using this
     subst k0
     repeat keq_hits
     have hms0:QB5+((YI (·.2)).map wsz).sum<=2*XN+1:=by
      simp only [XR,Zr]at QCr
      exact VW hms QCr
     refine hn2 ((YI (·.2)).map wsz).sum _ (by rw [QCr];simp only [XR,Zr,wsz];exact VV) ⟨qs,ms,⟨?_,?_,?_,?_,?_,?_,?_,?_,?_,fun q' hq'=>?_,fun q' hq'=>?_⟩,Eb.drop qi hf,QA,hms0⟩
     all_goals first | keq_rows | kas_types | ((try have:=VU f7 gn3);kwd_less) | ((repeat kwd_rel);done) | skip
     ·obtain ⟨y1,y2,y3⟩:=(f10 q' (.Q31 _ hq'))
      have hne:q'.1≠YB+2:=fun e=>by rw [e,f8]at y2;cases y2
      have y4:=(hq3 _ y1 hne).QR y2
      exact ⟨by have:=Be gn3 y1;kwd_less,by kas_types,y3⟩
     ·obtain ⟨y1,y2⟩:=f11 q' hq'
      have hne:q'.1≠YB+2:=fun e=>by rw [e,f8]at y2;cases y2
      have y4:=(hq3 _ y1 hne).QR y2
      exact ⟨by have:=Be gn3 y1;kwd_less,by kas_types⟩
  ·intros qe
   cases qs with
   | Xu q qs=>simp at qe
   | Zl =>
    repeat keq_hits
    exact hE _ ⟨ms,⟨f1,f2,f3,f4,f5,f6,f7,f8,f9,f10,f11⟩,qi,by exact VT hms⟩
 ·intros σ2 hI
  obtain ⟨ms,⟨f1,f2,f3,f4,f5,f6,f7,f8,f9,f10,f11⟩,qi,hms⟩:=hI
  have gn2:=f6.nx
  obtain ⟨L0,hB0,hP⟩:=qi.done
  have Q9V:=hB0.inside (XT _) (XT _)
  have hpw:L0.Pairwise (fun x y=>x.1 < y.1):=List.Pairwise.imp_of_mem (fun {x y} hx hy r=>by have:=(Q9V.1 x hx).2.2.2.2;exact VQ r.1 this) Q9V.2
  have Q2U:QB5 < 64:=by
   have h1:=hP.length_eq
   rw [QK]at h1
   have h2:=hA' L0 hB0
   exact VP h1 h2
  repeat keq_hits
  refine Ps (ts:=Q6G sF) (JP P) ?_ ?_ ?_ ?_ ?_
  ·rw [YT];exact f9
  ·rw [QK];exact Q2U
  ·intros t ht
   obtain ⟨q,hq,QA⟩:=(Yx ht)
   exact f11 q hq
  ·rw [YT]
   have hnd:((Q6G (·.2)).map fun t:Ap=>(t.1:X3)).QDu:=by
    refine (hP.map _).nodup_iff.mpr ?_
    refine List.pairwise_map.mpr (hpw.imp fun r q=>?_)
    exact US r (Q0p q)
   rw [YT]at hnd
   exact hnd
  intros us hus hss
  obtain ⟨vs,QA,hvs,hvL⟩:=(Gj hP hpw hus hss)
  rw [YT]
  have hva:∀q∈vs,q.1 < Zz/\Yy q.1=.sub 152 (AF q.2):=fun q hq=>f11 q (hvs.mem_iff.mp hq)
  have hmap2:(Q9Z ((fun t:QH×X3×QC QU=>YU t.1) ∘ sF))=Q9Z fun q=>YU q.1:=QA
  rw [hmap2]
  repeat keq_hits
  refine Ax (fun t σ3=>(Q1O "self"=QB (.QP s)/\Q1O "la"=QB (.Qm XN)/\Q1O "lb"=QB (.Qm Xm)/\Q1O "non_adjacent"=QB (.QP Zz))/\YP [YB+3] σ2 σ3/\Zz < Q0h/\Q4l (YB+3)=.Qs (Q9Z fun q=>YU q.1)/\∃c:Ap,(Q1O "i1"=QB (.Qm c.1)/\Q1O "j1"=QB (.Qm c.2.1)/\Q1O "k1"=QB (.Qm c.2.2))/\∃ns:QC (QH×Ap),Q4l Zz=.Qs (Q4J fun q=>YU q.1)/\(∀q∈ns,q.1 < Q0h/\Q4l q.1=.YJ (AF q.2))/\Q4J (·.2)++mrg c ((Q9Z (·.2)).Q9M t)=mrg (0,0,0) L0/\Q2F<=t) (fun _=>Yk) (fun _ _=>Yk) ?_ (fun t σ3 hI=>hI.2.2.2.1) ?_ ?_ (fun _ q=>Q2e) (fun _ _ q=>Q2e)
  ·refine ⟨⟨?_,?_,?_,?_⟩,?_,?_,?_,(0,0,0),⟨?_,?_,?_⟩,[],?_,fun q hq=>(by cases hq),?_,Qh _⟩
   all_goals first | keq_rows | (kas_types;done) | kwd_less | ((repeat kwd_rel);done) | skip
   ·rw [<- hvL];rfl
  ·intros t x σ3 hx hI R hn2 u1 u2 u3
   obtain ⟨⟨m1,m2,m3,m4⟩,g3,hx3,m5,c,⟨m6,m7,m8⟩,ns,nl,na,QGK,hns⟩:=hI
   have gn3:=Q95
   have zO:∃q,vs[t]?=QB q/\x=.QP q.1:=by
    rw [QT]at hx
    cases e:vs[t]? with
    | QG=>rw [e]at hx;cases hx
    | QB q=>rw [e]at hx;exact ⟨q,QA,(X1 hx).Q3w⟩
   obtain ⟨q,hq,QA⟩:=zO
   have htv:t < Q0Q:=(QX hq).1
   have hvl:Q0Q < 64:=by rw [QDJ];exact Q2U
   have Q6U:(Q9Z (·.2)).Q9M t=q.2::(Q9Z (·.2)).Q9M (t+1):=by
    rw [YM (by rw [QK];exact htv),QB7]
    rw [(QX hq).2]
   obtain ⟨y1,y2⟩:=hva q (XE hq)
   have QF4:q.1≠YB+3:=fun e=>by rw [e,f9]at y2;cases y2
   have y3:Q4l q.1=.sub 152 [.Qm q.2.1,.Qm q.2.2.1,.Qm q.2.2.2]:=(Q3u _ y1 (by simpa using QF4)).QR y2
   try dsimp only
   repeat keq_hits
   refine Mt y3 (CS P) QA ?_
   repeat keq_hits
   refine (fun hK:¬(c.1+c.2.2=q.2.1/\c.2.1+c.2.2=q.2.2.1)->(?PK2:Prop)=>Aw (fun p1=>?mA) (fun p1=>?mB)) ?mC
   case mA =>
    have p1':c.1+c.2.2=q.2.1:=by simp only [ZJ]at p1;exact (Q0p p1)
    repeat keq_hits
    refine Aw ?_ ?_
    ·intros p2
     have p2':c.2.1+c.2.2=q.2.2.1:=by simp only [ZJ]at p2;exact (Q0p p2)
     repeat keq_hits
     rw [show (c.2.2:X3)+(q.2.2.2:X3)=((c.2.2+q.2.2.2:QH):X3) by exact ia2 (CR)]
     refine hn2 _ ⟨⟨?_,?_,?_,?_⟩,?_,?_,?_,(c.1,c.2.1,c.2.2+q.2.2.2),⟨?_,?_,?_⟩,ns,?_,fun q' hq'=>?_,?_,by exact Hs hns⟩
     all_goals first | keq_rows | (kas_types;done) | kwd_less | ((repeat kwd_rel);done) | skip
     ·obtain ⟨y1,y2⟩:=na q' hq'
      exact ⟨by kwd_less,by kas_types⟩
     ·rw [<- QGK,Q6U,mrg,QY ⟨p1',p2'⟩]
    ·intros p2
     have hno:¬(c.1+c.2.2=q.2.1/\c.2.1+c.2.2=q.2.2.1):=by
      intros r
      have:((c.2.1:X3)+c.2.2 == (q.2.2.1:X3))=QM:=by simp only [ZJ];exact ia2 (PR r.2)
      rw [this]at p2;cases p2
     repeat keq_hits
     exact hK hno
   case mB =>
    have hno:¬(c.1+c.2.2=q.2.1/\c.2.1+c.2.2=q.2.2.1):=by
     intros r
     have:((c.1:X3)+c.2.2 == (q.2.1:X3))=QM:=by simp only [ZJ];exact ia2 (PR r.1)
     rw [this]at p1;cases p1
    repeat keq_hits
    exact hK hno
   case mC =>
    intros hno
    refine BE ?_ ?_
    ·intros ke
     have kp:¬c.2.2=0:=fun r=>by rw [r]at ke;simp at ke
     repeat keq_hits
     refine Bc (xs:=Q4J fun q=>YU q.1) ?_ ?_ ?_
     ·kas_types
     ·rw [QK,X8];exact VO hns htv hvl
     repeat keq_hits
     refine hn2 _ ⟨⟨?_,?_,?_,?_⟩,?_,?_,?_,q.2,⟨?_,?_,?_⟩,ns++[(Q0h,c)],?_,fun q' hq'=>?_,?_,?_⟩
     all_goals first | keq_rows | (rw [Qt,Q3V];kas_types;done) | (((try have:=P0 f7 hx3);(try have:=P1 f7);kas_types);done) | ((try have:=PZ hns);kwd_less) | ((repeat kwd_rel);done) | skip
     ·rcases Y3 hq' with hq' | hq'
      ·obtain ⟨y1,y2⟩:=na q' hq'
       have hne:q'.1≠Zz:=fun e=>by rw [e,nl]at y2;cases y2
       exact ⟨by kwd_less,by kas_types⟩
      ·rw [Xi]at hq'
       subst hq'
       refine ⟨?_,?_⟩
       ·kwd_less
       ·show Q2f _ Q0h=Q3v [.Qm c.1,.Qm c.2.1,.Qm c.2.2]
        have:=Cj hx3;kas_types
     ·rw [Qt,<- QGK,Q6U,mrg,QN hno,QN kp,Q0S];rfl
    ·intros ke
     have kp:c.2.2=0:=by simpa using ke
     repeat keq_hits
     refine hn2 _ ⟨⟨?_,?_,?_,?_⟩,?_,?_,?_,q.2,⟨?_,?_,?_⟩,ns,?_,fun q' hq'=>?_,?_,by exact Hs hns⟩
     all_goals first | keq_rows | (((try have:=P0 f7 hx3);kas_types);done) | kwd_less | ((repeat kwd_rel);done) | skip
     ·obtain ⟨y1,y2⟩:=na q' hq'
      exact ⟨by kwd_less,by kas_types⟩
     ·rw [<- QGK,Q6U,mrg,QN hno,QY kp];rfl
  ·intros σ3 hI
   obtain ⟨⟨m1,m2,m3,m4⟩,g3,hx3,m5,c,⟨m6,m7,m8⟩,ns,nl,na,QGK,hns⟩:=hI
   have gn3:=Q95
   have hvl:Q0Q < 64:=by rw [QDJ];exact Q2U
   rw [QK]at QGK hns
   rw [Q77 (by rw [QK];exact Qh _)]at QGK
   with_reducible apply AB
   with_reducible apply Ar
   refine HS (fun σ5=>(Q3I "self"=QB (.QP s)/\Q3I "la"=QB (.Qm XN)/\Q3I "lb"=QB (.Qm Xm)/\Q3I "non_adjacent"=QB (.QP Zz))/\YP [YB+3] σ2 σ5/\Zz < Q4M/\∃ns:QC (QH×Ap),Q9a Zz=.Qs (Q4J fun q=>YU q.1)/\(∀q∈ns,q.1 < Q4M/\Q9a q.1=.YJ (AF q.2))/\Q4J (·.2)=mrg (0,0,0) L0/\Q2F<=Q0Q+1) ?_ ?_
   ·intros R5 hR5
    repeat keq_hits
    refine BE ?_ ?_
    ·intros ke
     have kp:¬c.2.2=0:=fun r=>by rw [r]at ke;simp at ke
     repeat keq_hits
     refine Bc (xs:=Q4J fun q=>YU q.1) ?_ ?_ ?_
     ·have:=Ag hx3;kas_types
     ·rw [QK,X8];exact VN hns hvl
     repeat keq_hits
     refine hR5 _ ⟨⟨?_,?_,?_,?_⟩,?_,?_,ns++[(Q0h,c)],?_,fun q' hq'=>?_,?_,?_⟩
     all_goals first | keq_rows | (rw [Qt,Q3V];kas_types;done) | ((try have:=PZ hns);kwd_less) | ((repeat kwd_rel);done) | skip
     ·rcases Y3 hq' with hq' | hq'
      ·obtain ⟨y1,y2⟩:=na q' hq'
       have hne:q'.1≠Zz:=fun e=>by rw [e,nl]at y2;cases y2
       exact ⟨by kwd_less,by have:=Ag y1;kas_types⟩
      ·rw [Xi]at hq'
       subst hq'
       refine ⟨?_,?_⟩
       ·kwd_less
       ·show Q2f _ Q0h=Q3v [.Qm c.1,.Qm c.2.1,.Qm c.2.2]
        have:=Cj hx3;kas_types
     ·rw [Qt,<- QGK,mrg,QN kp];rfl
    ·intros ke
     have kp:c.2.2=0:=by simpa using ke
     repeat keq_hits
     refine hR5 _ ⟨⟨m1,m2,m3,m4⟩,g3,hx3,ns,nl,na,?_,by exact Hs hns⟩
     rw [<- QGK,mrg,QY kp,Q3H]
   ·intros σ5 hK
    obtain ⟨⟨u1,u2,u3,u4⟩,g5,hx5,ns5,nl5,na5,hinv5,hns5⟩:=hK
    have gn5:=g5.nx
    repeat keq_hits
    refine Bc (xs:=ns5.map fun q=>YU q.1) ?_ ?_ ?_
    ·have:=Ag hx5;kas_types
    ·rw [QK,X8];exact VM hvl hns5
    repeat keq_hits
    refine Pj ?_
    repeat keq_hits
    refine Un (xs:=(ns5.map fun q=>YU q.1)++[.QP Q4M]) ?_ ?_
    ·kas_types
    repeat keq_hits
    have k1:∀l,l < YB->l≠YB+3->Q9a l=Q24 l:=fun l q1 q2=>(QAJ l (by exact P2 f7 q1) (by simpa using q2)).QR (f6.hp l q1 (by simp))
    refine Je (qs:=ns5++[(Q4M,(XN,Xm,0))]) (tl:=Q4M+3) (il:=Q4M+2) (l:=Zz) (f:=Q4M+1) ?_ ?_ ?_ ?_ ?_ ?_ ?_ ?_ ?_ ?_ ?_ ?_ ?_
    ·kas_types
    ·kas_types
    ·kas_types
    ·rw [Qt,Q3V];kas_types
    ·kas_types
    ·kwd_less
    ·kwd_less
    ·kwd_less
    ·kwd_less
    ·kwd_less
    ·rw [Xw,Q06];exact VL hvl hns5
    ·intros q hq
     rcases Y3 hq with hq | hq
     ·obtain ⟨y1,y2⟩:=na5 q hq
      have hne:q.1≠Zz:=fun e=>by rw [e,nl5]at y2;cases y2
      exact ⟨by kwd_less,by have:=Ag y1;kas_types⟩
     ·rw [Xi]at hq
      subst hq
      refine ⟨?_,?_⟩
      ·kwd_less
      ·show Q2f _ Q4M=Q3v [.Qm XN,.Qm Xm,.Qm 0]
       have:=Cj hx5;kas_types
    intros σ6 rs g6 hra hrs
    have gn6:Q4M+5<=σ6.nx:=g6.nx
    have k2:∀l,l < Q4M->l≠Zz->σ6.hp l=Q9a l:=fun l q1 q2=>(QCs l (by dsimp only [Ab,Ac];exact VJ q1) (by simp;exact H4 q1)).QR (by have:=Ag q1;kas_types)
    have v1:σ6.loc "self"=QB (.QP s):=by rw [g6.loc];keq_rows
    have v2:σ6.hp s=.Q5C 259 ds:=(k2 s (by exact PY l1 f7 hx5) (by exact PX l1 f7)).QR ((k1 s l1 (by exact LU l1)).QR c1)
    have v3:σ6.hp ds=_:=(k2 ds (by exact PY l2 f7 hx5) (by exact PX l2 f7)).QR ((k1 ds l2 (by exact LU l2)).QR c2)
    have hsd:=sm.sds
    have:=PW l1 f7 hx5 gn6;have:=PW l2 f7 hx5 gn6;repeat keq_hits
    refine h _ σ6.nx rs ⟨?_,QA,?_⟩ ?_ ?_ ?_ ?_ ?_
    ·dsimp only;rw [<- hn];have:=PV f7 hx5 gn6;kwd_less
    ·intros l hl hx
     have hx':l≠ds:=by simpa using hx
     rw [<- hn]at hl
     rw [<- hh,<- k1 l hl (by exact LU hl),<- k2 l (by exact VI f7 hx5 hl) (by exact VH f7 hl)]
     dsimp only
     have:=VG f7 hx5 gn6 hl;kas_types
    ·rw [<- hn];exact PV f7 hx5 gn6
    ·dsimp only;kwd_less
    ·dsimp only;have:=VF l2 f7 hx5 gn6;kas_types
    ·intros q hq
     obtain ⟨y1,y2⟩:=hra q hq
     have hne:q.1≠ds:=fun e=>by rw [e,v3]at y2;cases y2
     dsimp only
     exact ⟨by kwd_less,by have:=Ag y1;kas_types⟩
    ·refine ⟨L0,hB0,?_⟩
     rw [hrs,Qt,hinv5];rfl
end
end
section
variable {P:Params} {d:Nat} {σ:Mini.St}
mutual
theorem Jh {x:X6} {Q:QU->QE->Prop} (hx:Q1U < 1000000) (h:∀XF,Gro σ XF->Q (.Yn (rxJ Q8s)) XF):Ae (G P) (d+2) (.imm (.QP 277)) [.Xs x] σ Q:=by
 injections P d σ x Q _ _
 refine BQ (AE (E1 P) QA ?_ ?_ 40 ?_)
 ·kernel_rfl
 ·kernel_rfl
 intros σ1 hh hn hl
 have h1:ZX "line"=QB (.Xs x):=hl _ _ (by kernel_rfl)
 have h2:ZX "pat"=QB (.imm (.QP 269)):=hl _ _ (by kernel_rfl)
 refine Ar ?_
 iterate 11 keq_hits
 refine ⟨.inr ⟨_,_,_,QA⟩,Pw ⟨QA,TK P,hx,?_,?_⟩⟩
 ·intros hj
  repeat keq_hits
  have:=h {(σ1.alloc .any) with loc:=Xv} (.of hh hn (by repeat kwd_rel))
  rw [hj]at this
  exact this
 ·intros hj
  repeat keq_hits
  have:=h {σ1 with loc:=Xv} (.of hh hn .Q1H)
  rw [hj]at this
  exact this
theorem T5:JF P (d+2) (.imm (.QP 277)) (fun k=>match k with | .s x=>rxJ Q8s | _=>QJ) (fun k=>match k with | .s x=>Q1U < 1000000 | _=>Yk) [] σ where
 lt:=fun l hl=>(by cases hl)
 hand:=by kernel_rfl
 truth:=fun XF _ R h=>.inl (Cs.mk QA ⟨by kernel_rfl,h⟩)
 Q4V:=fun XF _=>.inl (by kernel_rfl)
 Q0M:=fun XF _ k hk Q h=>by
  cases k with
  | i n=>exact hk.elim
  | s x=>exact Jh hk h
end
end
mutual
theorem HI:∀(L:QC Ap) (c:Ap),(mrg c L).ZT<=Q6b+1
 | [],c=>by unfold mrg;split <;> simp
 | t::r,c=>by
  unfold mrg
  split
  ·have:=HI r (c.1,c.2.1,c.2.2+t.2.2);rw [XZ];exact Sg this
  ·have:=HI r t
   rw [Xw,XZ]
   split
   ·simp;exact Sg this
   ·simp;exact acq this
theorem KZ {M:QH->QH->Qu} {U:QH->Qu} {la lb:QH} {R:QC Ap} (h:Gmb M U la lb R):R.length<=la+2:=by
 obtain (⟨L,hB,QA⟩):=h
 have Q9V:=QB4 (XT _) (XT _)
 have h2:=CJ (L:=L) (a:=0) (n:=la) (fun t ht=>by have:=Q9V.1 t ht;dsimp only at this;exact ⟨zq8,DK this.2.1,Lf this.2.2.2.2⟩) (Q9V.2.imp fun r=>r.1)
 have h3:=HI L (0,0,0)
 rw [Xw,Q06];exact acp h2 h3
end
section
variable {P:Params} {d:Nat} {σ:Mini.St}
mutual
theorem pap {l:QH} {xs:QC QU} {v:QU} {R:QU->QE->Prop} (h:QS l=.Qs xs) (hl:Qn<=Xa) (p:R .QG (Yt l (.Qs (xs++[v])))):Bx [.QP l,v] σ R:=by
 refine ⟨QA,?_⟩;refine Q3z h ?_;exact ⟨hl,p⟩
theorem NY {l:QH} {xs:QC QU} {R:QU->QE->Prop} (h:QS l=.sub 152 xs) (hl:Qn<=Xa) (h0:0 < Qn) (p:R (.QP QO) (Qw (.YJ xs))):Ae (G P) d (.imm (.Qk "tuple")) [.QP l] σ R:=by
 refine D6 (by decide) ?_
 unfold AD;dsimp only
 rw [QN (by decide),QY QA]
 refine ⟨QA,?_⟩;refine Cq.mk h ?_
 exact ⟨CS P,EK P,hl,h0,p⟩
theorem EO {la lb:QH} {fv:QU} {A B:QC Yb} {J:Yb->Qu} {ok:Yb->Prop} {S:QC QH} {Q:QU->QE->Prop} (ha:QS la=.Qs (Q93 Q10)) (hb:QS lb=.Qs (Q94 Q10))
  (lla:la < QO) (llb:lb < QO) (hA:XN<=4000) (hA':∀L,Blk (MM A B) (UU B J) ⟨0,XN,0,Xm⟩ L->Q6b < 64) (hB:Xm<=4000) (hJ:JF P d fv J ok S σ) (hok:∀k∈B,ok k) (hlk:∀x∈A,∀y∈B,KS x y=QM)
  (h:∀XF l (qs:QC (QH×Ap)),Gro σ XF->QO<=l->l < Xg->X4 l=.Qs (YI fun q=>.QP q.1)->(∀q∈qs,q.1 < Xg/\X4 q.1=.YJ (AF q.2))->Gmb (MM A B) (UU B J) XN Xm (YI (·.2))->Q (.QP l) XF) :
  Ae (G P) (d+5) (.imm (.QP 289)) [fv,.QP la,.QP lb] σ Q:=by
 injections P d σ la lb fv A B J ok S Q _ _ _ _ _ _ _ _ _ _ _
 refine BQ (AE (Gu P) QA ?_ ?_ 40 ?_)
 ·kernel_rfl
 ·kernel_rfl
 intros σ1 hh hn hl
 have h1:ZX "isjunk"=QB fv:=hl _ _ (by kernel_rfl)
 have h2:ZX "first"=QB (.QP la):=hl _ _ (by kernel_rfl)
 have h3:ZX "second"=QB (.QP lb):=hl _ _ (by kernel_rfl)
 refine Ar ?_
 repeat keq_hits
 refine NQ [] ⟨?_,?_,?_⟩
 ·kernel_rfl
 ·kernel_rfl
 repeat keq_hits
 refine Px (A:=A) (B:=B) (J:=J) (ok:=ok) (S:=S) (by rw [hh];exact ha) (by rw [hh];exact hb) (by exact GN lla hn) (by exact GN llb hn) hB (QF3 (by exact Ko hn) fun l _=>by rw [hh]) hok hJ.hand ?_;intros σ2 s ds bj js bp Y4 xs g2 q1 q2 sm
 have s1:=QHQ
 have s2:=QGI
 have gn2:=Q8I
 repeat keq_hits
 refine N3 (d:=d+1) sm hA hA' hB hlk ?_;intros σ3 l qs g3 r1 r2 r3 r4 r5
 refine ⟨_,_,QEb r3,?_⟩
 refine Ax (fun t σ4=>YP [] σ3 σ4/\Q0h < QCt/\∃ns:QC (QH×Ap),QGe Q0h=.Qs (Q4J fun q=>YU q.1)/\(∀q∈ns,q.1 < QCt/\QGe q.1=.YJ (AF q.2))/\Q4J (·.2)=(YI (·.2)).take t/\Q2F=t) (fun _=>Yk) (fun _ _=>Yk) ?_ ?_ ?_ ?_ (fun _ q=>Q2e) (fun _ _ q=>Q2e)
 ·exact ⟨⟨Q1B _,fun l' hl' _=>QN (Y5 hl')⟩,Xx _,[],QY QA,fun q hq=>(by cases hq),QA,QA⟩
 ·intros t σ4 Q2T
  obtain ⟨g,_⟩:=Q2T
  exact (Q1Y l r2 (by simp)).QR r3
 ·intros t x σ4 hx hI R hn2 u1 u2 u3
  obtain ⟨g,hx4,ns,n1,n2,n3,n4⟩:=hI
  have gn:=Q7U
  have zO:∃q,qs[t]?=QB q/\x=.QP q.1:=by
   rw [QT]at hx
   cases e:qs[t]? with
   | QG=>rw [e]at hx;cases hx
   | QB q=>rw [e]at hx;exact ⟨q,QA,(X1 hx).Q3w⟩
  obtain ⟨q,hq,QA⟩:=zO
  obtain ⟨y1,y2⟩:=r4 q (XE hq)
  have y3:QGe q.1=.sub 152 (AF q.2):=(Q1Y q.1 y1 (by simp)).QR y2
  have htq:t < Q4K:=(QX hq).1
  try dsimp only
  repeat keq_hits
  refine ⟨fun q=>(by cases q),?_⟩;intros u4
  repeat keq_hits
  refine NY (xs:=AF q.2) ?_ (by unfold AF;simp [X8]) (by unfold AF;simp) ?_
  ·kas_types
  refine pap (xs:=Q4J fun q=>YU q.1) ?_ ?_ ?_
  ·kas_types
  ·have:Q4K<=4002:=by have:=KZ r5;rw [QK]at this;exact acn hA this
   rw [QK,X8];exact acm n4 htq this
  refine hn2 _ ⟨?_,?_,ns++[(QCt,q.2)],?_,?_,?_,?_⟩
  ·repeat kwd_rel
  ·kwd_less
  ·rw [Qt,Q3V];kas_types
  ·intros q' hq'
   rcases Y3 hq' with hq' | hq'
   ·obtain ⟨z1,z2⟩:=n2 q' hq'
    have hne:q'.1≠Q0h:=fun e=>by rw [e,n1]at z2;cases z2
    exact ⟨by kwd_less,by kas_types⟩
   ·rw [Xi]at hq'
    subst hq'
    refine ⟨?_,?_⟩
    ·kwd_less
    ·show Q2f _ QCt=Q3v (AF q.2)
     have:=Cj hx4;kas_types
  ·rw [Qt,n3,Zx,QT,hq];rfl
  ·rw [Xw,Q06,n4]
 ·intros σ4 hI
  obtain ⟨g,hx4,ns,n1,n2,n3,n4⟩:=hI
  rw [QK,<- QK (f:=(·.2)),Q0r]at n3
  repeat keq_hits
  have gn:=Q7U
  refine h _ Q0h ns ⟨?_,QA,?_⟩ ?_ ?_ ?_ ?_ ?_
  ·show QO<=QCt;have:=Q95;exact acl hn gn2 r1 r2 hx4
  ·intros l' hl'
   have e1:l'≠ds:=by exact ack hn q2 hl'
   have:=Q95
   show QGe l'=QS l'
   rw [Q1Y l' (by exact acj hn gn2 r1 r2 hl') (by simp),Q3u l' (by exact aci hn gn2 hl') (by simpa using e1),Q3Z l' (by exact Tl hn hl'),hh]
  ·have:=Q95;exact ach hn gn2 r1 r2
  ·exact hx4
  ·exact n1
  ·intros q hq
   exact n2 q hq
  ·rw [n3];exact r5
end
end
section
local macro_rules | `(tactic| kd_all)=>D1 false "!m aiE aiD:a aiF:99"
local macro_rules | `(tactic| keq_hits)=>D1 false "!m ai3 agH af9:> Ut:>> agK:99! ai2:a agJ:22%"
section
variable {P:Params} {d:Nat} {σ:Mini.St}
mutual
def BW (w v n m k:QH):X6:=⟨(DS w v n m k).Xe⟩
theorem AV (a:X3) {b:X3} (hb:0 < b):0<=a.fmod b/\a.fmod b < b:=⟨Int.fmod_nonneg_of_pos a hb,Int.fmod_lt_of_pos a hb⟩
theorem GV:∀c∈Hz,c<=1114111:=by decide +XB
theorem Nl:∀c∈Nm,c<=1114111:=by decide +XB
theorem af7 {l:QH} {R:QU->QE->Prop} (e:QS l=.Q7A 8192 8203 1) (h:R (.QP QO) (Qw (.Qs [.Qm 8192,.Qm 8193,.Qm 8194,.Qm 8195,.Qm 8196,.Qm 8197,.Qm 8198,.Qm 8199,.Qm 8200,.Qm 8201,.Qm 8202]))):Ae (G P) d (.imm (.Qk "list")) [.QP l] σ R :=
 HV e (by decide +XB) (by decide +XB) (by decide +XB) h
theorem F4 {d0:X3} {Q:QU->QE->Prop} (h:∀XF l w v n m,Gro σ XF->QO<=l->l < Xg->Qr w=QM->Qr v=QM->Qr n=QJ->n≠35->m < 3 ->
   X4 l=.Qs ((X5 7).map fun k=>QAK (BW w v n m k))->Q (.QP l) XF) :
  Ae (G P) (d+1) (.imm (.QP 284)) [.Qm d0] σ Q:=by
 injections P d σ d0 Q _
 refine BQ (AE (HR P) QA ?_ ?_ 40 ?_)
 ·kernel_rfl
 ·kernel_rfl
 intros σ1 hh hn hl
 have h1:ZX "d"=QB (.Qm d0):=hl _ _ (by kernel_rfl)
 refine Ar ?_
 repeat keq_hits
 refine af7 ?_ ?_
 ·kas_types
 repeat keq_hits
 refine JE (xs:=?_) (cs:=Hz) ?_ ?_ (AV _ (by decide)).1 (AV _ (by decide)).2 (by decide) fun w hw=>?_
 rotate_left
 ·kas_types
 ·kernel_rfl
 repeat keq_hits
 refine J4 (GV w hw) ?_
 repeat keq_hits
 refine JE (xs:=?_) (cs:=Hz) ?_ ?_ (AV _ (by decide)).1 (AV _ (by decide)).2 (by decide) fun v hv=>?_
 rotate_left
 ·kas_types
 ·kernel_rfl
 repeat keq_hits
 refine J4 (GV v hv) ?_
 repeat keq_hits
 refine JE (xs:=?_) (cs:=Nm) ?_ ?_ (AV _ (by decide)).1 (AV _ (by decide)).2 (by decide) fun n hn'=>?_
 rotate_left
 ·kas_types
 ·kernel_rfl
 repeat keq_hits
 refine J4 (Nl n hn') ?_
 repeat keq_hits
 have zO:∃m:QH,m < 3/\(QF5 16820).fmod 3=m:=by
  have:=FW (b:=3) (AV (QF5 16820) (by decide))
  exact ⟨_,this.2,this.1⟩
 obtain ⟨m,hm,e⟩:=zO
 rw [e]
 have hm2:m % 2 < 3:=Q2O (QCE _ (by decide))
 repeat keq_hits
 refine h _ _ w v n m (.of hh hn ?_) ?_ ?_ (GU w hw) (GU v hv) (IQ n hn').1 (IQ n hn').2 hm ?_
 ·repeat kwd_rel
 ·rw [<- hn];kwd_less
 ·dsimp only;kwd_less
 ·dsimp only
  refine D3 QA ?_
  rw [Q0S (Q0x m w) [35]]
  kernel_rfl
end
end
end
section
local macro_rules | `(tactic| kln_le)=>D1 false "!m aju ajt:%8"
local macro_rules | `(tactic| keq_hits)=>D1 false "!m ahA:;0 aiV:820 Kd:820 agE ajC ajD UL agn ae1 aeZ aji ajj agm ai3 af9:> Ut:>>"
section
variable {P:Params} {d:Nat} {σ:Mini.St}
mutual
def Aa (a:QC QH):QC QU:=a.map fun k:QH=>Q11 k
theorem HX {lb lf ls:QH} {qs:QC (QH×Ap)} {a b:QC QH} {Q:QU->QE->Prop} (hb:QS lb=.Qs (YI fun q=>.QP q.1)) (hq:∀q∈qs,q.1 < QO/\QS q.1=.YJ (AF q.2))
  (hf:QS lf=.Qs (Aa a)) (hs:QS ls=.Qs (Aa b)) (llb:lb < QO) (llf:lf < QO) (lls:ls < QO) (ha:ZE<=4000) (hb4:Q3r<=4000)
  (hin:∀q∈qs,q.2.1<=ZE/\q.2.2.1<=Q3r) (hg:Jm (Mq a b) (Uq b fun k=>XV (2 < k)) 0 0 (YI (·.2))) (h:∀XF,Gro σ XF->Q (.Yn QM) XF) :
  Ae (G P) (d+1) (.imm (.QP 294)) [.QP lb,.QP lf,.QP ls] σ Q:=by
 injections P d σ lb lf ls qs a b Q _ _ _ _ _ _ _ _ _ _ _ _
 refine N4 (FG (CI P) QA ["m","j","second"] ?_ (by decide) ?_ 40 [("m",QO),("j",QO+1),("second",QO+2)] QA ?_)
 ·kernel_rfl
 ·kernel_rfl
 intros σ1 hn hh hl hc
 have h1:ZX "blocks"=QB (.QP lb):=by rw [hl];kernel_rfl
 have h2:ZX "first"=QB (.QP lf):=by rw [hl];kernel_rfl
 have c1:Q24 (QO+2)=.YQ (QB (.QP ls)):=(hc 2 "second" QA).QR (by kernel_rfl)
 have c2:Q24 (QO+1)=.YQ QG:=(hc 1 "j" QA).QR (by kernel_rfl)
 have c3:Q24 QO=.YQ QG:=(hc 0 "m" QA).QR (by kernel_rfl)
 have hn:YB=QO+3:=hn
 have b1:Q24 lb=.Qs (YI fun q=>.QP q.1):=(hh lb llb).QR hb
 have b2:Q24 lf=.Qs (Aa a):=(hh lf llf).QR hf
 have b3:Q24 ls=.Qs (Aa b):=(hh ls lls).QR hs
 refine Ar ?_
 have:=acg hn;have:=Fe llb;have:=acf llb hn;repeat keq_hits
 refine Ax (fun t σ2=>∃x y:QH,Jm (Mq a b) (Uq b fun k=>XV (2 < k)) x y ((YI (·.2)).Q9M t)/\YP [QO,QO+1] σ1 σ2/\Yy (QO+1)=.YQ (QB (.Qm y))/\(∃u,Yy QO=.YQ u)/\Q3t "first"=QB (.QP lf)/\Q3t "i"=QB (.Qm x)) (fun _=>Yk) (fun _ _=>Yk) ?_ ?_ ?_ ?_ (fun _ q=>Q2e) (fun _ _ q=>Q2e)
 ·refine ⟨0,0,hg,?_,?_,?_,?_,?_⟩
  ·repeat kwd_rel
  ·with_reducible apply Cu
   ·kwd_less
   ·kc_close
  ·exact ⟨_,by have:=ace hn;kas_types⟩
  ·keq_rows
  ·with_reducible apply T0
   with_reducible apply DZ
   kc_close
 ·intros t σ2 Q2T
  obtain ⟨x,y,_,g,_⟩:=Q2T
  exact (Q1Y lb (by exact Ez llb hn) (by simp;exact ⟨Ag llb,Fe llb⟩)).QR b1
 ·intros t x σ2 hx hI R hn2 u1 u2 u3
  obtain ⟨i,j,hG,g,k1,⟨u,k2⟩,k3,k4⟩:=hI
  have zO:∃q,qs[t]?=QB q/\x=.QP q.1:=by
   rw [QT]at hx
   cases e:qs[t]? with
   | QG=>rw [e]at hx;cases hx
   | QB q=>rw [e]at hx;exact ⟨q,QA,(X1 hx).Q3w⟩
  obtain ⟨q,hqt,QA⟩:=zO
  have htq:t < Q4K:=(QX hqt).1
  have Q6U:(YI (·.2)).Q9M t=q.2::(YI (·.2)).Q9M (t+1):=by
   rw [YM (by rw [QK];exact htq),QB7]
   rw [(QX hqt).2]
  rw [Q6U]at hG
  obtain ⟨hG1,hG2⟩:=hG
  obtain ⟨y1,y2⟩:=hq q (XE hqt)
  obtain ⟨z1,z2⟩:=hin q (XE hqt)
  have gn:=Q7U
  have y3:Yy q.1=.YJ [.Qm q.2.1,.Qm q.2.2.1,.Qm q.2.2.2]:=(Q1Y q.1 (by exact Sf hn y1) (by simp;exact ⟨Ag y1,Fe y1⟩)).QR ((hh q.1 y1).QR y2)
  have b2':Yy lf=.Qs (Aa a):=(Q1Y lf (by exact Ez llf hn) (by simp;exact ⟨Ag llf,Fe llf⟩)).QR b2
  have b3':Yy ls=.Qs (Aa b):=(Q1Y ls (by exact Ez lls hn) (by simp;exact ⟨Ag lls,Fe lls⟩)).QR b3
  have c1':Yy (QO+2)=.YQ (QB (.QP ls)):=(Q1Y _ (by exact Se hn) (by simp)).QR c1
  try dsimp only
  repeat keq_hits
  have hz:∀σ5,YP [QO,QO+1] σ1 σ5->Q9a (QO+1)=.YQ (QB (.Qm (((q.2.2.1+q.2.2.2:QH)):X3)))->(∃u,Q9a QO=.YQ u)->Q3I "first"=QB (.QP lf)->Q3I "i"=QB (.Qm (((q.2.1+q.2.2.2:QH)):X3))->R .YC σ5 :=
   fun σ5 r1 r2 r3 r4 r5=>hn2 σ5 ⟨_,_,hG2,r1,r2,r3,r4,r5⟩
  have xk:(q.2.1:X3)+(q.2.2.2:X3)=((q.2.1+q.2.2.2:QH):X3):=by exact ia2 (CR)
  have yk:(q.2.2.1:X3)+(q.2.2.2:X3)=((q.2.2.1+q.2.2.2:QH):X3):=by exact ia2 (CR)
  refine Aw ?_ ?_
  ·intros p1
   have p1':i < q.2.1:=by have:=YD p1;exact (Yg this)
   repeat keq_hits
   refine Aw ?_ ?_
   ·intros p2
    have p2':j < q.2.2.1:=by have:=YD p2;exact (Yg this)
    obtain ⟨⟨hm0,hgap⟩,QDF⟩:=(hG1 ⟨p1',p2'⟩)
    have la:i < ZE:=by exact Be z1 p1'
    have lb':j < Q3r:=by exact Be z2 p2'
    have ne0:((a[i]:X3) == (b[j]:X3))=QJ:=by
     unfold Mq at hm0
     rw [Qg la,Qg lb']at hm0
     exact Yi (afU (ZK hm0))
    repeat keq_hits
    refine Ao (xs:=Aa a) (k:=i) (v:=.Qm (a[i]:QH)) (by have:=Ag llf;kas_types) QA (by unfold Aa;rw [QT,Qg la];rfl) (by exact Sd ha la) ?_
    repeat keq_hits
    refine Ao (xs:=Aa b) (k:=j) (v:=.Qm (b[j]:QH)) (by have:=Ag lls;kas_types) QA (by unfold Aa;rw [QT,Qg lb'];rfl) (by exact Sd hb4 lb') ?_
    with_reducible apply Tj
    rw [ne0]
    repeat keq_hits
    refine (fun hK:Q3x->(?PKq:Prop)=>Aw (fun p3=>?caseA) (fun p3=>?caseB)) ?caseK
    case' caseA =>
     have p3':0 < q.2.2.2:=by have:=YD p3;exact (Yg this)
     have QDF:=QDF p3'
     have la1:q.2.1 - 1 < ZE:=by exact Sc z1 p1'
     have lb1:q.2.2.1 - 1 < Q3r:=by exact Sc z2 p2'
     have ne1:((a[q.2.1 - 1]:X3) == (b[q.2.2.1 - 1]:X3))=QJ:=by
      unfold Mq at QDF
      rw [Qg la1,Qg lb1]at QDF
      exact Yi (afU (ZK QDF))
     repeat keq_hits
     refine Ao (xs:=Aa a) (k:=q.2.1 - 1) (v:=.Qm (a[q.2.1 - 1]:QH)) (by have:=Ag llf;kas_types) (by exact ia1 (H3 p1')) (by unfold Aa;rw [QT,Qg la1];rfl) (by exact Sb ha la1) ?_
     repeat keq_hits
     refine Ao (xs:=Aa b) (k:=q.2.2.1 - 1) (v:=.Qm (b[q.2.2.1 - 1]:QH)) (by have:=Ag lls;kas_types) (by exact ia1 (H3 p2')) (by unfold Aa;rw [QT,Qg lb1];rfl) (by exact Sb hb4 lb1) ?_
     with_reducible apply Tj
     rw [ne1]
     repeat keq_hits
     exact hK ⟨⟩
    case' caseB=>(repeat keq_hits);exact hK ⟨⟩
    case caseK =>
     intros u4
     refine Dm [("second",QO+2),("m",QO),("j",QO+1)] (by kernel_rfl) (by kernel_rfl) ?_
     repeat keq_hits
     refine E6 (xs:=Aa a) (p:=QB (i:X3)) (q:=QB (q.2.1:X3)) (r:=QG) (by have:=Ag llf;kas_types) QA QA QA (by simp) (by unfold Aa;rw [QK,X8];exact GK ha) ?_
     rw [IE (Aa a) (XD p1') (by unfold Aa;rw [QK];omega)]
     refine Dn (fun _ vs _ _=>vs=[]) (Xx _) (QY QA) QA ?_ ?_
     ·intros n x XF vs hx' g' h1' h2' h3' R' hR'
      subst h3'
      have zO:n < q.2.1 - i/\x=.Qm ((a[i+n]?).Q4f 0:QH):=by
       rw [ZZ]at hx'
       split at hx'
       ·rename_i hlt
        refine ⟨hlt,?_⟩
        unfold Aa at hx'
        rw [Q3S,QT]at hx'
        cases e:a[i+n]? with
        | QG=>rw [e]at hx';cases hx'
        | QB z=>rw [e]at hx';exact (X1 hx').Q3w
       ·cases hx'
      obtain ⟨hn1,hn2⟩:=zO
      have lan:i+n < ZE:=by exact acb z1 p1' hn1
      rw [Qg lan]at hn2
      subst hn2
      have gn':=Q4u
      simp only [Ah,Ab,Ac]at h1' h2' gn'
      have d1:X4 (QO+2)=.YQ (QB (.QP ls)):=(Q0O _ (by have:=Sa hn gn;kwd_less) (by simp)).QR (by have:=Sa hn gn;kas_types)
      have d2:X4 QO=.YQ (QB (.Qm q.2.2.1)):=(Q0O _ (by have:=GJ hn gn;kwd_less) (by simp)).QR (by have:=GJ hn gn;kas_types)
      have d3:X4 (QO+1)=.YQ (QB (.Qm j)):=(Q0O _ (by have:=GI hn gn;kwd_less) (by simp)).QR (by have:=GI hn gn;kas_types)
      have d4:X4 ls=.Qs (Aa b):=(Q0O _ (by have:=R9 lls hn gn;kwd_less) (by simp)).QR (by have:=R9 lls hn gn;have:=Ag lls;kas_types)
      dsimp only [Q4N]
      repeat keq_hits
      refine Aw ?_ ?_
      ·intros p4
       have p4':a[i+n] < 3:=by have:=YD p4;exact (Yg this)
       repeat keq_hits
       refine E6 (xs:=Aa b) (p:=QB (j:X3)) (q:=QB (q.2.2.1:X3)) (r:=QG) (by kas_types) QA QA QA (by simp) (by unfold Aa;rw [QK,X8];exact GK hb4) ?_
       rw [IE (Aa b) (XD p2') (by unfold Aa;rw [QK];omega)]
       refine LM (xs:=(b.drop j).take (q.2.2.1 - j)) ?_ ?_
       ·refine (QY QA).QR ?_
        unfold Aa;rw [List.map_take,QDK]
       have hno:XV (a[i+n]∈(b.drop j).take (q.2.2.1 - j))=QJ:=by
        refine Yf ?_;intros hm
        obtain ⟨v,hv,ev⟩:=Zd hm
        rw [Xn,Q1g]at hv
        rw [Q5h,Q5g]at ev
        have hv1:=QQ hv (Q7B ..)
        have hv2:=QQ hv (Q46 ..)
        have lv:j+v < Q3r:=Q43 hv2
        refine hgap (i+n) (j+v) (by exact Gc) (by exact aca p1' hn1) (by exact Gc) (Q43 hv1) ⟨?_,?_⟩
        ·unfold Mq
         rw [Qg lan,Qg lv]
         exact Yu ev.symm
        ·unfold Uq
         rw [Qg lv]
         exact Yf (by rw [ev];exact ab9 p4')
       rw [hno]
       repeat keq_hits
       refine hR' _ [] ?_ ?_ ?_ QA
       ·repeat kwd_rel
       ·kwd_less
       ·simp only [Ah,Ab,Ac]
        kas_types
      ·intros p4
       repeat keq_hits
       refine hR' _ [] ?_ ?_ ?_ QA
       ·repeat kwd_rel
       ·kwd_less
       ·simp only [Ah,Ab,Ac]
        kas_types
     ·intros XF vs e1 g' h1' h2' h3'
      subst h3'
      have gn':=Q4u
      simp only [Ah,Ab,Ac]at h1' h2' gn'
      have d2:X4 QO=.YQ (QB (.Qm q.2.2.1)):=(Q0O _ (by have:=GJ hn gn;kwd_less) (by simp)).QR (by have:=GJ hn gn;kas_types)
      have d3:X4 (QO+1)=.YQ (QB (.Qm j)):=(Q0O _ (by have:=GI hn gn;kwd_less) (by simp)).QR (by have:=GI hn gn;kas_types)
      have w1:Y9 "k"=QB (.Qm q.2.1):=by rw [e1];keq_rows
      have w2:Y9 "size"=QB (.Qm q.2.2.2):=by rw [e1];keq_rows
      have w3:Y9 "first"=QB (.QP lf):=by rw [e1];keq_rows
      have g2:YP [QO,QO+1] σ1 XF:=by
       refine Q2d ?_ (QF6 (by simp))
       repeat kwd_rel
      repeat keq_hits
      refine N7 ?_ ?_ ?_
      ·simp only [Ah,Ab,Ac]
       have:=ab8 h1';kas_types
      ·kas_types
      have:=R8 hn gn h1';have:=ab7 hn gn h1';have:=ab6 hn gn h1';repeat keq_hits
      rw [xk,yk]
      refine hz _ ?_ ?_ ?_ ?_ ?_
      ·repeat kwd_rel
      ·kas_types
      ·exact ⟨_,by have:=ab5 hn gn h1';have:=R8 hn gn h1';kas_types⟩
      ·keq_rows
      ·keq_rows
   ·intros p2
    have p2':¬j < q.2.2.1:=by have:=ZK p2;exact (fun e=>this (Yz e))
    have:=GI hn gn;repeat keq_hits
    rw [xk,yk]
    refine hz _ ?_ ?_ ?_ ?_ ?_
    ·repeat kwd_rel
    ·kas_types
    ·exact ⟨_,by have:=GJ hn gn;kas_types⟩
    ·keq_rows
    ·keq_rows
  ·intros p1
   have p1':¬i < q.2.1:=by have:=ZK p1;exact (fun e=>this (Yz e))
   have:=GI hn gn;repeat keq_hits
   rw [xk,yk]
   refine hz _ ?_ ?_ ?_ ?_ ?_
   ·repeat kwd_rel
   ·kas_types
   ·exact ⟨_,by have:=GJ hn gn;kas_types⟩
   ·keq_rows
   ·keq_rows
 ·intros σ2 hI
  obtain ⟨i,j,hG,g,k1,⟨u,k2⟩,k3,k4⟩:=hI
  repeat keq_hits
  refine h _ ⟨?_,QA,?_⟩
  ·have:=Q7U;show QO<=Zz;exact ab4 hn this
  ·intros l hl
   show Yy l=QS l
   rw [Q1Y l (by exact Sf hn hl) (by simp;exact ⟨Ag hl,Fe hl⟩),hh l hl]
end
end
noncomputable def lst (i:Nat):Stmt:=(fnB (st 13)).getD i default
noncomputable def af2 (s:Stmt):List Stmt:=Mini.xSF s (fun b=>b) []
noncomputable def bb1 (i:Nat):Stmt:=(af2 (lst 4)).getD i default
noncomputable def bb2 (i:Nat):Stmt:=(af2 (bb1 2)).getD i default
section
variable {P:Params} {d:Nat} {σ:Mini.St}
mutual
theorem ND {l lc:QH} {as':Q53} {Qv:Q0J} {Q9Q:X6} {pm ctv:QI} {oc:ZC} {q0:X6} {p1 p2 p3:Pos} {u:QH}
  (h1:QS l=.lam (Dz as' (.Q8S (.Q0v "k" p1) [.Gt] [.Q4a (.Qm 2) u p2] p3) Qv Q9Q pm ctv) lc) (h2:QS lc=.raw oc) (h3:C9 q0 oc) (hl:l < QO) (hlc:lc < QO)
  (hs:scope.isCoroutine=QJ/\scope.isGenerator=QJ/\Q9O=.Q35) (hn:Fa Qv=QM) (ha:D9 Qv ["k"]=QM) (hk:Nr Qv "k"=QM)
  (hb:∀cdv as,as.length=(["k"]:QC X6).ZT->bindArgs (kla_fn "<lambda>" Q9Q as' (.Q8S (.Q0v "k" p1) [.Gt] [.Q4a (.Qm 2) u p2] p3) Qv [] pm cdv ctv) ⟨as,[]⟩=ZU ((["k"]:QC X6).zip as)) :
  JF P (d+1) (.QP l) (fun k=>match k with | .i n=>XV (2 < n) | _=>QJ) (fun k=>∃n,k=.i n) [l,lc] σ where
 lt:=fun x hx=>by
  rcases XP hx with QA | hx
  ·exact hl
  ·rw [Xi]at hx;subst hx;exact hlc
 hand:=QA
 truth:=fun XF e R h=>by
  refine YG (Zy ?_);refine Cr.mk ((e l (.Zc _)).QR h1) ?_
  exact ⟨fun a=>QA,h⟩
 Q4V:=fun XF e=>by
  refine YG ?_;refine Cr.mk ((e l (.Zc _)).QR h1) ?_
  exact fun a=>⟨_,QA⟩
 Q0M:=fun XF e k hk' Q h=>by
  obtain (⟨n,QA⟩):=hk'
  refine YG (Zy ?_);refine Cr.mk ((e l (.Zc _)).QR h1) ?_
  refine ⟨as',_,Qv,Q9Q,pm,ctv,lc,oc,q0,["k"],20,by rw [e l (.Zc _),h1],by rw [e lc (.Q31 _ (.Zc _)),h2],h3,hs,hn,ha,QA,hb,fun cdv=>?_⟩
  have hx:(σ'.frame ((["k"]:QC X6).zip [Q10 (.i n)])).loc "k"=QB (.Qm n):=QA
  refine af5 QA (af3 hk hx (Ug (ai1 ?_)))
  exact h _ ⟨Qh _,QA,fun _ _=>QA⟩
def tmD (d0:X3) (k:QH):QH:=if k < 3 then 1 else 1+(((QF5 50460).fdiv (3 ^ (k - 3))).fmod 3).Q1X
theorem Mv (d0:X3) (k:QH):1<=tmD d0 k:=by unfold tmD;split <;> (first | exact ab3 | exact ab2)
theorem HC (d0:X3) (k:QH):tmD d0 k<=3:=by
 unfold tmD;split
 ·exact U6
 ·exact Q8X (Q2L (FW (b:=3) (AV _ (by decide))).2) 1
theorem Mu (d0:X3) (k:QH) (h:k < 3):tmD d0 k=1:=QY h
theorem TN {c:QH} (h:c < 4):(3:X3) ^ ((c:X3).Q1X)=(3:X3) ^ c/\(3:X3) ^ c≠0/\((3:X3) ^ c).natAbs < 1073741824:=by
 rcases lt4 h with QA | QA | QA | QA <;> decide
theorem MF {d0:X3} {u:QW QU} {R:Fl->QE->Prop} (h6:QS 6=.YQ (QB (.Qm d0))) (h4:QS 4=.YQ u) (hn:9<=QO)
  (k:∀XF l,Y9=Xv->YP [4] σ XF->X4 4=.YQ (QB (.QP l))->QO<=l->l < Xg->X4 l=.Qs (Aa ((X5 7).map (tmD d0)))->R .YC XF):ex1 (G P) (Ae (G P) 20) 28 ⟨(fdO (AO P)).Qv,[("stops",2),("ends",3),("times",4),("dress",5),("d",6),("second",7),("first",8)],(fdO (AO P)).Q0o,QB (296,1)⟩ (bb2 1) σ R:=by
 injections P σ d0 u R _ _ _ _
 conv=>arg 5;whnf
 repeat keq_hits
 refine Dm [("d",6)] (by kernel_rfl) (by kernel_rfl) ?_
 repeat keq_hits
 refine F2 (n:=4) (fun i vs _ _=>vs=(X5 i).map fun c=>Q11 (1+((QF5 50460).fdiv (3 ^ c)).fmod 3)) (QY QA) (by decide) QA ?_ ?_
 ·intros i XF vs hi g' h1' h2' h3' R' hR'
  have gn':=Q4u
  simp only [Ah,Ab,Ac]at h1' h2' gn'
  have d6:X4 6=.YQ (QB (.Qm d0)):=(Q0O _ (by have:=R7 hn;kwd_less) (by simp)).QR (by have:=R7 hn;have:=ab1 hn;kas_types)
  dsimp only
  repeat keq_hits
  refine af8 (by exact Yh (LP)) ?_ ?_
  ·rcases lt4 hi with QA | QA | QA | QA <;> decide
  rw [(TN hi).1]
  refine Ut (TN hi).2.1 (TN hi).2.2 ?_
  repeat keq_hits
  refine pap (xs:=vs) ?_ ?_ ?_
  ·simp only [Ah,Ab,Ac];kas_types
  ·rw [h3',QK,Y8,X8];exact ab0 hi
  refine hR' _ _ ?_ ?_ (QY QA) ?_
  ·repeat kwd_rel
  ·kwd_less
  ·rw [h3',Q3G,Qt];rfl
 ·intros XF vs e1 g' h1' h2' h3'
  have gn':=Q4u
  simp only [Ah,Ab,Ac]at h1' h2' gn'
  have d4:X4 4=.YQ u:=(Q0O _ (by have:=Ib hn;kwd_less) (by simp)).QR (by have:=Ib hn;have:=Kn hn;kas_types)
  have d0':X4 QO=.Qs [.Qm 1,.Qm 1,.Qm 1]:=(Q0O _ (by kwd_less) (by simp)).QR (by kas_types)
  refine J9 (xs:=[.Qm 1,.Qm 1,.Qm 1]) (ys:=vs) d0' h2' ?_ ?_
  ·rw [h3',QK,Y8,X8];simp
  have:=abZ hn h1';repeat keq_hits
  refine k _ Xg ?_ ?_ ?_ ?_ ?_ ?_
  ·rw [CC,DN,e1];rfl
  ·have:YP [4] σ XF:=by
    refine Q2d ?_ (QF6 (by simp))
    repeat kwd_rel
   repeat kwd_rel
  ·kas_types
  ·exact abY h1'
  ·kwd_less
  ·refine Ct (by exact abX hn h1') (D3 QA ?_)
   rw [h3']
   congr 1
   have e2:∀z:X3,(1+z.fmod 3)=((1+(z.fmod 3).Q1X:QH):X3):=by
    intros z
    exact Z4 (1+·) (FW (b:=3) (AV z (by decide))).1
   simp [Aa,X5,List.range.loop,tmD,e2]
end
end
section
variable {P:Params} {d:Nat} {σ:Mini.St}
mutual
theorem MN {d0:X3} {u:QW QU} {R:Fl->QE->Prop} (h6:QS 6=.YQ (QB (.Qm d0))) (h5:QS 5=.YQ u) (hn:9<=QO)
  (k:∀XF l w v n m,Y9=Xv->YP [5] σ XF->X4 5=.YQ (QB (.QP l))->QO<=l->l < Xg->Qr w=QM->Qr v=QM->Qr n=QJ->n≠35->m < 3 ->
   X4 l=.Qs ((X5 7).map fun k=>QAK (BW w v n m k))->R .YC XF):ex1 (G P) (Ae (G P) 20) 29 ⟨(fdO (AO P)).Qv,[("stops",2),("ends",3),("times",4),("dress",5),("d",6),("second",7),("first",8)],(fdO (AO P)).Q0o,QB (296,1)⟩ (bb2 0) σ R:=by
 injections P σ d0 u R _ _ _ _
 conv=>arg 5;whnf
 repeat keq_hits
 refine F4 (d:=19) ?_;intros XF l w v n m g k1 k2 k3 k4 k5 k6 k7 k8
 have gn:=Q7U
 have d5:X4 5=.YQ u:=(Q1Y _ (by exact R6 hn)).QR h5
 repeat keq_hits
 refine k _ l w v n m ?_ ?_ ?_ k1 ?_ k3 k4 k5 k6 k7 ?_
 ·rw [CC,QAH]
 ·have:YP [5] σ XF:=⟨Q7U,fun l hl _=>Q1Y l hl⟩
  repeat kwd_rel
 ·kas_types
 ·kwd_less
 ·exact Ct (by exact abW hn k1) k8
theorem OK {A:QC QH} {tm:QH->QH} {la lt:QH} {u:QW QU} {R:Fl->QE->Prop} (h8:QS 8=.YQ (QB (.QP la))) (hla:QS la=.Qs (Aa A)) (lla:la < QO) (h4:QS 4=.YQ (QB (.QP lt))) (hlt:QS lt=.Qs (Aa ((X5 7).map tm))) (llt:lt < QO) (h3:QS 3=.YQ u) (hn:9<=QO)
  (hA:∀k∈A,k < 7) (hl:XN<=100) (ht:∀k,tm k<=3)
  (k:∀XF l,Y9=Xv->YP [3] σ XF->X4 3=.YQ (QB (.QP l))->QO<=l->l < Xg->X4 l=.Qs (Aa ((X5 (XN+1)).map (eOf tm A)))->R .YC XF):ex1 (G P) (Ae (G P) 20) 27 ⟨(fdO (AO P)).Qv,[("stops",2),("ends",3),("times",4),("dress",5),("d",6),("second",7),("first",8)],(fdO (AO P)).Q0o,QB (296,1)⟩ (bb2 2) σ R:=by
 injections P σ A tm la lt u R _ _ _ _ _ _ _ _ _ _ _ _
 conv=>arg 5;whnf
 refine Dc QA [("times",4),("first",8)] (by kernel_rfl) (by kernel_rfl) ?_
 repeat keq_hits
 refine F3 (xs:=Aa A) (by kas_types) (by unfold Aa;rw [QK,X8];exact Km hl) ?_
 repeat keq_hits
 have e:((Aa A).ZT:X3)+1=((XN+1:QH):X3):=by unfold Aa;rw [QK];exact ia4 (Kg)
 rw [e]
 refine F2 (n:=XN+1) (fun i vs _ _=>vs=Aa ((X5 i).map (eOf tm A))) (QY QA) (by exact R4 hl) QA ?_ ?_
 ·intros i XF vs hi g' h1' h2' h3' R' hR'
  have gn':=Q4u
  simp only [Ah,Ab,Ac]at h1' h2' gn'
  have d8:X4 8=.YQ (QB (.QP la)):=(Q0O _ (by have:=Ia hn;kwd_less) (by simp)).QR (by have:=R0 hn;kas_types)
  have d4:X4 4=.YQ (QB (.QP lt)):=(Q0O _ (by have:=Ib hn;kwd_less) (by simp)).QR (by have:=Kn hn;kas_types)
  have dla:X4 la=.Qs (Aa A):=(Q0O _ (by kwd_less) (by simp)).QR (by have:=Ag lla;kas_types)
  have dlt:X4 lt=.Qs (Aa ((X5 7).map tm)):=(Q0O _ (by kwd_less) (by simp)).QR (by have:=Ag llt;kas_types)
  dsimp only
  repeat keq_hits
  refine Dm [("times",4)] (by kernel_rfl) (by kernel_rfl) ?_
  repeat keq_hits
  refine E6 (xs:=Aa A) (p:=QG) (q:=QB (i:X3)) (r:=QG) (by kas_types) QA QA QA (by simp) (by unfold Aa;rw [QK,X8];exact Km hl) ?_
  rw [Ha (Aa A) (by unfold Aa;rw [QK];exact Ic hi)]
  refine Dn (fun n vs _ _=>vs=Aa ((Q79 n).map tm)) (Xx _) (QY QA) QA ?_ ?_
  ·intros n x σ2 vs2 hx' g2 h12 h22 h32 R2 hR2
   have zO:n < i/\x=.Qm ((A[n]?).Q4f 0:QH):=by
    rw [ZZ]at hx'
    split at hx'
    ·rename_i hlt
     refine ⟨hlt,?_⟩
     unfold Aa at hx'
     rw [QT]at hx'
     cases e:A[n]? with
     | QG=>rw [e]at hx';cases hx'
     | QB z=>rw [e]at hx';exact (X1 hx').Q3w
    ·cases hx'
   obtain ⟨hn1,hn2⟩:=zO
   have lan:n < XN:=by exact Kp hi hn1
   rw [Qg lan]at hn2
   subst hn2
   have hA7:=hA _ (Q0E lan)
   have gn2:=Q8I
   simp only [Ah,Ab,Ac]at h12 h22 gn2
   have c4:Yy 4=.YQ (QB (.QP lt)):=(Q3Z _ (by have:=H9 hn h1';kwd_less) (by simp)).QR (by have:=H9 hn h1';kas_types)
   have clt:Yy lt=.Qs (Aa ((X5 7).map tm)):=(Q3Z _ (by have:=Fd llt h1';kwd_less) (by simp)).QR (by have:=Fd llt h1';kas_types)
   dsimp only [Q4N]
   repeat keq_hits
   refine Ao (xs:=Aa ((X5 7).map tm)) (k:=A[n]) (v:=.Qm (tm A[n]:QH)) (by kas_types) QA (by unfold Aa;rw [QT,QT,Yd hA7];rfl) (by exact H8 hA7) ?_
   refine pap (xs:=vs2) ?_ ?_ ?_
   ·simp only [Ah,Ab,Ac];kas_types
   ·rw [h32];unfold Aa;rw [QK,QK,Xn,X8];exact KQ (Y1 hl (by decide))
   refine hR2 _ _ ?_ ?_ (QY QA) ?_
   ·repeat kwd_rel
   ·kwd_less
   ·rw [h32,Zx,Qg lan]
    unfold Aa;rw [Qt,Qt];rfl
  ·intros σ2 vs2 e12 g2 h12 h22 h32
   have gn2:=Q8I
   simp only [Ah,Ab,Ac]at h12 h22 gn2
   have Q2U:(QDg i (Aa A)).ZT=i:=by unfold Aa;rw [Xn,QK];exact Ye (Q2L hi)
   rw [Q2U]at h32
   repeat keq_hits
   have e3:vs2=((Q79 i).map fun k=>((tm k:QH):X3)).map Q11:=by
    rw [h32];unfold Aa;rw [YT,YT];rfl
   refine NZ (ns:=(Q79 i).map fun k=>((tm k:QH):X3)) ?_ ?_ ?_ ?_
   ·simp only [Ah,Ab,Ac]
    rw [h22,e3]
   ·intros z hz
    obtain ⟨k',_,QA⟩:=(Yx hz)
    exact ⟨Q0B _,Yh (Y1 (ht k') (by decide))⟩
   ·rw [QK,Xn];exact KQ (Y1 hl (by decide))
   have e4:((Q79 i).map fun k=>((tm k:QH):X3)).sum=((eOf tm A i:QH):X3):=by
    unfold eOf
    rw [show i - XN=0 by exact RZ hi,Q0f]
    generalize Q79 i=L
    induction L with
    | Zl=>rfl
    | Xu a L ih=>rw [XR,Zr,ih,XR,Zr];exact ia2 (CR)
   rw [e4]
   refine pap (xs:=vs) ?_ ?_ ?_
   ·have:Yy σ.nx.succ=.Qs vs:=(Q3Z _ (by kwd_less) (by simp)).QR (by kas_types)
    simp only [Ah,Ab,Ac];exact this
   ·rw [h3'];unfold Aa;rw [QK,QK,Y8,X8];exact RY hl hi
   refine hR' _ _ ?_ ?_ (QY QA) ?_
   ·have:YP [] (Qw (Ob.range 0 ((XN+1:QH):X3) 1)) σ2:=by
     refine Q2d ?_ g2
     repeat kwd_rel
    repeat kwd_rel
   ·have:=RX h1' h12;kwd_less
   ·rw [h3',Q3G,Qt];unfold Aa;rw [Qt];rfl
 ·intros XF vs e1 g' h1' h2' h3'
  have gn':=Q4u
  simp only [Ah,Ab,Ac]at h1' h2' gn'
  have d3:X4 3=.YQ u:=(Q0O _ (by have:=RW hn;kwd_less) (by simp)).QR (by have:=abV hn;kas_types)
  repeat keq_hits
  refine k _ (QO+1) ?_ ?_ ?_ ?_ ?_ ?_
  ·rw [CC,e1];rfl
  ·have:YP [3] σ XF:=by
    refine Q2d ?_ (QF6 (by simp))
    repeat kwd_rel
   repeat kwd_rel
  ·kas_types
  ·exact EA
  ·kwd_less
  ·refine Ct (by exact abU hn) ?_
   rw [h2',h3']
theorem MG {A:QC QH} {tm:QH->QH} {la lt:QH} {u:QW QU} {R:Fl->QE->Prop} (h8:QS 7=.YQ (QB (.QP la))) (hla:QS la=.Qs (Aa A)) (lla:la < QO) (h4:QS 4=.YQ (QB (.QP lt))) (hlt:QS lt=.Qs (Aa ((X5 7).map tm))) (llt:lt < QO) (h3:QS 2=.YQ u) (hn:9<=QO)
  (hA:∀k∈A,k < 7) (hl:XN<=100) (ht:∀k,tm k<=3)
  (k:∀XF l,Y9=Xv->YP [2] σ XF->X4 2=.YQ (QB (.QP l))->QO<=l->l < Xg->X4 l=.Qs (Aa ((X5 (XN+1)).map (eOf tm A)))->R .YC XF):ex1 (G P) (Ae (G P) 20) 26 ⟨(fdO (AO P)).Qv,[("stops",2),("ends",3),("times",4),("dress",5),("d",6),("second",7),("first",8)],(fdO (AO P)).Q0o,QB (296,1)⟩ (bb2 3) σ R:=by
 injections P σ A tm la lt u R _ _ _ _ _ _ _ _ _ _ _ _
 conv=>arg 5;whnf
 refine Dc QA [("times",4),("second",7)] (by kernel_rfl) (by kernel_rfl) ?_
 repeat keq_hits
 refine F3 (xs:=Aa A) (by kas_types) (by unfold Aa;rw [QK,X8];exact Km hl) ?_
 repeat keq_hits
 have e:((Aa A).ZT:X3)+1=((XN+1:QH):X3):=by unfold Aa;rw [QK];exact ia4 (Kg)
 rw [e]
 refine F2 (n:=XN+1) (fun i vs _ _=>vs=Aa ((X5 i).map (eOf tm A))) (QY QA) (by exact R4 hl) QA ?_ ?_
 ·intros i XF vs hi g' h1' h2' h3' R' hR'
  have gn':=Q4u
  simp only [Ah,Ab,Ac]at h1' h2' gn'
  have d8:X4 7=.YQ (QB (.QP la)):=(Q0O _ (by have:=H7 hn;kwd_less) (by simp)).QR (by have:=RV hn;kas_types)
  have d4:X4 4=.YQ (QB (.QP lt)):=(Q0O _ (by have:=Ib hn;kwd_less) (by simp)).QR (by have:=Kn hn;kas_types)
  have dla:X4 la=.Qs (Aa A):=(Q0O _ (by kwd_less) (by simp)).QR (by have:=Ag lla;kas_types)
  have dlt:X4 lt=.Qs (Aa ((X5 7).map tm)):=(Q0O _ (by kwd_less) (by simp)).QR (by have:=Ag llt;kas_types)
  dsimp only
  repeat keq_hits
  refine Dm [("times",4)] (by kernel_rfl) (by kernel_rfl) ?_
  repeat keq_hits
  refine E6 (xs:=Aa A) (p:=QG) (q:=QB (i:X3)) (r:=QG) (by kas_types) QA QA QA (by simp) (by unfold Aa;rw [QK,X8];exact Km hl) ?_
  rw [Ha (Aa A) (by unfold Aa;rw [QK];exact Ic hi)]
  refine Dn (fun n vs _ _=>vs=Aa ((Q79 n).map tm)) (Xx _) (QY QA) QA ?_ ?_
  ·intros n x σ2 vs2 hx' g2 h12 h22 h32 R2 hR2
   have zO:n < i/\x=.Qm ((A[n]?).Q4f 0:QH):=by
    rw [ZZ]at hx'
    split at hx'
    ·rename_i hlt
     refine ⟨hlt,?_⟩
     unfold Aa at hx'
     rw [QT]at hx'
     cases e:A[n]? with
     | QG=>rw [e]at hx';cases hx'
     | QB z=>rw [e]at hx';exact (X1 hx').Q3w
    ·cases hx'
   obtain ⟨hn1,hn2⟩:=zO
   have lan:n < XN:=by exact Kp hi hn1
   rw [Qg lan]at hn2
   subst hn2
   have hA7:=hA _ (Q0E lan)
   have gn2:=Q8I
   simp only [Ah,Ab,Ac]at h12 h22 gn2
   have c4:Yy 4=.YQ (QB (.QP lt)):=(Q3Z _ (by have:=H9 hn h1';kwd_less) (by simp)).QR (by have:=H9 hn h1';kas_types)
   have clt:Yy lt=.Qs (Aa ((X5 7).map tm)):=(Q3Z _ (by have:=Fd llt h1';kwd_less) (by simp)).QR (by have:=Fd llt h1';kas_types)
   dsimp only [Q4N]
   repeat keq_hits
   refine Ao (xs:=Aa ((X5 7).map tm)) (k:=A[n]) (v:=.Qm (tm A[n]:QH)) (by kas_types) QA (by unfold Aa;rw [QT,QT,Yd hA7];rfl) (by exact H8 hA7) ?_
   refine pap (xs:=vs2) ?_ ?_ ?_
   ·simp only [Ah,Ab,Ac];kas_types
   ·rw [h32];unfold Aa;rw [QK,QK,Xn,X8];exact KQ (Y1 hl (by decide))
   refine hR2 _ _ ?_ ?_ (QY QA) ?_
   ·repeat kwd_rel
   ·kwd_less
   ·rw [h32,Zx,Qg lan]
    unfold Aa;rw [Qt,Qt];rfl
  ·intros σ2 vs2 e12 g2 h12 h22 h32
   have gn2:=Q8I
   simp only [Ah,Ab,Ac]at h12 h22 gn2
   have Q2U:(QDg i (Aa A)).ZT=i:=by unfold Aa;rw [Xn,QK];exact Ye (Q2L hi)
   rw [Q2U]at h32
   repeat keq_hits
   have e3:vs2=((Q79 i).map fun k=>((tm k:QH):X3)).map Q11:=by
    rw [h32];unfold Aa;rw [YT,YT];rfl
   refine NZ (ns:=(Q79 i).map fun k=>((tm k:QH):X3)) ?_ ?_ ?_ ?_
   ·simp only [Ah,Ab,Ac]
    rw [h22,e3]
   ·intros z hz
    obtain ⟨k',_,QA⟩:=(Yx hz)
    exact ⟨Q0B _,Yh (Y1 (ht k') (by decide))⟩
   ·rw [QK,Xn];exact KQ (Y1 hl (by decide))
   have e4:((Q79 i).map fun k=>((tm k:QH):X3)).sum=((eOf tm A i:QH):X3):=by
    unfold eOf
    rw [show i - XN=0 by exact RZ hi,Q0f]
    generalize Q79 i=L
    induction L with
    | Zl=>rfl
    | Xu a L ih=>rw [XR,Zr,ih,XR,Zr];exact ia2 (CR)
   rw [e4]
   refine pap (xs:=vs) ?_ ?_ ?_
   ·have:Yy σ.nx.succ=.Qs vs:=(Q3Z _ (by kwd_less) (by simp)).QR (by kas_types)
    simp only [Ah,Ab,Ac];exact this
   ·rw [h3'];unfold Aa;rw [QK,QK,Y8,X8];exact RY hl hi
   refine hR' _ _ ?_ ?_ (QY QA) ?_
   ·have:YP [] (Qw (Ob.range 0 ((XN+1:QH):X3) 1)) σ2:=by
     refine Q2d ?_ g2
     repeat kwd_rel
    repeat kwd_rel
   ·have:=RX h1' h12;kwd_less
   ·rw [h3',Q3G,Qt];unfold Aa;rw [Qt];rfl
 ·intros XF vs e1 g' h1' h2' h3'
  have gn':=Q4u
  simp only [Ah,Ab,Ac]at h1' h2' gn'
  have d3:X4 2=.YQ u:=(Q0O _ (by have:=RU hn;kwd_less) (by simp)).QR (by have:=abT hn;kas_types)
  repeat keq_hits
  refine k _ (QO+1) ?_ ?_ ?_ ?_ ?_ ?_
  ·rw [CC,e1];rfl
  ·have:YP [2] σ XF:=by
    refine Q2d ?_ (QF6 (by simp))
    repeat kwd_rel
   repeat kwd_rel
  ·kas_types
  ·exact EA
  ·kwd_less
  ·refine Ct (by exact abS hn) ?_
   rw [h2',h3']
end
end
section
variable {P:Params} {d:Nat} {σ:Mini.St}
mutual
theorem MI {qs:QC (QH×Ap)} {e s:QH->QH} {la lb ldue le ls:QH} {R:Fl->QE->Prop} (hd:Xv "due"=QB (.QP ldue)) (hdu:QS ldue=.Qs (YI fun q=>.QP q.1)) (ldu:ldue < QO) (hq:∀q∈qs,q.1 < QO/\QS q.1=.YJ (AF q.2))
  (h3:QS 3=.YQ (QB (.QP le))) (h2:QS 2=.YQ (QB (.QP ls))) (hle:QS le=.Qs (Aa ((X5 (la+1)).map e))) (hls:QS ls=.Qs (Aa ((X5 (lb+1)).map s))) (lle:le < QO) (lls:ls < QO)
  (hn:9<=QO) (hin:∀q∈qs,q.2.1+q.2.2.2<=la/\q.2.2.1<=lb) (hm:∀i k,e i<=e (i+k)) (hla:la<=1000) (hlb:lb<=1000) (hql:Q4K<=5000)
  (k:∀XF l (rs:QC (QH×Ap)),YP [] σ XF->(∀y:X6,y≠"moved"->Y9 y=Xv y)->Y9 "moved"=QB (.QP l)->QO<=l->l < Xg->X4 l=.Qs (Q4k fun q=>.QP q.1)->(∀q∈rs,q.1 < Xg/\X4 q.1=.YJ (AF q.2))->Q4k (·.2)=YI (fun q=>mvT e s q.2)->R .YC XF) :
  ex1 (G P) (Ae (G P) 20) 25 ⟨(fdO (AO P)).Qv,[("stops",2),("ends",3),("times",4),("dress",5),("d",6),("second",7),("first",8)],(fdO (AO P)).Q0o,QB (296,1)⟩ (bb2 4) σ R:=by
 injections P σ qs e s la lb ldue le ls R _ _ _ _ _ _ _ _ _ _ _ _ _ _ _ _ _
 conv=>arg 5;whnf
 refine Dc QA [("stops",2),("ends",3)] (by kernel_rfl) (by kernel_rfl) ?_
 repeat keq_hits
 refine Dn (fun i vs hp nx=>∃rs:QC (QH×Ap),vs=(Q4k fun q=>YU q.1)/\(∀q∈rs,q.1 < nx/\hp q.1=.YJ (AF q.2))/\Q4k (·.2)=(YI (fun q=>mvT e s q.2)).take i) ldu hdu ⟨[],QA,(fun q hq=>by cases hq),QA⟩ ?_ ?_
 ·intros i x XF vs hx g' h1' h2' h3' R' hR'
  have zO:∃q,qs[i]?=QB q/\x=.QP q.1:=by
   rw [QT]at hx
   cases e:qs[i]? with
   | QG=>rw [e]at hx;cases hx
   | QB q=>rw [e]at hx;exact ⟨q,QA,(X1 hx).Q3w⟩
  obtain ⟨q,hqt,QA⟩:=zO
  have hiq:i < Q4K:=(QX hqt).1
  obtain ⟨rs,QA,r1,r2⟩:=h3'
  have gn':=Q4u
  obtain ⟨y1,y2⟩:=hq q (XE hqt)
  obtain ⟨z1,z2⟩:=hin q (XE hqt)
  have y3:X4 q.1=.YJ [.Qm q.2.1,.Qm q.2.2.1,.Qm q.2.2.2]:=(Q0O q.1 y1 (by simp)).QR y2
  have d3:X4 3=.YQ (QB (.QP le)):=(Q0O _ (by have:=RW hn;kwd_less) (by simp)).QR h3
  have d2:X4 2=.YQ (QB (.QP ls)):=(Q0O _ (by have:=RU hn;kwd_less) (by simp)).QR h2
  have dle:X4 le=.Qs (Aa ((X5 (la+1)).map e)):=(Q0O _ (by kwd_less) (by simp)).QR hle
  have dls:X4 ls=.Qs (Aa ((X5 (lb+1)).map s)):=(Q0O _ (by kwd_less) (by simp)).QR hls
  have ge:∀i,i<=la->(Aa ((X5 (la+1)).map e))[i]?=QB (.Qm (e i:QH)):=by
   intros i hi
   unfold Aa;rw [QT,QT,Yd (by exact RT hi)];rfl
  have gs:∀i,i<=lb->(Aa ((X5 (lb+1)).map s))[i]?=QB (.Qm (s i:QH)):=by
   intros i hi
   unfold Aa;rw [QT,QT,Yd (by exact RT hi)];rfl
  have hmq:=hm q.2.1 q.2.2.2
  dsimp only
  repeat keq_hits
  refine Ao (by kas_types) QA (ge q.2.1 (by exact GQ z1)) (by exact RS hla z1) ?_
  repeat keq_hits
  refine Ao (by kas_types) QA (gs q.2.2.1 (by omega)) (by exact abR hlb z2) ?_
  repeat keq_hits
  refine Ao (k:=q.2.1+q.2.2.2) (by kas_types) (by exact ia2 (CR)) (ge (q.2.1+q.2.2.2) (by omega)) (by exact abQ hla z1) ?_
  repeat keq_hits
  refine Ao (by kas_types) QA (ge q.2.1 (by exact GQ z1)) (by exact RS hla z1) ?_
  repeat keq_hits
  have er:((e (q.2.1+q.2.2.2):QH):X3) - ((e q.2.1:QH):X3)=((e (q.2.1+q.2.2.2) - e q.2.1:QH):X3):=by exact ia5 (Vo hmq)
  rw [er]
  have hrl:rs.length<=5000:=by
   have:=Z4 QGJ r2
   rw [QK,Xn,QK]at this;omega
  refine pap (xs:=Q4k fun q=>YU q.1) ?_ ?_ ?_
  ·kas_types
  ·rw [QK,X8];exact abP hrl
  refine hR' _ _ ?_ ?_ (QY QA) ⟨rs++[(Xg,mvT e s q.2)],?_,?_,?_⟩
  ·repeat kwd_rel
  ·kwd_less
  ·rw [Qt];rfl
  ·intros q' hq'
   rcases Y3 hq' with hq' | hq'
   ·obtain ⟨w1,w2⟩:=r1 q' hq'
    have hne:q'.1≠QO:=fun e=>by rw [e,h2']at w2;cases w2
    exact ⟨by kwd_less,by kas_types⟩
   ·rw [Xi]at hq'
    subst hq'
    refine ⟨by kwd_less,?_⟩
    show Q2f _ Xg=Q3v [.Qm (e q.2.1:QH),.Qm (s q.2.2.1:QH),.Qm ((e (q.2.1+q.2.2.2) - e q.2.1:QH):X3)]
    have:=Cj h1';kas_types
  ·rw [Qt,r2,Zx,QT,hqt];rfl
 ·intros XF vs e1 g' h1' h2' h3'
  obtain ⟨rs,QA,r1,r2⟩:=h3'
  rw [QK]at r2
  have gn':=Q4u
  rw [<- QK (f:=fun q:QH×Ap=>mvT e s q.2),Q0r]at r2
  repeat keq_hits
  refine k _ QO rs ?_ ?_ ?_ (Qh _) ?_ ?_ ?_ r2
  ·repeat kwd_rel
  ·intros y hy
   rw [AT,QN hy,e1]
  ·exact DZ QA
  ·kwd_less
  ·exact h2'
  ·exact r1
def gC (A B:QC QH) (i:QH):QC QH:=if i=0 then A else B
theorem JR {α:Type} (tm:QH->QH) (gv:QH->α) (C:QC QH) (t:QH) (ht:t < QCu):Q0G tm gv (QB8 (t+1))=Q0G tm gv (QB8 t)++Q0x (tm C[t]) (gv C[t]):=by
 unfold Q0G
 rw [Zx,Qg ht,Q8g]
 simp
theorem MK {A B:QC QH} {tm:QH->QH} {gv:QH->QU} {la lb ld lt:QH} {R:Fl->QE->Prop} (h8:QS 8=.YQ (QB (.QP la))) (h7:QS 7=.YQ (QB (.QP lb))) (h5:QS 5=.YQ (QB (.QP ld))) (h4:QS 4=.YQ (QB (.QP lt)))
  (hla:QS la=.Qs (Aa A)) (hlb:QS lb=.Qs (Aa B)) (hld:QS ld=.Qs ((X5 7).map gv)) (hlt:QS lt=.Qs (Aa ((X5 7).map tm))) (lla:la < QO) (llb:lb < QO) (lld:ld < QO) (llt:lt < QO)
  (hn:9<=QO) (hA:∀k∈A,k < 7) (hB:∀k∈B,k < 7) (hAl:XN<=100) (hBl:Xm<=100) (ht:∀k,tm k<=3)
  (k:∀XF l l1 l2,YP [] σ XF->(∀y:X6,y≠"grown"->Y9 y=Xv y)->Y9 "grown"=QB (.QP l)->QO<=l->l < Xg->X4 l=.Qs [.QP l1,.QP l2]->l1 < Xg->l2 < Xg->X4 l1=.Qs (Q0G tm gv A)->X4 l2=.Qs (Q0G tm gv B)->R .YC XF) :
  ex1 (G P) (Ae (G P) 20) 24 ⟨(fdO (AO P)).Qv,[("stops",2),("ends",3),("times",4),("dress",5),("d",6),("second",7),("first",8)],(fdO (AO P)).Q0o,QB (296,1)⟩ (bb2 5) σ R:=by
 injections P σ A B tm gv la lb ld lt R _ _ _ _ _ _ _ _ _ _ _ _ _ _ _ _ _ _ _
 conv=>arg 5;whnf
 refine Dc QA [("times",4),("dress",5)] (by kernel_rfl) (by kernel_rfl) ?_
 repeat keq_hits
 refine NW (fun i vs hp nx=>∃ls:QC QH,vs=QAx YU/\QB9=i/\∀j l,ls[j]?=QB l->QO+1 < l/\l < nx/\hp l=.Qs (Q0G tm gv (gC A B j))) (Xx _) (QY QA) ⟨[],QA,QA,fun j l h=>by simp at h⟩ ?_ ?_
 ·intros i x XF vs hx g' h1' h2' h3' R' hR'
  obtain ⟨ls,QA,r1,r2⟩:=h3'
  have gn':=Q4u
  simp only [Ah,Ab,Ac]at h1' h2' gn'
  have d5:X4 5=.YQ (QB (.QP ld)):=(Q0O _ (by have:=R6 hn;kwd_less) (by simp)).QR (by have:=abO hn;kas_types)
  have d4:X4 4=.YQ (QB (.QP lt)):=(Q0O _ (by have:=Ib hn;kwd_less) (by simp)).QR (by have:=Kn hn;kas_types)
  have dld:X4 ld=.Qs ((X5 7).map gv):=(Q0O _ (by kwd_less) (by simp)).QR (by have:=Ag lld;kas_types)
  have dlt:X4 lt=.Qs (Aa ((X5 7).map tm)):=(Q0O _ (by kwd_less) (by simp)).QR (by have:=Ag llt;kas_types)
  have zO:∃lr C,x=.QP lr/\i < 2/\lr < QO/\X4 lr=.Qs (Aa C)/\(∀k∈C,k < 7)/\QCu<=100/\gC A B i=C:=by
   match i,hx with
   | 0,hx=>cases hx;exact ⟨la,A,QA,by exact Kv,lla,(Q0O _ (by kwd_less) (by simp)).QR (by have:=Ag lla;kas_types),hA,hAl,QA⟩
   | 1,hx=>cases hx;exact ⟨lb,B,QA,by exact Ku,llb,(Q0O _ (by kwd_less) (by simp)).QR (by have:=Ag llb;kas_types),hB,hBl,QA⟩
  obtain ⟨lr,C,QA,hi2,lr1,lr2,hC,hCl,hCg⟩:=zO
  dsimp only
  repeat keq_hits
  refine Dm [("times",4),("dress",5)] (by kernel_rfl) (by kernel_rfl) ?_
  repeat keq_hits
  refine K5 (Xq:=Aa C) (by kas_types) ?_
  refine Ax (fun t σ2=>YP [] XF σ2/\Xg < Zz/\Yy Xg=.Qs (Q0G tm gv (QB8 t))) (fun _=>Yk) (fun _ _=>Yk) ?_ ?_ ?_ ?_ (fun _ q=>Q2e) (fun _ _ q=>Q2e)
  ·refine ⟨?_,Xx _,QY QA⟩
   exact ⟨Q1B _,fun l' hl' _=>QN (Y5 hl')⟩
  ·intros t σ2 Q2T
   obtain ⟨g2,_⟩:=Q2T
   exact (Q3Z lr (by exact abM h1' lr1) (by simp)).QR lr2
  ·intros t x σ2 hx2 hI R2 hn2 u1 u2 u3
   obtain ⟨g2,hx2',hac⟩:=hI
   have zO:t < QCu/\x=.Qm ((C[t]?).Q4f 0:QH):=by
    unfold Aa at hx2
    rw [QT]at hx2
    cases e:C[t]? with
    | QG=>rw [e]at hx2;cases hx2
    | QB z=>rw [e]at hx2;exact ⟨(QX e).1,(X1 hx2).Q3w⟩
   obtain ⟨hn1,hxe⟩:=zO
   rw [Qg hn1]at hxe
   subst hxe
   have hC7:=hC _ (Q0E hn1)
   have htC:=ht C[t]
   have gn2:=Q8I
   have c4:Yy 4=.YQ (QB (.QP lt)):=(Q3Z _ (by have:=H9 hn h1';kwd_less) (by simp)).QR d4
   have c5:Yy 5=.YQ (QB (.QP ld)):=(Q3Z _ (by have:=RQ hn h1';kwd_less) (by simp)).QR d5
   have clt:Yy lt=.Qs (Aa ((X5 7).map tm)):=(Q3Z _ (by have:=Fd llt h1';kwd_less) (by simp)).QR dlt
   have cld:Yy ld=.Qs ((X5 7).map gv):=(Q3Z _ (by have:=Fd lld h1';kwd_less) (by simp)).QR dld
   dsimp only [Q4N]
   repeat keq_hits
   refine ⟨QA,?_⟩
   repeat keq_hits
   refine Ao (xs:=Aa ((X5 7).map tm)) (k:=C[t]) (v:=.Qm (tm C[t]:QH)) (by kas_types) QA (by unfold Aa;rw [QT,QT,Yd hC7];rfl) (by exact H8 hC7) ?_
   repeat keq_hits
   refine S7 (n:=tm C[t]) (QY QA) (by exact abL htC) ?_
   refine Ax (fun j σ3=>YP [] XF σ3/\Xg < Q0h/\Q4l Xg=.Qs (Q0G tm gv (QB8 t)++Q0x j (gv C[t]))/\Q1O "k"=QB (.Qm (C[t]:QH))/\j<=tm C[t]) (fun _=>Yk) (fun _ _=>Yk) ?_ (fun _ _ _=>ZN) ?_ ?_ (fun _ q=>Q2e) (fun _ _ q=>Q2e)
   ·refine ⟨?_,?_,?_,?_,XT _⟩
    ·repeat kwd_rel
    ·kwd_less
    ·rw [List.replicate_zero,Q3H];kas_types
    ·keq_rows
   ·intros j x σ3 hx3 hI R3 hn3 u4 u5 u6
    obtain ⟨g3,QCv,hac3,hk3,hj3⟩:=hI
    obtain ⟨hj,QA⟩:=ID hx3
    have gn3:=Q95
    have c5':Q4l 5=.YQ (QB (.QP ld)):=(Q3u _ (by have:=RQ hn h1';kwd_less) (by simp)).QR d5
    have cld':Q4l ld=.Qs ((X5 7).map gv):=(Q3u _ (by have:=Fd lld h1';kwd_less) (by simp)).QR dld
    dsimp only
    repeat keq_hits
    refine Ao (xs:=(X5 7).map gv) (k:=C[t]) (v:=gv C[t]) (by kas_types) QA (by rw [QT,Yd hC7];rfl) (by exact H8 hC7) ?_
    refine pap (xs:=Q0G tm gv (QB8 t)++Q0x j (gv C[t])) ?_ ?_ ?_
    ·simp only [Ah,Ab,Ac];kas_types
    ·have:=Dj (tm:=tm) gv (QB8 t)
     have h2:=JY ht (QB8 t)
     rw [Xw,Q08,this,X8]
     rw [Xn]at h2 ⊢
     omega
    refine hn3 _ ⟨?_,?_,?_,?_,by exact abK hj⟩
    ·repeat kwd_rel
    ·kwd_less
    ·refine (QY QA).QR ?_
     rw [Q0S,List.replicate_succ']
    ·keq_rows
   ·intros σ3 hI
    obtain ⟨g3,QCv,hac3,hk3,hj3⟩:=hI
    rw [QK,Y8,<- JR tm gv C t hn1]at hac3
    exact hn2 _ ⟨g3,QCv,hac3⟩
  ·intros σ2 hI
   obtain ⟨g2,hx2',hac⟩:=hI
   have hCi:(Aa C).ZT=QCu:=by unfold Aa;rw [QK]
   rw [hCi,Q0r]at hac
   have gn2:=Q8I
   refine pap (xs:=QAx YU) ?_ ?_ ?_
   ·simp only [Ah,Ab,Ac]
    exact (Q3Z _ (by kwd_less) (by simp)).QR h2'
   ·rw [QK,X8];exact abJ r1 hi2
   refine hR' _ (QAx YU++[.QP Xg]) ?_ ?_ ?_ ⟨ls++[Xg],?_,?_,?_⟩
   ·have:YP [] (Qw (Q3v [YU la,YU lb])) σ2:=g'.trans g2
    have:YP [] (Qw (Q3v [YU la,YU lb])) {σ2 with loc:=(σ'.set "rows" (YU lr)).loc}:=⟨this.nx,this.hp⟩
    repeat kwd_rel
   ·show QO+1 < Zz;exact abI h1' hx2'
   ·exact Cu QA QA
   ·rw [Qt];rfl
   ·rw [Xw,r1];rfl
   ·intros j l hj
    show QO+1 < l/\l < Zz/\(if l=QO+1 then _ else Yy l)=_
    by_cases hjl:j < QB9
    ·rw [Q5d hjl]at hj
     obtain ⟨q0,q1,q2⟩:=(r2 j l hj)
     rw [QN (by exact RO q0)]
     exact ⟨q0,by exact Dr hx2' q1,(Q3Z l q1 (by simp)).QR q2⟩
    ·rw [Q5W (by exact L6 hjl)]at hj
     have:j - QB9=0:=by
      by_cases q:j - QB9=0
      ·exact q
      ·rw [Q2K (by simp;exact abH q)]at hj;cases hj
     rw [this]at hj
     cases hj
     rw [QN (by exact RO h1')]
     have hji:j=i:=by exact abG r1 hjl this
     rw [hji,hCg]
     exact ⟨by omega,by omega,hac⟩
 ·intros XF vs e1 g' h1' h2' h3'
  obtain ⟨ls,QA,r1,r2⟩:=h3'
  have gn':=Q4u
  simp only [Ah,Ab,Ac]at h1' h2' gn'
  obtain ⟨l1,l2,QA⟩:=Nw r1
  ·repeat keq_hits
   have q1:=r2 0 l1 QA
   have q2:=r2 1 l2 QA
   refine k _ (QO+1) l1 l2 ?_ ?_ ?_ ?_ ?_ ?_ ?_ ?_ ?_ ?_
   ·have:YP [] σ XF:=by
     refine Q2d ?_ g'
     repeat kwd_rel
    repeat kwd_rel
   ·intros y hy
    rw [AT,QN hy,e1];rfl
   ·exact DZ QA
   ·exact EA
   ·kwd_less
   ·exact h2'
   ·exact q1.2.1
   ·exact q2.2.1
   ·exact q1.2.2
   ·exact q2.2.2
end
end
mutual
theorem JL {la lb:QH}:∀ {L:QC Ap} {c:Ap},(c.1+c.2.2<=la/\c.2.1+c.2.2<=lb)->(∀t∈L,t.1+t.2.2<=la/\t.2.1+t.2.2<=lb)->∀t∈mrg c L,t.1+t.2.2<=la/\t.2.1+t.2.2<=lb
 | [],c,hc,_,t,ht=>by
  unfold mrg at ht
  split at ht
  ·cases ht
  ·rw [Xi]at ht;subst ht;exact hc
 | u::r,c,hc,h,t,ht=>by
  have hu:=h u (.Zc _)
  have hr:=fun x hx=>h x (.Q31 _ hx)
  unfold mrg at ht
  split at ht
  ·rename_i q
   exact JL (c:=(c.1,c.2.1,c.2.2+u.2.2)) (by dsimp only;exact ⟨RN hu.1 q.1,RN hu.2 q.2⟩) hr t ht
  ·rcases Y3 ht with ht | ht
   ·split at ht
    ·cases ht
    ·rw [Xi]at ht;subst ht;exact hc
   ·exact JL hu hr t ht
theorem NJ {M:QH->QH->Qu} {U:QH->Qu} {la lb:QH} {R:QC Ap} (h:Gmb M U la lb R):∀t∈R,t.1+t.2.2<=la/\t.2.1+t.2.2<=lb:=by
 obtain (⟨L,hB,QA⟩):=h
 have Q9V:=QB4 (XT _) (XT _)
 intro t ht
 rcases Y3 ht with ht | ht
 ·refine JL (by dsimp only;exact ⟨RM,RM⟩) (fun t ht=>?_) t ht
  have:=Q9V.1 t ht;dsimp only at this;exact ⟨DK this.2.1,DK this.2.2.2.1⟩
 ·rw [Xi]at ht;subst ht;dsimp only;exact ⟨RL,RL⟩
def kI (k:QH):Yb:=.i k
def jI:Yb->Qu:=fun k=>match k with | .i n=>XV (2 < n) | _=>QJ
def jS:Yb->Qu:=fun k=>match k with | .s x=>rxJ Q8s | _=>QJ
def jN (k:QH):Qu:=XV (2 < k)
theorem Oo (A B:QC Yb):MM A B=Mq A B:=by
 funext i j
 unfold MM Mq
 cases A[i]? <;> cases B[j]? <;> rfl
theorem On (B:QC Yb) (J:Yb->Qu):UU B J=Uq B J:=by
 funext j
 unfold UU Uq
 cases B[j]? <;> rfl
theorem IB {w v n m:QH} (hm:m < 3) (k:QH):(DS w v n m k).ZT<=5:=by
 injections w v n m _ k
 unfold DS rep
 split <;> simp <;> omega
theorem MR (A B:QC QH):MM (Q93 kI) (Q94 kI)=Mq A B:=by
 rw [Oo]
 funext i j
 exact H2 kI A B i j fun x _ y _ e=>by unfold kI at e;injection e with e;exact (Q0p e)
theorem MQ (B:QC QH):UU (Q94 kI) jI=Uq B jN:=by
 rw [On]
 funext j
 unfold Uq
 rw [QT]
 cases B[j]? with
 | QG=>rfl
 | QB k =>
  show XV ((2:X3) < (k:X3))=XV (2 < k)
  exact Q1N (by omega)
theorem I0 (A:QC QH):Aa A=(Q93 kI).map Q10:=by unfold Aa;rw [YT];rfl
theorem Hh {α β:Type} (tm:QH->QH) (f:QH->α) (g:α->β) (A:QC QH):(Q0G tm f A).map g=Q0G tm (fun k=>g (f k)) A:=by
 unfold Q0G
 rw [List.map_flatMap]
 congr 1
 funext k
 rw [Q9W]
theorem El {α:Type} {tm:QH->QH} {f:QH->α} {A:QC QH} {x:α} (h:x∈Q0G tm f A):∃k∈A,x=f k:=by
 unfold Q0G at h
 refine ew1 (List.mem_flatMap.mp h) fun k yq7v=>?_;refine an2 yq7v fun hk hx=>?_;clear yq7v
 exact ⟨k,hk,(List.mem_replicate.mp hx).2⟩
end
section
variable {σ:Mini.St}
mutual
def Fj (t:Ap):Dat:=.YJ [.Qm t.1,.Qm t.2.1,.Qm t.2.2]
theorem QBA {hp:QH->Ob}:∀(qs:QC (QH×Ap)),(∀q∈qs,hp q.1=.YJ (AF q.2))->DVs hp (YI fun q=>.QP q.1) (YI fun q=>Fj q.2)
 | [],_=>.Zl
 | q::r,h=>.Xu (.YJ (h q (.Zc _)) (.Xu (.Qm _) (.Xu (.Qm _) (.Xu (.Qm _) .Zl)))) (QBA r fun x hx=>h x (.Q31 _ hx))
theorem IM (qs:QC (QH×Ap)):∀d∈YI fun q=>Fj q.2,kqdOk 8 d=QM:=by
 intro d hd
 refine ew1 (Yx hd) fun q yq7w=>?_;refine an2 yq7w fun _ yq7x=>?_;obtain QA:=yq7x;clear yq7w
 rfl
theorem J8 {l k:QH} {qs rs:QC (QH×Ap)} {P:QU->QE->Prop} (h1:QS l=.Qs (YI fun q=>.QP q.1)) (h2:QS k=.Qs (Q4k fun q=>.QP q.1)) (hq:∀q∈qs,QS q.1=.YJ (AF q.2)) (hr:∀q∈rs,QS q.1=.YJ (AF q.2))
  (e:YI (·.2)=Q4k (·.2)) (p:P (.Yn QJ) σ):BK .QGt (.QP l) (.QP k) σ P:=by
 refine Q3z h1 ?_;refine Q3z h2 ?_
 refine ⟨YI fun q=>Fj q.2,Q4k fun q=>Fj q.2,QBA qs hq,QBA rs hr,IM qs,IM rs,?_⟩
 have e2:(YI fun q=>Fj q.2)=Q4k fun q=>Fj q.2:=by
  have:=Z4 (Q5O Fj) e
  rwa [YT,YT]at this
 simp only [e2,decide_true,Q4Q];exact p
end
end
section
variable {P:Params} {d:Nat} {σ:Mini.St}
mutual
theorem OJ {A B:QC QH} {tm:QH->QH} {w v n m l l1 l2 lm:QH} {rs:QC (QH×Ap)} {R:Fl->QE->Prop} (hg:Xv "grown"=QB (.QP l)) (hl:QS l=.Qs [.QP l1,.QP l2]) (h1:QS l1=.Qs (Q0G tm (fun k=>QAK (BW w v n m k)) A)) (h2:QS l2=.Qs (Q0G tm (fun k=>QAK (BW w v n m k)) B))
  (k1:l < QO) (k2:l1 < QO) (k3:l2 < QO) (hm:Xv "moved"=QB (.QP lm)) (hlm:QS lm=.Qs (Q4k fun q=>.QP q.1)) (km:lm < QO) (hrs:∀q∈rs,q.1 < QO/\QS q.1=.YJ (AF q.2))
  (hm3:m < 3) (hA:XN<=100) (hB:Xm<=100) (ht:∀k,tm k<=3)
  (hG:∀R',Gmb (Mq (Q0G tm (fun k=>Q8F (BW w v n m k)) A) (Q0G tm (fun k=>Q8F (BW w v n m k)) B)) (Uq (Q0G tm (fun k=>Q8F (BW w v n m k)) B) jS) (eOf tm A XN) (eOf tm B Xm) R'->R'=Q4k (·.2))
  (hL:∀L,Blk (Mq (Q0G tm (fun k=>Q8F (BW w v n m k)) A) (Q0G tm (fun k=>Q8F (BW w v n m k)) B)) (Uq (Q0G tm (fun k=>Q8F (BW w v n m k)) B) jS) ⟨0,eOf tm A XN,0,eOf tm B Xm⟩ L->Q6b < 64)
  (k:∀XF,YP [] σ XF->Y9=Xv->R .YC XF):ex1 (G P) (Ae (G P) 20) 23 ⟨(fdO (AO P)).Qv,[("stops",2),("ends",3),("times",4),("dress",5),("d",6),("second",7),("first",8)],(fdO (AO P)).Q0o,QB (296,1)⟩ (bb2 6) σ R:=by
 injections P σ A B tm w v n m l l1 l2 lm rs R _ _ _ _ _ _ _ _ _ _ _ _ _ _ _ _ _ _
 conv=>arg 5;whnf
 have lenA:=Dj (tm:=tm) (fun k=>Q8F (BW w v n m k)) A
 have lenB:=Dj (tm:=tm) (fun k=>Q8F (BW w v n m k)) B
 have leA:=JY ht A
 have leB:=JY ht B
 repeat keq_hits
 refine Ao (k:=0) (v:=.QP l1) (by kas_types) QA QA (by decide) ?_
 repeat keq_hits
 refine Ao (k:=1) (v:=.QP l2) (by kas_types) QA QA (by decide) ?_
 repeat keq_hits
 refine EO (d:=15) (A:=Q0G tm (fun k=>Q8F (BW w v n m k)) A) (B:=Q0G tm (fun k=>Q8F (BW w v n m k)) B) (J:=jS) (ok:=fun k=>match k with | .s x=>Q1U < 1000000 | _=>Yk) (S:=[]) ?_ ?_ k2 k3 ?_ ?_ ?_ ?_ ?_ ?_ ?_
 ·rw [h1,Hh];rfl
 ·rw [h2,Hh];rfl
 ·rw [lenA];exact RK hA leA
 ·intros L hL'
  rw [lenA,lenB]at hL'
  rw [Oo,On]at hL'
  exact hL L hL'
 ·rw [lenB];exact RK hB leB
 ·exact T5
 ·intros x hx
  obtain ⟨k',_,QA⟩:=(El hx)
  have:(BW w v n m k').QGL<=5:=by
   show (DS w v n m k').QAE<=5
   rw [XS]
   exact IB hm3 k'
  show (BW w v n m k').QGL < 1000000
  exact RJ this
 ·intros x hx y hy
  obtain ⟨k',_,QA⟩:=(El hx)
  obtain ⟨k'',_,QA⟩:=(El hy)
  rfl
 ·intros XF l' qs g q1 q2 q3 q4 q5
  rw [lenA,lenB,Oo,On]at q5
  have eq:=hG _ q5
  have gn:=Q7U
  have hm':Y9 "moved"=QB (.QP lm):=by rw [QAH];exact hm
  repeat keq_hits
  refine J8 (qs:=qs) (rs:=rs) q3 ((Q1Y lm km).QR hlm) (fun q hq=>(q4 q hq).2) (fun q hq=>(Q1Y _ (hrs q hq).1).QR (hrs q hq).2) eq ?_
  repeat keq_hits
  exact k XF ⟨Q7U,fun l hl _=>Q1Y l hl⟩ QAH
theorem Pq (P:Ql):(K P).QEi 298=QB (Nh P):=by kernel_rfl
theorem T9 (P:Ql):QDL (K P) 298 296:=⟨Nh P,Pq P,fun _ e=>⟨_,_,_,_,_,_,_,_,_,e,QA,QA,QA,QA,QA,QA,QA,QA,by decide⟩⟩
theorem HD {XH:Pos} {es:QC (QH×QH×QH)} {e:QH×QH×QH} {lc:QH} (h:AG XH es=QG) (h2:AG XH (es++[e])=QB lc):lc=e.2.2:=by
 injections XH es e lc _ _
 induction es with
 | Zl =>
  have h2:(if ((e.1:X3) == Q0w&&(e.2.1:X3) == Q51)=QM then QB e.2.2 else QG)=QB lc:=h2
  split at h2
  ·exact (X1 h2).Q3w
  ·cases h2
 | Xu x r ih =>
  injections x r ih zI
  have h:(if ((x.1:X3) == Q0w&&(x.2.1:X3) == Q51)=QM then QB x.2.2 else AG XH r)=QG:=h
  have h2:(if ((x.1:X3) == Q0w&&(x.2.1:X3) == Q51)=QM then QB x.2.2 else AG XH (r++[e]))=QB lc:=h2
  split at h
  ·cases h
  ·rename_i hx
   rw [QN hx]at h2
   exact ih h h2
def FP:Pos:=Mini.xSA (bb1 0) (fun e=>Mini.xCall e (fun _ as _ _=>Mini.onCons as (fun x _=>Mini.xEL x (fun p=>p) Zs) Zs) Zs) Zs
def Ea (σ:QE):Prop:=∃es,QS 1=.tab es/\∀lc,AG FP es=QB lc->lc < QO/\∃q oc,QS lc=.raw oc/\C9 q oc
theorem Ea.grow {σ XF:QE} {X:QC QH} (h:Ea σ) (g:YP X σ XF) (hn:1 < QO) (h1:1∉X) (hX:∀l∈X,∀o,QS l≠.raw o):Ea XF:=by
 injections σ XF X _ _ _ _ _
 obtain ⟨es,h2,h3⟩:=h
 refine ⟨es,(Q1Y 1 hn h1).QR h2,?_⟩;intros lc hlc
 obtain ⟨h4,q,oc,h5,h6⟩:=(h3 lc hlc)
 exact ⟨QQ h4 Q7U,q,oc,(Q1Y lc h4 fun hm=>hX lc hm oc h5).QR h5,h6⟩
theorem Ue {G:Pg} {YR:Av} {n:QH} {fm:Fm} {p:Pos} {Xb:Q53} {YZ:Qf} {Qv:Q0J} {P:QU->QE->Prop} {c0 Pt:Qq} {l:QH} {es:QC (QH×QH×QH)} (h1:QDC=[]/\QAo=[]/\(Q4i fun x=>x.2 != .QFr)=QM)
  (hcd:Q2M=.QP c0) (htb:Q2N=QB (Pt,l)) (hhd:QDL G.K c0 Pt) (ht:QS l=.tab es) (hs:∀lc,AG p es=QB lc->∀Q9Q pm ctv,P (.QP QO) (Qw (.lam (Dz Xb YZ Qv Q9Q pm ctv) lc)))
  (hn:AG p es=QG->∀oc q Q9Q pm ctv,C9 q oc->P (.QP (QO+1)) (((Yt l (.tab (es++[(p.line,p.col,QO)]))).Q8y (.raw oc)).Q8y (.lam (Dz Xb YZ Qv Q9Q pm ctv) QO))):ev G YR (n+1) fm (.Lambda Xb YZ Qv p) σ P:=by
 refine af4 ⟨h1,c0,Pt,l,es,hcd,htb,hhd,ht,?_⟩
 cases e:AG p es with
 | QB lc=>exact hs lc e
 | QG=>exact hn e
theorem I9 {A B:QC QH} {la lb L1:QH} {S:QC QH} {Q:QU->QE->Prop} (hla:QS la=.Qs (Aa A)) (hlb:QS lb=.Qs (Aa B)) (lla:la < QO) (llb:lb < QO) (hA:XN<=61) (hB:Xm<=61) (jf:JF P 15 (.QP L1) jI (fun k=>∃n,k=.i n) S σ)
  (h:∀XF l (qs:QC (QH×Ap)),Gro σ XF->QO<=l->l < Xg->X4 l=.Qs (YI fun q=>.QP q.1)->(∀q∈qs,q.1 < Xg/\X4 q.1=.YJ (AF q.2))->Gmb (Mq A B) (Uq B jN) XN Xm (YI (·.2))->Q (.QP l) XF) :
  Ae (G P) 20 (.imm (.QP 289)) [.QP L1,.QP la,.QP lb] σ Q:=by
 refine EO (d:=15) (A:=Q93 kI) (B:=Q94 kI) (J:=jI) (ok:=fun k=>∃n,k=.i n) (S:=S) (by rw [hla,I0]) (by rw [hlb,I0]) lla llb (by rw [QK];exact Kl hA) ?_ (by rw [QK];exact Kl hB) jf ?_ ?_ ?_
 ·intro L hL
  have Q9V:=hL.inside (XT _) (XT _)
  have:=CJ (L:=L) (a:=0) (n:=(Q93 kI).ZT) (fun t ht=>by have:=Q9V.1 t ht;dsimp only at this;exact ⟨zq8,DK this.2.1,Lf this.2.2.2.2⟩) (Q9V.2.imp fun r=>r.1)
  rw [QK]at this
  exact abF hA this
 ·intro x hx
  refine ew1 (Yx hx) fun k yq7G=>?_;refine an2 yq7G fun _ yq7H=>?_;obtain QA:=yq7H;clear yq7G
  exact ⟨_,QA⟩
 ·intro x hx y hy
  refine ew1 (Yx hx) fun k yq7I=>?_;refine an2 yq7I fun _ yq7J=>?_;obtain QA:=yq7J;clear yq7I
  refine ew1 (Yx hy) fun k yq7K=>?_;refine an2 yq7K fun _ yq7L=>?_;obtain QA:=yq7L;clear yq7K
  rfl
 ·intro XF l qs g q1 q2 q3 q4 q5
  rw [MR,MQ,QK,QK]at q5
  exact h XF l qs g q1 q2 q3 q4 q5
theorem Tt {A B:QC QH} {la lb:QH} {R:Fl->QE->Prop} (h8:QS 8=.YQ (QB (.QP la))) (h7:QS 7=.YQ (QB (.QP lb))) (hla:QS la=.Qs (Aa A)) (hlb:QS lb=.Qs (Aa B)) (lla:la < QO) (llb:lb < QO)
  (hn:9<=QO) (hA:XN<=61) (hB:Xm<=61) (ht:Ea σ)
  (k:∀XF l (qs:QC (QH×Ap)),YP [1] σ XF->(∀y:X6,y≠"due"->Y9 y=Xv y)->Y9 "due"=QB (.QP l)->QO<=l->l < Xg->X4 l=.Qs (YI fun q=>.QP q.1)->(∀q∈qs,q.1 < Xg/\X4 q.1=.YJ (AF q.2)) ->
   Gmb (Mq A B) (Uq B jN) XN Xm (YI (·.2))->Ea XF->R .YC XF) :
  ex1 (G P) (Ae (G P) 20) 33 ⟨(fdO (AO P)).Qv,[("stops",2),("ends",3),("times",4),("dress",5),("d",6),("second",7),("first",8)],(fdO (AO P)).Q0o,QB (296,1)⟩ (bb1 0) σ R:=by
 injections P σ A B la lb R _ _ _ _ _ _ _ _ _ _ _
 conv=>arg 5;whnf
 obtain ⟨es,t1,t2⟩:=ht
 have la1:la≠1:=fun e=>by rw [e,t1]at hla;cases hla
 have lb1:lb≠1:=fun e=>by rw [e,t1]at hlb;cases hlb
 repeat keq_hits
 refine Ue (c0:=298) (Pt:=296) (l:=1) (es:=es) ⟨QA,QA,by kernel_rfl⟩ QA QA (T9 P) t1 ?_ ?_
 ·intros lc e Q9Q pm ctv
  have e:AG FP es=QB lc:=e
  obtain ⟨t3,q0,oc,t4,t5⟩:=(t2 lc e)
  have hne:lc≠QO:=by exact Ag t3
  have:=R0 hn;have:=RV hn;repeat keq_hits
  refine I9 (A:=A) (B:=B) (S:=[QO,lc]) (by have:=Ag lla;kas_types) (by have:=Ag llb;kas_types) (by kwd_less) (by kwd_less) hA hB ?_ ?_
  ·exact ND (d:=14) (QY QA) (oc:=oc) (q0:=q0) (by kas_types) t5 (by kwd_less) (by kwd_less) ⟨QA,QA,QA⟩ (by kernel_rfl) (by kernel_rfl) (by kernel_rfl) (fun cdv as has=>by
    obtain (⟨x,QA⟩):=IV has
    rfl)
  intros XF l qs g q1 q2 q3 q4 q5
  have gn:=Q7U
  rw [Ab]at gn q1
  repeat keq_hits
  have gh:YP [1] σ XF:=⟨by exact GL gn,fun l hl hx=>(Q1Y l (by rw [Ab];exact Le hl)).QR (QN (by exact Ag hl))⟩
  refine k _ l qs ?_ ?_ ?_ (by exact GL q1) ?_ ?_ ?_ q5 ?_
  ·repeat kwd_rel
  ·intros y hy
   rw [AT,QN hy,QAH];rfl
  ·exact DZ QA
  ·kwd_less
  ·exact q3
  ·exact q4
  ·refine ⟨es,(Q1Y 1 (by rw [Ab];exact abE hn)).QR ((QN (by exact abD hn)).QR t1),?_⟩;intros lc' e'
   rw [e]at e'
   cases e'
   exact ⟨by show lc < Xg;exact RI t3 q1 q2,q0,oc,(Q1Y lc (by rw [Ab];exact Le t3)).QR ((QN hne).QR t4),t5⟩
 ·intros e oc q0 Q9Q pm ctv hoc
  have e:AG FP es=QG:=e
  have:=Ia hn;have:=H7 hn;repeat keq_hits
  refine I9 (A:=A) (B:=B) (S:=[QO+1,QO]) (by kas_types) (by kas_types) (by kwd_less) (by kwd_less) hA hB ?_ ?_
  ·exact ND (d:=14) (QY QA) (oc:=oc) (q0:=q0) (by kas_types) hoc (by kwd_less) (by kwd_less) ⟨QA,QA,QA⟩ (by kernel_rfl) (by kernel_rfl) (by kernel_rfl) (fun cdv as has=>by
    obtain (⟨x,QA⟩):=IV has
    rfl)
  intros XF l qs g q1 q2 q3 q4 q5
  have gn:=Q7U
  simp only [Ab,Ac]at gn q1
  repeat keq_hits
  have gh:YP [1] σ XF:=⟨by exact RH gn,fun l hl hx=>(Q1Y l (by simp only [Ab,Ac];exact abC hl)).QR ((QN (by simp only [Ab,Ac];exact Fe hl)).QR ((QN (by simp only [Ab,Ac];exact Ag hl)).QR (QN (by simpa using hx))))⟩
  refine k _ l qs ?_ ?_ ?_ (by exact RH q1) ?_ ?_ ?_ q5 ?_
  ·repeat kwd_rel
  ·intros y hy
   rw [AT,QN hy,QAH];rfl
  ·exact DZ QA
  ·kwd_less
  ·exact q3
  ·exact q4
  ·refine ⟨es++[(FP.line,FP.col,QO)],(Q1Y 1 (by simp only [Ab,Ac];exact abB hn)).QR ?_,fun lc' e'=>?_⟩
   rotate_left
   ·have:=HD e e'
    subst this
    refine ⟨by show QO < Xg;exact abA gn,q0,oc,(Q1Y _ (by simp only [Ab,Ac];exact Md)).QR ?_,hoc⟩
    kas_types
   ·exact FQ (by have:=L7 hn;kwd_less) (FQ (by have:=L7 hn;kwd_less) (Cu QA QA))
theorem MO {A B:QC QH} {la lb ld:QH} {qs:QC (QH×Ap)} {R:Fl->QE->Prop} (h8:QS 8=.YQ (QB (.QP la))) (h7:QS 7=.YQ (QB (.QP lb))) (hla:QS la=.Qs (Aa A)) (hlb:QS lb=.Qs (Aa B)) (lla:la < QO) (llb:lb < QO)
  (hn:9<=QO) (hA:XN<=61) (hB:Xm<=61) (hd:Xv "due"=QB (.QP ld)) (hld:QS ld=.Qs (YI fun q=>.QP q.1)) (lld:ld < QO) (hq:∀q∈qs,q.1 < QO/\QS q.1=.YJ (AF q.2)) (hG:Gmb (Mq A B) (Uq B jN) XN Xm (YI (·.2)))
  (k:∀XF,YP [] σ XF->Y9=Xv->R .YC XF):ex1 (G P) (Ae (G P) 20) 32 ⟨(fdO (AO P)).Qv,[("stops",2),("ends",3),("times",4),("dress",5),("d",6),("second",7),("first",8)],(fdO (AO P)).Q0o,QB (296,1)⟩ (bb1 1) σ R:=by
 conv=>arg 5;whnf
 repeat keq_hits
 refine HX (d:=19) (qs:=qs) (a:=A) (b:=B) hld hq hla hlb lld lla llb (by exact Kl hA) (by exact Kl hB) (fun q hq'=>?_) hG.gaps fun XF g=>?_
 ·have:=NJ hG q.2 (Q0D ⟨q,hq',QA⟩);exact ⟨GQ this.1,GQ this.2⟩
 repeat keq_hits
 rw [show (!QM)=QJ from QA]
 repeat keq_hits
 exact k XF ⟨Q7U,fun l hl _=>Q1Y l hl⟩ QAH
end
end
mutual
def gk (w v n m:QH) (k:QH):Yb:=.s (BW w v n m k)
theorem NI {A B:QC QH} {d0:X3} {w v n m:QH} (hA:∀k∈A,k < 7) (hB:∀k∈B,k < 7) (hw:Qr w=QM) (hv:Qr v=QM) (hn:Qr n=QJ) (hn5:n≠35) (hm:m < 3) :
  Grow (Mq A B) (Mq (Q0G (tmD d0) (gk w v n m) A) (Q0G (tmD d0) (gk w v n m) B)) (Uq B jN) (Uq (Q0G (tmD d0) (gk w v n m) B) jS) (eOf (tmD d0) A) (eOf (tmD d0) B):=by
 have:=Pf (tm:=tmD d0) (f:=fun k:QH=>k) (g:=gk w v n m) (J:=jN) (J':=jS) (a:=A) (b:=B) (Mv d0) (Mu d0) (fun x _ y _ e=>e) (fun x hx y hy e=>?_) (fun y _=>QA) (fun y hy=>?_)
 ·rwa [QF7,QF7]at this
 ·unfold gk BW at e
  injection e with e
  injection e with e
  exact O0 hw hv hn hn5 hm x y (hA x hx) (hB y hy) (by simpa using e)
 ·exact IC hw hv hn hn5 hm y (hB y hy)
end
section
variable {P:Params} {d:Nat} {σ:Mini.St}
mutual
def ES (σ:QE) (cs:QC QH):Prop:=∀c∈cs,∃u,QS c=.YQ u
theorem MJ {A B:QC QH} {la lb ldr ldu:QH} {ds:QC X3} {qs:QC (QH×Ap)} {R:Fl->QE->Prop} (h8:QS 8=.YQ (QB (.QP la))) (h7:QS 7=.YQ (QB (.QP lb))) (hla:QS la=.Qs (Aa A)) (hlb:QS lb=.Qs (Aa B)) (lla:la < QO) (llb:lb < QO)
  (hn:9<=QO) (hA:XN<=61) (hB:Xm<=61) (hA7:∀k∈A,k < 7) (hB7:∀k∈B,k < 7) (hc:ES σ [2,3,4,5,6]) (hdr:Xv "dresses"=QB (.QP ldr)) (hdl:QS ldr=.Qs (QF8 .Qm)) (ldl:ldr < QO)
  (hd:Xv "due"=QB (.QP ldu)) (hdu:QS ldu=.Qs (YI fun q=>.QP q.1)) (ldu':ldu < QO) (hq:∀q∈qs,q.1 < QO/\QS q.1=.YJ (AF q.2)) (hG:Gmb (Mq A B) (Uq B jN) XN Xm (YI (·.2)))
  (k:∀XF,YP [2,3,4,5,6] σ XF->ES XF [2,3,4,5,6]->(∀y:X6,y≠"moved"->y≠"grown"->Y9 y=Xv y)->R .YC XF):ex1 (G P) (Ae (G P) 20) 31 ⟨(fdO (AO P)).Qv,[("stops",2),("ends",3),("times",4),("dress",5),("d",6),("second",7),("first",8)],(fdO (AO P)).Q0o,QB (296,1)⟩ (bb1 2) σ R:=by
 injections P σ A B la lb ldr ldu ds qs R _ _ _ _ _ _ _ _ _ _ _ _ _ _ _ _ _ _ _ _ _
 conv=>arg 5;whnf
 have nol:∀ {l:QH} {xs:QC QU},QS l=.Qs xs->l∉[2,3,4,5,6]:=fun h hm=>by
  obtain (⟨u,hu⟩):=hc _ hm;rw [hu]at h;cases h
 have not':∀ {l:QH} {xs:QC QU},QS l=.YJ xs->l∉[2,3,4,5,6]:=fun h hm=>by
  obtain (⟨u,hu⟩):=hc _ hm;rw [hu]at h;cases h
 have Q2U:Q4K<=63:=by have:=KZ hG;rw [QK]at this;exact abz hA this
 repeat keq_hits
 refine Ax (fun t σ2=>YP [2,3,4,5,6] σ σ2/\ES σ2 [2,3,4,5,6]/\(∀y:X6,y≠"moved"->y≠"grown"->Q3t y=Xv y)) (fun _=>Yk) (fun _ _=>Yk) ⟨.Q1H,hc,fun _ _ _=>QA⟩ (fun t σ2 hI=>(hI.1.hp ldr ldl (nol hdl)).QR hdl) ?_ ?_ (fun _ q=>Q2e) (fun _ _ q=>Q2e)
 ·intros t x σ2 hx hI R2 hn2 u1 u2 u3
  obtain ⟨g,hc2,hl2⟩:=hI
  have gn:=Q7U
  have zO:∃d0,x=.Qm d0:=by
   obtain ⟨z,_,hz⟩:=Yx (XE hx)
   exact ⟨z,hz.symm⟩
  obtain ⟨d0,QA⟩:=zO
  obtain ⟨u2,e2⟩:=hc2 2 (by simp)
  obtain ⟨u3,e3⟩:=hc2 3 (by simp)
  obtain ⟨u4,e4⟩:=hc2 4 (by simp)
  obtain ⟨u5,e5⟩:=hc2 5 (by simp)
  obtain ⟨u6,e6⟩:=hc2 6 (by simp)
  have b8:Yy 8=.YQ (QB (.QP la)):=(Q1Y 8 (by exact Ia hn) (by simp)).QR h8
  have b7:Yy 7=.YQ (QB (.QP lb)):=(Q1Y 7 (by exact H7 hn) (by simp)).QR h7
  try dsimp only
  refine Kd (l:=6) (by kln_le) e6 (by kernel_rfl) ?_
  generalize hs0:σ2.upd 6 (.YQ (QB (.Qm d0)))=s0
  have G0:YP [2,3,4,5,6] σ s0:=by rw [<- hs0];exact g.upd (.inl (by simp))
  have z6:s0.hp 6=.YQ (QB (.Qm d0)):=by rw [<- hs0];exact Cu QA QA
  have zn:∀c,c≠6->s0.hp c=Yy c:=fun c hc=>by rw [<- hs0];exact QN hc
  have n0:=G0.nx
  have y0:s0.loc=Q3t:=by rw [<- hs0];rfl
  refine Ar (MN z6 ((zn 5 (by exact U5)).QR e5) (by exact aby hn n0) ?_);intros s1 ld w v n m k1 g1 c5 m1 m1' hw hv hnn hn5 hm3 hld;refine AB ?_
  have n1:=g1.nx
  have G1:YP [2,3,4,5,6] σ s1:=G0.trans (g1.mono (by simp))
  refine Ar (MF (d0:=d0) ((QGM 6 (by exact RG hn n0) (by simp)).QR z6) ((QGM 4 (by exact abx hn n0) (by simp)).QR ((zn 4 (by exact Vn)).QR e4)) (by exact abw hn n0 m1 m1') ?_);intros s2 lt k2 g2 c4 m2 m2' hlt;refine AB ?_
  have n2:=Q8I
  have G2:YP [2,3,4,5,6] σ s2:=G1.trans (g2.mono (by simp))
  have d8:s2.hp 8=.YQ (QB (.QP la)):=(G2.hp 8 (by exact Ia hn) (by simp)).QR h8
  refine Ar (OK (A:=A) (tm:=tmD d0) d8 ((G2.hp la lla (nol hla)).QR hla) (by exact abv lla n0 m1 m1' m2 m2') c4 hlt m2' ((Q3Z 3 (by exact abu hn n0 n1) (by simp)).QR ((QGM 3 (by exact abt hn n0) (by simp)).QR ((zn 3 (by exact abr)).QR e3))) (by exact abq hn n0 m1 m1' m2 m2') hA7 (by exact GH hA) (HC d0) ?_);intros s3 le k3 g3 c3 m3 m3' hle;refine AB ?_
  have n3:=Q95
  have G3:YP [2,3,4,5,6] σ s3:=G2.trans (g3.mono (by simp))
  have d7:s3.hp 7=.YQ (QB (.QP lb)):=(G3.hp 7 (by exact H7 hn) (by simp)).QR h7
  refine Ar (MG (A:=B) (tm:=tmD d0) d7 ((G3.hp lb llb (nol hlb)).QR hlb) (by exact abp llb n0 m1 m1' m2 m2' m3 m3') ((Q3u 4 (by exact RF hn n0 n1 n2) (by simp)).QR c4) ((Q3u lt m2' (by simp;exact RE hn n0 n1 m2)).QR hlt) (by exact H6 m2' m3 m3') ((Q3u 2 (by exact abo hn n0 n1 n2) (by simp)).QR ((Q3Z 2 (by exact abn hn n0 n1) (by simp)).QR ((QGM 2 (by exact abm hn n0) (by simp)).QR ((zn 2 (by exact abl)).QR e2)))) (by exact abk hn n0 m1 m1' m2 m2' m3 m3') hB7 (by exact GH hB) (HC d0) ?_);intros s4 ls k4 g4 c2 m4 m4' hls;refine AB ?_
  have n4:=g4.nx
  have G4:YP [2,3,4,5,6] σ s4:=G3.trans (g4.mono (by simp))
  have y4:s4.loc=Q3t:=k4.trans (k3.trans (k2.trans (k1.trans y0)))
  have hle4:s4.hp le=.Qs (Aa ((X5 (XN+1)).map (eOf (tmD d0) A))):=(Q8J le m3' (by simp;exact abj hn n0 n1 n2 m3)).QR hle
  have w4:s4.loc "due"=QB (.QP ldu):=by rw [y4,hl2 "due" (by simp [A8]) (by simp [A8])];exact hd
  refine Ar (MI (qs:=qs) (e:=eOf (tmD d0) A) (s:=eOf (tmD d0) B) (la:=XN) (lb:=Xm) w4 ((QGN ldu ldu' (nol hdu)).QR hdu) (by exact abi ldu' n0 m1 m1' m2 m2' m3 m3' m4 m4') (fun q h=>⟨QQ (hq q h).1 G4.nx,(QGN _ (hq q h).1 (not' (hq q h).2)).QR (hq q h).2⟩) ((Q8J 3 (by exact RD hn n0 n1 n2 n3) (by simp)).QR c3) c2 hle4 hls (by exact H6 m3' m4 m4') m4' (by exact abh hn n0 m1 m1' m2 m2' m3 m3' m4 m4') (fun q h=>by have:=NJ hG q.2 (Q0D ⟨q,h,QA⟩);exact ⟨DK this.1,GQ this.2⟩) (fun i j=>by have:=BA (JX (Mv d0) A) (i:=i) (j:=i+j) (by exact Gc);exact abg this) (by exact RC hA) (by exact RC hB) (by exact abf Q2U) ?_);intros s5 lm rs g5 k5 o5 m5 m5' hlm hrs hmap;refine AB ?_
  have n5:=g5.nx
  have G5:YP [2,3,4,5,6] σ s5:=G4.trans (g5.mono (by simp))
  have c5':s5.hp 5=.YQ (QB (.QP ld)):=(QAJ 5 (by exact abe hn n0 m1 m1' m2 m2' m3 m3' m4 m4') (by simp)).QR ((Q8J 5 (by exact abd hn n0 m1 m1' m2 m2' m3 m3') (by simp)).QR ((Q3u 5 (by exact abc hn n0 m1 m1' m2 m2') (by simp)).QR ((Q3Z 5 (by exact abb hn n0 n1) (by simp)).QR c5)))
  have c4':s5.hp 4=.YQ (QB (.QP lt)):=(QAJ 4 (by exact aba hn n0 m1 m1' m2 m2' m3 m3' m4 m4') (by simp)).QR ((Q8J 4 (by exact aa9 hn n0 m1 m1' m2 m2' m3 m3') (by simp)).QR ((Q3u 4 (by exact RF hn n0 n1 n2) (by simp)).QR c4))
  have hld5:s5.hp ld=.Qs ((X5 7).map fun k=>QAK (BW w v n m k)):=(QAJ ld (by exact RB m1' m2 m2' m3 m3' m4 m4') (by simp)).QR ((Q8J ld (by exact RA m1' m2 m2' m3 m3') (by simp;exact aa8 hn n0 m1)).QR ((Q3u ld (by exact H6 m1' m2 m2') (by simp;exact aa7 hn n0 m1)).QR ((Q3Z ld m1' (by simp;exact aa6 hn n0 m1)).QR hld)))
  have hlt5:s5.hp lt=.Qs (Aa ((X5 7).map (tmD d0))):=(QAJ lt (by exact RA m2' m3 m3' m4 m4') (by simp)).QR ((Q8J lt (by exact H6 m2' m3 m3') (by simp;exact aa5 hn n0 n1 m2)).QR ((Q3u lt m2' (by simp;exact RE hn n0 n1 m2)).QR hlt))
  refine Ar (MK (A:=A) (B:=B) (tm:=tmD d0) (gv:=fun k=>QAK (BW w v n m k)) ((G5.hp 8 (by exact Ia hn) (by simp)).QR h8) ((G5.hp 7 (by exact H7 hn) (by simp)).QR h7) c5' c4' ((G5.hp la lla (nol hla)).QR hla) ((G5.hp lb llb (nol hlb)).QR hlb) hld5 hlt5 (by exact Ry lla n0 m1 m1' m2 m2' m3 m3' m4 m4' m5 m5') (by exact Ry llb n0 m1 m1' m2 m2' m3 m3' m4 m4' m5 m5') (by exact aa4 m1' m2 m2' m3 m3' m4 m4' m5 m5') (by exact RB m2' m3 m3' m4 m4' m5 m5') (by exact aa3 hn n0 m1 m1' m2 m2' m3 m3' m4 m4' m5 m5') hA7 hB7 (by exact GH hA) (by exact GH hB) (HC d0) ?_);intros s6 l l1 l2 g6 k6 o6 m6 m6' hl q1 q2 hl1 hl2';refine AB ?_
  have n6:=g6.nx
  have G6:YP [2,3,4,5,6] σ s6:=G5.trans (g6.mono (by simp))
  have gr:=NI (A:=A) (B:=B) (d0:=d0) hA7 hB7 hw hv hnn hn5 hm3
  obtain ⟨GG,nn,hnn',hLL⟩:=(gr.gmb hG)
  refine Ar (OJ (A:=A) (B:=B) (tm:=tmD d0) (w:=w) (v:=v) (n:=n) (m:=m) o6 hl hl1 hl2' (by omega) q1 q2 ((k6 "moved" (by simp [A8])).QR o5) ((QCs lm m5' (by simp)).QR hlm) (by exact H6 m5' m6 m6') (fun q h=>⟨QQ (hrs q h).1 g6.nx,(QCs _ (hrs q h).1 (by simp)).QR (hrs q h).2⟩) hm3 (by exact GH hA) (by exact GH hB) (HC d0) ?_ ?_ ?_)
  ·intros R' h
   rw [hmap,h.uniq GG,YT];rfl
  ·intros L h
   have:=hLL L h;exact aa2 hA hnn' this
  intros s7 g7 k7;refine AB ?_
  have n7:=g7.nx
  have G7:YP [2,3,4,5,6] σ s7:=G6.trans (g7.mono (by simp))
  refine S3 (hn2 s7 ⟨G7,?_,?_⟩)
  ·intros c hc
   have f:∀c,c<=6->s7.hp c=s4.hp c:=fun c hc=>(g7.hp c (by exact aa1 hn n0 m1 m1' m2 m2' m3 m3' m4 m4' m5 m5' m6 m6' hc) (by simp)).QR ((QCs c (by exact aa0 hn n0 m1 m1' m2 m2' m3 m3' m4 m4' m5 m5' hc) (by simp)).QR (QAJ c (by exact aaZ hn n0 m1 m1' m2 m2' m3 m3' m4 m4' hc) (by simp)))
   simp only [QDM,QBB,or_false]at hc
   rcases hc with QA | QA | QA | QA | QA
   ·exact ⟨_,(f 2 (by exact aaY)).QR c2⟩
   ·exact ⟨_,(f 3 (by exact aaX)).QR ((Q8J 3 (by exact RD hn n0 n1 n2 n3) (by simp)).QR c3)⟩
   ·exact ⟨_,(g7.hp 4 (by exact aaW hn n0 m1 m1' m2 m2' m3 m3' m4 m4' m5 m5' m6 m6') (by simp)).QR ((QCs 4 (by exact aaV hn n0 m1 m1' m2 m2' m3 m3' m4 m4' m5 m5') (by simp)).QR c4')⟩
   ·exact ⟨_,(g7.hp 5 (by exact aaU hn n0 m1 m1' m2 m2' m3 m3' m4 m4' m5 m5' m6 m6') (by simp)).QR ((QCs 5 (by exact aaT hn n0 m1 m1' m2 m2' m3 m3' m4 m4' m5 m5') (by simp)).QR c5')⟩
   ·exact ⟨_,(f 6 (by exact aaS)).QR ((Q8J 6 (by exact aaR hn n0 m1 m1' m2 m2' m3 m3') (by simp)).QR ((Q3u 6 (by exact aaQ hn n0 m1 m1' m2 m2') (by simp)).QR ((Q3Z 6 (by exact aaP hn n0 m1 m1') (by simp)).QR ((QGM 6 (by exact RG hn n0) (by simp)).QR z6))))⟩
  ·intros y hy hy'
   rw [k7,k6 y hy',k5 y hy,y4,hl2 y hy hy']
 ·intros σ2 hI
  obtain ⟨g,hc2,hl2⟩:=hI
  exact k σ2 g hc2 hl2
end
end
section
variable {P:Params} {d:Nat} {σ:Mini.St}
theorem MH {A B:List Nat} {la lb ldr:Nat} {ds:List Int} {R:Fl->Mini.St->Prop} (ha:σ.loc "a"=some (.ref la)) (hb:σ.loc "b"=some (.ref lb)) (hla:σ.hp la=.list (Aa A)) (hlb:σ.hp lb=.list (Aa B)) (lla:la < σ.nx) (llb:lb < σ.nx)
  (hn:9<=σ.nx) (hA:A.length<=61) (hB:B.length<=61) (hA7:∀k∈A,k < 7) (hB7:∀k∈B,k < 7) (hc:ES σ [2,3,4,5,6,7,8]) (ht:Ea σ) (hdr:σ.loc "dresses"=some (.ref ldr)) (hdl:σ.hp ldr=.list (ds.map .int)) (ldl:ldr < σ.nx)
  (k:∀σ',GroH [1,2,3,4,5,6,7,8] σ σ'->(∃es,σ'.hp 1=.tab es)->σ'.loc "dresses"=some (.ref ldr)->R .next σ'):ex1 (G P) (Ae (G P) 20) 35 ⟨(fdO (AO P)).scope,[("stops",2),("ends",3),("times",4),("dress",5),("d",6),("second",7),("first",8)],(fdO (AO P)).code,some (296,1)⟩ (lst 4) σ R:=by
 injections P σ A B la lb ldr ds R _ _ _ _ _ _ _ _ _ _ _ _ _ _ _ _ _
 conv=>arg 5;whnf
 have nol:∀ {l:Nat} {xs:List Val},σ.hp l=.list xs->l∉[1,2,3,4,5,6,7,8]:=fun h hm=>by
  rcases List.mem_cons.mp hm with rfl | hm
  ·obtain (⟨es,e,_⟩):=ht;rw [e]at h;cases h
  ·obtain (⟨u,hu⟩):=hc _ hm;rw [hu]at h;cases h
 have lla9:la∉[1,2,3,4,5,6,7,8]:=nol hla
 have llb9:lb∉[1,2,3,4,5,6,7,8]:=nol hlb
 have ldr9:ldr∉[1,2,3,4,5,6,7,8]:=nol hdl
 repeat keq_hits
 have gS:GroH [] σ (((σ.alloc (Ob.tuple [Val.ref la,Val.ref lb])).alloc (Ob.tuple [Val.ref lb,Val.ref la])).alloc (Ob.list [Val.ref σ.nx,Val.ref (σ.alloc (Ob.tuple [Val.ref la,Val.ref lb])).nx])):=by repeat kwd_rel
 have S0:((((σ.alloc (Ob.tuple [Val.ref la,Val.ref lb])).alloc (Ob.tuple [Val.ref lb,Val.ref la])).alloc (Ob.list [Val.ref σ.nx,Val.ref (σ.alloc (Ob.tuple [Val.ref la,Val.ref lb])).nx])):Mini.St).hp σ.nx=.tuple [.ref la,.ref lb]:=by kas_types
 have S1:((((σ.alloc (Ob.tuple [Val.ref la,Val.ref lb])).alloc (Ob.tuple [Val.ref lb,Val.ref la])).alloc (Ob.list [Val.ref σ.nx,Val.ref (σ.alloc (Ob.tuple [Val.ref la,Val.ref lb])).nx])):Mini.St).hp (σ.nx+1)=.tuple [.ref lb,.ref la]:=by kas_types
 have S2:((((σ.alloc (Ob.tuple [Val.ref la,Val.ref lb])).alloc (Ob.tuple [Val.ref lb,Val.ref la])).alloc (Ob.list [Val.ref σ.nx,Val.ref (σ.alloc (Ob.tuple [Val.ref la,Val.ref lb])).nx])):Mini.St).hp (σ.nx+2)=.list [.ref σ.nx,.ref (σ.nx+1)]:=by kas_types
 have Sl:((((σ.alloc (Ob.tuple [Val.ref la,Val.ref lb])).alloc (Ob.tuple [Val.ref lb,Val.ref la])).alloc (Ob.list [Val.ref σ.nx,Val.ref (σ.alloc (Ob.tuple [Val.ref la,Val.ref lb])).nx])):Mini.St).loc=σ.loc:=rfl
 have Sn:((((σ.alloc (Ob.tuple [Val.ref la,Val.ref lb])).alloc (Ob.tuple [Val.ref lb,Val.ref la])).alloc (Ob.list [Val.ref σ.nx,Val.ref (σ.alloc (Ob.tuple [Val.ref la,Val.ref lb])).nx])):Mini.St).nx=σ.nx+3:=rfl
 show AS (fun σ_1=>σ_1.hp (σ.nx+2)=Ob.list [Val.ref σ.nx,Val.ref (σ.nx+1)]) _ [Val.ref σ.nx,Val.ref (σ.nx+1)] _ _
 generalize (((σ.alloc (Ob.tuple [Val.ref la,Val.ref lb])).alloc (Ob.tuple [Val.ref lb,Val.ref la])).alloc (Ob.list [Val.ref σ.nx,Val.ref (σ.alloc (Ob.tuple [Val.ref la,Val.ref lb])).nx]))=S at gS S0 S1 S2 Sl Sn ⊢
 refine Ax (fun t σ2=>GroH [1,2,3,4,5,6,7,8] S σ2/\ES σ2 [2,3,4,5,6,7,8]/\Ea σ2/\σ2.loc "dresses"=some (.ref ldr)) (fun _=>False) (fun _ _=>False) ⟨.refl,?_,ht.grow gS (by exact L7 hn) (by simp) (fun l hl=>by cases hl),by rw [Sl];exact hdr⟩ (fun t σ2 hI=>(hI.1.hp _ (by exact Se Sn) (by simp;exact ⟨aaO hn,aaN hn,aaM hn,aaL hn,aaK hn,aaI hn,aaH hn⟩)).trans S2) ?_ ?_ (fun _ q=>q.elim) (fun _ _ q=>q.elim)
 ·intros c hc'
  obtain ⟨u,hu⟩:=hc c hc'
  refine ⟨u,(gS.hp c ?_ (by simp)).trans hu⟩
  exact Nat.lt_of_lt_of_le (KW hc').2 hn
 ·intros t x σ2 hx hI R2 hn2 u1 u2 u3
  obtain ⟨g,hc2,ht2,hl2⟩:=hI
  have gn:=g.nx
  have zO:∃tp l1 l2 C D,x=.ref tp/\tp < S.nx/\9<=tp/\S.hp tp=.tuple [.ref l1,.ref l2]/\l1 < S.nx/\l2 < S.nx/\l1∉[1,2,3,4,5,6,7,8]/\l2∉[1,2,3,4,5,6,7,8]/\S.hp l1=.list (Aa C)/\S.hp l2=.list (Aa D)/\C.length<=61/\D.length<=61/\(∀k∈C,k < 7)/\(∀k∈D,k < 7):=by
   match t,hx with
   | 0,hx=>cases hx;exact ⟨σ.nx,la,lb,A,B,rfl,by exact aaG Sn,hn,S0,by exact Ez lla Sn,by exact Ez llb Sn,lla9,llb9,(gS.hp la lla (by simp)).trans hla,(gS.hp lb llb (by simp)).trans hlb,hA,hB,hA7,hB7⟩
   | 1,hx=>cases hx;exact ⟨σ.nx+1,lb,la,B,A,rfl,by exact aaF Sn,by exact aaE hn,S1,by exact Ez llb Sn,by exact Ez lla Sn,llb9,lla9,(gS.hp lb llb (by simp)).trans hlb,(gS.hp la lla (by simp)).trans hla,hB,hA,hB7,hA7⟩
  obtain ⟨tp,l1,l2,C,D,rfl,tp1,tp2,tp3,q1,q2,q3,q4,q5,q6,r1,r2,r3,r4⟩:=zO
  obtain ⟨u8,e8⟩:=hc2 8 (by simp)
  obtain ⟨u7,e7⟩:=hc2 7 (by simp)
  try dsimp only
  refine PK rfl (Ms ((g.hp tp tp1 (by simp;exact ⟨U4 tp2,U3 tp2,U2 tp2,U1 tp2,U0 tp2,UZ tp2,UY tp2,UX tp2⟩)).trans tp3) rfl (II (Kd (l:=8) (by kln_le) e8 (by kernel_rfl) (II (Kd (l:=7) (by kln_le) (Ct (by exact Vm) e7) (by kernel_rfl) (O1 ?_))))))
  have g0:GroH [7,8] σ2 ((σ2.upd 8 (.cell (some (.ref l1)))).upd 7 (.cell (some (.ref l2)))):=by repeat kwd_rel
  have z8:((σ2.upd 8 (.cell (some (.ref l1)))).upd 7 (.cell (some (.ref l2)))).hp 8=.cell (some (.ref l1)):=Ct (by exact Vl) (Cu rfl rfl)
  have z7:((σ2.upd 8 (.cell (some (.ref l1)))).upd 7 (.cell (some (.ref l2)))).hp 7=.cell (some (.ref l2)):=Cu rfl rfl
  have zl:((σ2.upd 8 (.cell (some (.ref l1)))).upd 7 (.cell (some (.ref l2)))).loc=σ2.loc:=rfl
  generalize ((σ2.upd 8 (.cell (some (.ref l1)))).upd 7 (.cell (some (.ref l2))))=s0 at g0 z8 z7 zl ⊢
  have n0:=g0.nx
  have G0:GroH [1,2,3,4,5,6,7,8] S s0:=g.trans (g0.mono (by simp))
  have t0:Ea s0:=by
   refine ht2.grow g0 (by exact aaD hn Sn gn) (by simp) ?_
   intros l hl o h
   obtain ⟨u,hu⟩:=hc2 l (aiJ hl)
   rw [hu]at h;cases h
  refine Ar (Tt (A:=C) (B:=D) z8 z7 ((G0.hp l1 q1 q3).trans q5) ((G0.hp l2 q2 q4).trans q6) (by exact Rx gn q1 n0) (by exact Rx gn q2 n0) (by exact aaB hn Sn gn n0) r1 r2 t0 ?_);intros s1 ldu qs g1 k1 o1 m1 m1' hdu hqs hG t1;refine AB ?_
  have n1:=g1.nx
  have G1:GroH [1,2,3,4,5,6,7,8] S s1:=G0.trans (g1.mono (by simp))
  have z8':s1.hp 8=.cell (some (.ref l1)):=(g1.hp 8 (by exact aaA hn Sn gn n0) (by simp)).trans z8
  have z7':s1.hp 7=.cell (some (.ref l2)):=(g1.hp 7 (by exact aaz hn Sn gn n0) (by simp)).trans z7
  refine Ar (MO (A:=C) (B:=D) (qs:=qs) z8' z7' ((G1.hp l1 q1 q3).trans q5) ((G1.hp l2 q2 q4).trans q6) (by exact Rw gn q1 n0 m1 m1') (by exact Rw gn q2 n0 m1 m1') (by exact aay hn Sn gn n0 m1 m1') r1 r2 o1 hdu m1' hqs hG ?_);intros s2 g2 k2;refine AB ?_
  have n2:=g2.nx
  have G2:GroH [1,2,3,4,5,6,7,8] S s2:=G1.trans (g2.mono (by simp))
  have c26:ES s2 [2,3,4,5,6]:=by
   intros c hc'
   obtain ⟨u,hu⟩:=hc2 c (afV hc').1
   have hc9:=(afV hc').2
   exact ⟨u,(g2.hp c (by exact aax hn Sn gn n0 m1 m1' hc9.2.2.2) (by simp)).trans ((g1.hp c (by exact aaw hn Sn gn n0 hc9.2.2.2) (by simp;exact aav hc9.1)).trans ((g0.hp c (by exact aau hn Sn gn hc9.2.2.2) (by simp;exact ⟨aas hc9.2.1,aar hc9.2.2.1⟩)).trans hu))⟩
  have dl:s2.loc "dresses"=some (.ref ldr):=by rw [k2,k1 "dresses" (by simp [A8]),zl];exact hl2
  refine Ar (MJ (A:=C) (B:=D) (ds:=ds) (qs:=qs) ((g2.hp 8 (by exact Rv hn Sn gn n0 m1 m1') (by simp)).trans z8') ((g2.hp 7 (by exact Ru hn Sn gn n0 m1 m1') (by simp)).trans z7') ((G2.hp l1 q1 q3).trans q5) ((G2.hp l2 q2 q4).trans q6) (by exact Rt gn q1 n0 m1 m1' n2) (by exact Rt gn q2 n0 m1 m1' n2) (by exact aaq hn Sn gn n0 m1 m1' n2) r1 r2 r3 r4 c26 dl ((G2.hp ldr (by exact Ez ldl Sn) ldr9).trans ((gS.hp ldr ldl (by simp)).trans hdl)) (by exact aap ldl Sn gn n0 m1 m1' n2) (by rw [k2];exact o1) ((g2.hp ldu m1' (by simp)).trans hdu) (by exact B8 m1' n2) (fun q h=>⟨Nat.lt_of_lt_of_le (hqs q h).1 g2.nx,(g2.hp _ (hqs q h).1 (by simp)).trans (hqs q h).2⟩) hG ?_);intros s3 g3 c3 k3;refine AB ?_
  have n3:=g3.nx
  refine S3 (hn2 s3 ⟨G2.trans (g3.mono (by simp)),?_,?_,?_⟩)
  ·intros c hc'
   by_cases h6:c<=6
   ·exact c3 c (T8 (KW hc').1 h6)
   ·rcases aiI (Nat.lt_of_not_le h6) (KW hc').2 with rfl | rfl
    ·exact ⟨_,(g3.hp 7 (by exact aao hn Sn gn n0 m1 m1' n2) (by simp)).trans ((g2.hp 7 (by exact Ru hn Sn gn n0 m1 m1') (by simp)).trans z7')⟩
    ·exact ⟨_,(g3.hp 8 (by exact aan hn Sn gn n0 m1 m1' n2) (by simp)).trans ((g2.hp 8 (by exact Rv hn Sn gn n0 m1 m1') (by simp)).trans z8')⟩
  ·refine (t1.grow g2 (by exact aal hn Sn gn n0 n1) (by simp) (fun l hl=>by cases hl)).grow g3 (by exact aak hn Sn gn n0 n1 n2) (by simp) ?_;intros l hl o h
   obtain ⟨u,hu⟩:=c26 l hl
   rw [hu]at h;cases h
  ·rw [k3 "dresses" (by simp [A8]) (by simp [A8])];exact dl
 ·intros σ2 hI
  obtain ⟨g,hc2,⟨es,e1,_⟩,hl2⟩:=hI
  exact k σ2 ((gS.mono (by simp)).trans g) ⟨es,e1⟩ hl2
end
section
variable {P:Params} {d:Nat} {σ:Mini.St}
mutual
theorem I2 {G:Pg} {YR:Av} {n:QH} {fm:Fm} {c:Qu} {b o:Qf} {Q:QU->QE->Prop} (h:∀Rz:QU->QE->Prop,(∀z:X3,Rz (.Qm z) σ)->(c=QM->ev G YR n fm b σ Rz)/\(c=QJ->ev G YR n fm o σ Rz)) (k:∀z:X3,Q (.Qm z) σ) :
  (c=QM->ev G YR n fm b σ Q)/\(c=QJ->ev G YR n fm o σ Q):=h Q k
theorem Lz {G:Pg} {YR:Av} {n:QH} {fm:Fm} {c:Qu} {b o:Qf} {Q:QU->QE->Prop} (K:QH->QE->Prop) (h:∀Rz:QU->QE->Prop,(∀l XF,K l XF->Rz (.QP l) XF)->(c=QM->ev G YR n fm b σ Rz)/\(c=QJ->ev G YR n fm o σ Rz)) (k:∀l XF,K l XF->Q (.QP l) XF) :
  (c=QM->ev G YR n fm b σ Q)/\(c=QJ->ev G YR n fm o σ Q):=h Q k
theorem Js {ps:QC (X3×Tok)} {R:Fl->QE->Prop} (hs:Xv "script"=QB (.QP 0)) (h0:QS 0=.Q4m ps 0) (hl:Zg<=63) (hn:9<=QO)
  (k:∀XF l (ds:QC X3),YP [] σ XF->(∀y:X6,y≠"dresses"->Y9 y=Xv y)->Y9 "dresses"=QB (.QP l)->l < Xg->X4 l=.Qs (QF8 .Qm)->R .YC XF):ex1 (G P) (Ae (G P) 20) 39 ⟨(fdO (AO P)).Qv,[("stops",2),("ends",3),("times",4),("dress",5),("d",6),("second",7),("first",8)],(fdO (AO P)).Q0o,QB (296,1)⟩ (lst 0) σ R:=by
 injections P σ ps R _ _ _ _ _
 conv=>arg 5;whnf
 repeat keq_hits
 refine NP ?_
 repeat keq_hits
 refine Mz h0 (by rw [X8];exact Kk hl) ?_
 refine I2 (fun Rz hz=>BE (fun q=>?_) (fun q=>?_)) ?_
 ·have:0 < Zg:=by cases ps with | Zl=>simp at q | Xu a r=>simp
  repeat keq_hits
  refine IG (k:=0) h0 QA (Qg this) (by decide) ?_
  exact hz _
 ·repeat keq_hits
  exact hz _
 intros z
 repeat keq_hits
 refine NP ?_
 repeat keq_hits
 refine Jf h0 (by rw [X8];exact Kk hl) ?_
 repeat keq_hits
 refine I2 (fun Rz hz=>BE (fun q=>?_) (fun q=>?_)) ?_
 ·have:1 < Zg:=by have:=YD q;exact (Yg this)
  repeat keq_hits
  refine IG (k:=1) h0 QA (Qg this) (by decide) ?_
  exact hz _
 ·repeat keq_hits
  exact hz _
 intros z'
 repeat keq_hits
 refine k _ QO [9540+z,2341818+z'] ?_ ?_ ?_ ?_ ?_
 ·repeat kwd_rel
 ·intros y hy
  rw [AT,QN hy];rfl
 ·exact DZ QA
 ·kwd_less
 ·exact HN (D3 QA QA)
theorem Jr {ps:QC (X3×Tok)} {R:Fl->QE->Prop} (hs:Xv "script"=QB (.QP 0)) (h0:QS 0=.Q4m ps 0) (hl:Zg<=63) (hn:9<=QO)
  (k:∀XF l (ws:QC X3),YP [] σ XF->(∀y:X6,y≠"numbers"->Y9 y=Xv y)->Y9 "numbers"=QB (.QP l)->l < Xg->X4 l=.Qs (QCn .Qm)->Q4L<=61->R .YC XF):ex1 (G P) (Ae (G P) 20) 38 ⟨(fdO (AO P)).Qv,[("stops",2),("ends",3),("times",4),("dress",5),("d",6),("second",7),("first",8)],(fdO (AO P)).Q0o,QB (296,1)⟩ (lst 1) σ R:=by
 injections P σ ps R _ _ _ _ _
 conv=>arg 5;whnf
 repeat keq_hits
 refine MS (p:=QB 2) (q:=QG) (r:=QG) h0 QA QA QA (by simp) (by rw [X8];exact Kk hl) ?_
 have e:Bm (Q13 fun p=>Q11 p.1) (QB 2) QG QG=((Q13 (·.1)).Q9M 2).map Q11:=by
  have:=Ls (Q13 fun p=>Q11 p.1) 2
  refine (show Bm (Q13 fun p=>Q11 p.1) (QB 2) QG QG=_ from this).QR ?_
  rw [QDK,YT];rfl
 rw [e]
 refine NP ?_
 repeat keq_hits
 refine Jf (ps:=ps) (m:=0) (by have:=aaj hn;kas_types) (by rw [X8];exact Kk hl) ?_
 repeat keq_hits
 refine Lz (fun l XF=>YP [] (Qw (.Qs (((Q13 (·.1)).Q9M 2).map Q11))) XF/\Y9=Xv/\l < Xg/\∃zs:QC X3,X4 l=.Qs (zs.map .Qm)/\(zs=[]\/(Zg < 9/\zs.length=13))) (fun Rz hz=>BE (fun q=>?_) (fun q=>?_)) ?_
 ·have hlt:Zg < 9:=by have:=YD q;exact (Yg this)
  repeat keq_hits
  refine hz _ _ ⟨?_,QA,?_,[2,20,24,1,4,16,10,12,20,9,17,26,4],QY QA,.inr ⟨hlt,QA⟩⟩
  ·repeat kwd_rel
  ·kwd_less
 ·repeat keq_hits
  refine hz _ _ ⟨?_,QA,?_,[],QY QA,.inl QA⟩
  ·repeat kwd_rel
  ·kwd_less
 ·intros l XF hK
  obtain ⟨g,k1,k2,zs,k3,k4⟩:=hK
  have gn:=Q7U
  rw [Ab]at gn
  have hz:zs.length<=13:=by
   rcases k4 with QA | zR
   ·simp
   ·obtain ⟨_,h⟩:=zR
    exact aai h
  have d0:X4 QO=.Qs (((Q13 (·.1)).Q9M 2).map Q11):=(Q1Y _ (by rw [Ab];exact Hq) (by simp)).QR (QY QA)
  refine J9 d0 k3 ?_ ?_
  ·rw [QK,QK,Q1g,QK,X8];exact aah hl hz
  repeat keq_hits
  refine k _ Xg ((Q13 (·.1)).Q9M 2++zs) ?_ ?_ ?_ ?_ ?_ ?_
  ·have:YP [] σ XF:=by
    refine Q2d ?_ g
    repeat kwd_rel
   repeat kwd_rel
  ·intros y hy
   rw [AT,QN hy,DN,k1]
  ·exact DZ QA
  ·kwd_less
  ·rw [Qt];exact HN (D3 QA QA)
  ·rw [Xw,Q1g,QK]
   rcases k4 with QA | zR
   ·simp;omega
   ·obtain ⟨h1,h2⟩:=zR
    exact aag h1 h2
def kOf (x:X3):QH:=((QGf 4).fmod 7).Q1X
theorem T4 (x:X3):kOf x < 7:=by
 exact (FW (b:=7) (AV (QGf 4) (by decide))).2
theorem NB (x:X3):(QGf 4).fmod 7=((kOf x:QH):X3):=by
 exact (FW (b:=7) (AV (QGf 4) (by decide))).1
def CN (c:X3) (ws:QC X3):QC QH:=(ws.filter fun x=>x.fmod 4 != c).map kOf
theorem IF (c:X3) (ws:QC X3):∀k∈CN c ws,k < 7:=by
 intro k hk
 refine ew1 (Yx hk) fun x yq87=>?_;refine an2 yq87 fun _ yq88=>?_;obtain QA:=yq88;clear yq87
 exact T4 x
theorem De (c:X3) (ws:QC X3):(CN c ws).ZT<=Q4L:=by
 unfold CN;rw [QK];exact Q42 ..
theorem FC (c:X3) (ws:QC X3) (i:QH) (h:i < Q4L):CN c (QAL (i+1))=CN c (QAL i)++(if (ws[i].fmod 4 != c)=QM then [kOf ws[i]] else []):=by
 unfold CN
 rw [Zx,Qg h,Q5T,Qt]
 congr 1
 by_cases q:(ws[i].fmod 4 != c)=QM
 ·rw [QY q];simp [Q1k,q]
 ·rw [QN q];simp [Q1k,q]
theorem ahH {lw:QH} {ws:QC X3} {R:Fl->QE->Prop} (hs:Xv "numbers"=QB (.QP lw)) (h0:QS lw=.Qs (QCn .Qm)) (lw':lw < QO) (hl:Q4L<=61) (hn:9<=QO)
  (k:∀XF l,YP [] σ XF->(∀y:X6,y≠"a"->Y9 y=Xv y)->Y9 "a"=QB (.QP l)->l < Xg->X4 l=.Qs (Aa (CN 2 ws))->R .YC XF):ex1 (G P) (Ae (G P) 20) 37 ⟨(fdO (AO P)).Qv,[("stops",2),("ends",3),("times",4),("dress",5),("d",6),("second",7),("first",8)],(fdO (AO P)).Q0o,QB (296,1)⟩ (lst 2) σ R:=by
 injections P σ lw ws R _ _ _ _ _ _
 conv=>arg 5;whnf
 refine Dc QA [] (by kernel_rfl) (by kernel_rfl) ?_
 repeat keq_hits
 refine Dn (fun i vs _ _=>vs=Aa (CN 2 (QAL i))) lw' h0 QA ?_ ?_
 ·intros i x XF vs hx g' h1' h2' h3' R' hR'
  have zO:∃hi:i < Q4L,x=.Qm ws[i]:=by
   rw [QT]at hx
   cases e:ws[i]? with
   | QG=>rw [e]at hx;cases hx
   | QB z =>
    injections z zI
    rw [e]at hx
    obtain ⟨hi,hz⟩:=QX e
    exact ⟨hi,by rw [hz];exact (X1 hx).Q3w⟩
  obtain ⟨hi,QA⟩:=zO
  have gn':=Q4u
  have hle:=De 2 (QAL i)
  rw [Xn]at hle
  have hsn:=FC 2 ws i hi
  dsimp only
  repeat keq_hits
  refine Aw ?_ ?_
  ·intros q
   rw [QY q]at hsn
   repeat keq_hits
   refine pap (xs:=vs) ?_ ?_ ?_
   ·kas_types
   ·rw [h3'];unfold Aa;rw [QK,X8];omega
   refine hR' _ _ ?_ ?_ (QY QA) ?_
   ·repeat kwd_rel
   ·kwd_less
   ·rw [h3',hsn];unfold Aa;rw [Qt,NB];rfl
  ·intros q
   rw [QN (by rw [q];simp)]at hsn
   repeat keq_hits
   refine hR' _ _ ?_ ?_ h2' ?_
   ·repeat kwd_rel
   ·kwd_less
   ·rw [h3',hsn,Q3H]
 ·intros XF vs e1 g' h1' h2' h3'
  rw [QK,Q0r]at h3'
  have gn':=Q4u
  repeat keq_hits
  refine k _ QO ?_ ?_ ?_ ?_ ?_
  ·repeat kwd_rel
  ·intros y hy
   rw [AT,QN hy,e1]
  ·exact DZ QA
  ·kwd_less
  ·rw [<- h3'];exact HN h2'
theorem ahG {lw:QH} {ws:QC X3} {R:Fl->QE->Prop} (hs:Xv "numbers"=QB (.QP lw)) (h0:QS lw=.Qs (QCn .Qm)) (lw':lw < QO) (hl:Q4L<=61) (hn:9<=QO)
  (k:∀XF l,YP [] σ XF->(∀y:X6,y≠"b"->Y9 y=Xv y)->Y9 "b"=QB (.QP l)->l < Xg->X4 l=.Qs (Aa (CN 1 ws))->R .YC XF):ex1 (G P) (Ae (G P) 20) 36 ⟨(fdO (AO P)).Qv,[("stops",2),("ends",3),("times",4),("dress",5),("d",6),("second",7),("first",8)],(fdO (AO P)).Q0o,QB (296,1)⟩ (lst 3) σ R:=by
 conv=>arg 5;whnf
 refine Dc QA [] (by kernel_rfl) (by kernel_rfl) ?_
 repeat keq_hits
 refine Dn (fun i vs _ _=>vs=Aa (CN 1 (QAL i))) lw' h0 QA (fun i x XF vs hx g' h1' h2' h3' R' hR'=>?_) (fun XF vs e1 g' h1' h2' h3'=>?_)
 ·obtain ⟨hi,QA⟩:∃hi:i < Q4L,x=.Qm ws[i]:=by
   rw [QT]at hx
   cases e:ws[i]? with
   | QG=>rw [e]at hx;cases hx
   | QB z =>
    rw [e]at hx
    obtain (⟨hi,hz⟩):=QX e
    exact ⟨hi,by rw [hz];exact (X1 hx).Q3w⟩
  have gn':=Q4u
  have hle:=De 1 (QAL i)
  rw [Xn]at hle
  have hsn:=FC 1 ws i hi
  dsimp only
  repeat keq_hits
  refine Aw (fun q=>?_) (fun q=>?_)
  ·rw [QY q]at hsn
   repeat keq_hits
   refine pap (xs:=vs) ?_ ?_ ?_
   ·kas_types
   ·rw [h3'];unfold Aa;rw [QK,X8];omega
   refine hR' _ _ ?_ ?_ (QY QA) ?_
   ·repeat kwd_rel
   ·kwd_less
   ·rw [h3',hsn];unfold Aa;rw [Qt,NB];rfl
  ·rw [QN (by rw [q];simp)]at hsn
   repeat keq_hits
   refine hR' _ _ ?_ ?_ h2' ?_
   ·repeat kwd_rel
   ·kwd_less
   ·rw [h3',hsn,Q3H]
 ·rw [QK,Q0r]at h3'
  have gn':=Q4u
  repeat keq_hits
  refine k _ QO ?_ ?_ ?_ ?_ ?_
  ·repeat kwd_rel
  ·intro y hy
   rw [AT,QN hy,e1]
  ·exact DZ QA
  ·kwd_less
  ·rw [<- h3'];exact HN h2'
end
end
section
variable {P:Params} {d:Nat} {σ:Mini.St}
mutual
theorem ML {ldr:QH} {ds:QC X3} {R:Fl->QE->Prop} (hdr:Xv "dresses"=QB (.QP ldr)) (hdl:QS ldr=.Qs (QF8 .Qm)) (ldl:ldr < QO) (hn:9<=QO) (k:∀XF,YP [] σ XF->R (.ret (.Yn QM)) XF):ex1 (G P) (Ae (G P) 20) 34 ⟨(fdO (AO P)).Qv,[("stops",2),("ends",3),("times",4),("dress",5),("d",6),("second",7),("first",8)],(fdO (AO P)).Q0o,QB (296,1)⟩ (lst 5) σ R:=by
 injections P σ ldr ds R _ _ _ _ _
 conv=>arg 5;whnf
 repeat keq_hits
 refine Dm [] (by kernel_rfl) (by kernel_rfl) ?_
 repeat keq_hits
 refine K5 (Xq:=QF8 .Qm) hdl ?_
 unfold CO
 refine Ax (fun t σ2=>YP [] σ σ2/\QO < Zz/\Yy QO=.Qs []) (fun _=>Yk) (fun _ _=>Yk) ?_ (fun t σ2 hI=>(hI.1.hp ldr ldl (by simp)).QR hdl) ?_ ?_ (fun _ q=>Q2e) (fun _ _ q=>Q2e)
 ·exact ⟨⟨Q1B _,fun l' hl' _=>QN (Y5 hl')⟩,Xx _,QY QA⟩
 ·intros t x σ2 hx hI R2 hn2 u1 u2 u3
  obtain ⟨g2,hx2,hac⟩:=hI
  have zO:∃d0,x=.Qm d0:=by
   obtain ⟨z,_,hz⟩:=Yx (XE hx)
   exact ⟨z,hz.symm⟩
  obtain ⟨d0,QA⟩:=zO
  have gn2:=Q8I
  try dsimp only
  repeat keq_hits
  refine ⟨QA,?_⟩
  repeat keq_hits
  refine S7 (n:=7) (QY QA) (by exact UW) ?_
  unfold CO
  refine Ax (fun j σ3=>YP [] σ σ3/\QO < Q0h/\Q4l QO=.Qs []/\Q1O "d"=QB (.Qm d0)) (fun _=>Yk) (fun _ _=>Yk) ?_ (fun _ _ _=>ZN) ?_ ?_ (fun _ q=>Q2e) (fun _ _ q=>Q2e)
  ·refine ⟨?_,?_,?_,?_⟩
   ·repeat kwd_rel
   ·kwd_less
   ·kas_types
   ·keq_rows
  ·intros j x σ3 hx3 hI R3 hn3 u4 u5 u6
   obtain ⟨g3,QCv,hac3,hd3⟩:=hI
   obtain ⟨hj,QA⟩:=ID hx3
   have gn3:=Q95
   dsimp only
   repeat keq_hits
   refine F4 (d:=19) ?_;intros σ4 l w v n m g4 k1 k2 hw hv hnn hn5 hm3 hld
   have gn4:Q0h<=QCt:=g4.nx
   have y4:σ4.loc "k"=QB (.Qm (j:QH)):=by rw [g4.loc];keq_rows
   have y5:σ4.loc "d"=QB (.Qm d0):=by rw [g4.loc];keq_rows
   repeat keq_hits
   refine Ao (k:=j) (v:=.Xs (BW w v n m j)) hld QA (by rw [QT,Yd hj];rfl) (by exact H8 hj) ?_
   repeat keq_hits
   refine Jh (d:=18) ?_ ?_
   ·have:(BW w v n m j).QGL<=5:=by
     show (DS w v n m j).QAE<=5
     rw [XS]
     exact IB hm3 j
    exact RJ this
   intros σ5 g5
   have gn5:=g5.nx
   have y6:Q3I "k"=QB (.Qm (j:QH)):=by rw [g5.loc];exact y4
   have y7:Q3I "d"=QB (.Qm d0):=by rw [g5.loc];exact y5
   have hj':rxJ (BW w v n m j).cps=XV ((2:X3) < (j:QH)):=by
    have:=IC hw hv hnn hn5 hm3 j hj
    show rxJ (DS w v n m j).Xe=_
    rw [this]
    exact Q1N (Int.ofNat_lt (n:=2)).Q3w
   repeat keq_hits
   rw [hj',beq_self_eq_true,show (!QM)=QJ from QA]
   repeat keq_hits
   have G4:YP [] σ σ4:=⟨by exact Rs QCv gn4,fun l hl _=>(Q8J l (by show l < Q0h;exact Dr QCv hl)).QR (Q3u l hl (by simp))⟩
   refine hn3 σ5 ⟨⟨by exact aaf QCv gn4 gn5,fun l hl hx=>(QAJ l (by exact aae QCv gn4 hl)).QR (QGN l hl hx)⟩,by exact Rr QCv gn4 gn5,(QAJ _ (by exact B8 QCv gn4)).QR ((Q8J _ (by show QO < Q0h;omega)).QR hac3),y7⟩
  ·intros σ3 hI
   obtain ⟨g3,QCv,hac3,hd3⟩:=hI
   exact hn2 _ ⟨g3,QCv,hac3⟩
 ·intros σ2 hI
  obtain ⟨g2,hx2,hac⟩:=hI
  have gn2:=Q8I
  try dsimp only
  repeat keq_hits
  refine N8 ?_ ?_ ?_
  ·refine FQ ?_ hac
   show QO≠Zz
   exact Ag hx2
  ·exact QY QA
  repeat keq_hits
  refine k _ ?_
  have:YP [] σ {σ2 with loc:=Xv}:=⟨Q8I,Q3Z⟩
  repeat kwd_rel
theorem T1 (P:Ql) (ps:QC (X3×Tok)) (hl:Zg<=63):JG (G P) (Ae (G P) 20) (QB (296,1)) 299 [.QP 0] (st2 ps) fun v XF=>v=.Yn QM/\X4 0=.Q4m ps 0/\∃es,X4 1=.tab es:=by
 injections P ps _
 refine FG (Ud P) QA ["stops","ends","times","dress","d","second","first"] ?_ (by decide) ?_ 40 [("stops",2),("ends",3),("times",4),("dress",5),("d",6),("second",7),("first",8)] QA ?_
 ·kernel_rfl
 ·kernel_rfl
 intros σ1 hn hh hlo hc
 have hn:YB=9:=hn
 have h0:Q24 0=.Q4m ps 0:=hh 0 (by show 0 < 2;exact Kv)
 have h1:Q24 1=.tab []:=hh 1 (by show 1 < 2;exact Ku)
 have hs:ZX "script"=QB (.QP 0):=by rw [hlo];kernel_rfl
 have hcs:ES σ1 [2,3,4,5,6,7,8]:=by
  intros c hc'
  simp only [QDM,QBB,or_false]at hc'
  rcases hc' with QA | QA | QA | QA | QA | QA | QA
  ·exact ⟨_,hc 0 "stops" QA⟩
  ·exact ⟨_,hc 1 "ends" QA⟩
  ·exact ⟨_,hc 2 "times" QA⟩
  ·exact ⟨_,hc 3 "dress" QA⟩
  ·exact ⟨_,hc 4 "d" QA⟩
  ·exact ⟨_,hc 5 "second" QA⟩
  ·exact ⟨_,hc 6 "first" QA⟩
 have htb:Ea σ1:=⟨[],h1,fun lc h=>by cases h⟩
 refine Ar (Js hs h0 hl (by exact aad hn) ?_);intros s1 ldr ds g1 k1 o1 m1 hld;refine AB ?_
 have n1:=g1.nx
 refine Ar (Jr (ps:=ps) ((k1 "script" (by simp [A8])).QR hs) ((QGM 0 (by exact Rq hn) (by simp)).QR h0) hl (by exact aac hn n1) ?_);intros s2 lw ws g2 k2 o2 m2 hlw hws;refine AB ?_
 have n2:=Q8I
 refine Ar (ahH (ws:=ws) o2 hlw m2 hws (by exact aab hn n1 n2) ?_);intros s3 la g3 k3 o3 m3 hla;refine AB ?_
 have n3:=Q95
 refine Ar (ahG (ws:=ws) ((k3 "numbers" (by simp [A8])).QR o2) ((Q3u lw m2 (by simp)).QR hlw) (by exact B8 m2 n3) hws (by exact aaa hn n1 n2 n3) ?_);intros s4 lb g4 k4 o4 m4 hlb;refine AB ?_
 have n4:=g4.nx
 have G4:YP [] σ1 s4:=(g1.trans g2).QR (g3.trans g4)
 have dl:s4.loc "dresses"=QB (.QP ldr):=by rw [k4 "dresses" (by simp [A8]),k3 "dresses" (by simp [A8]),k2 "dresses" (by simp [A8])];exact o1
 have hld4:s4.hp ldr=.Qs (QF8 .Qm):=(Q8J _ (by exact Rr m1 n2 n3) (by simp)).QR ((Q3u _ (by exact B8 m1 n2) (by simp)).QR ((Q3Z _ m1 (by simp)).QR hld))
 have la1:=De 2 ws
 have lb1:=De 1 ws
 have hcs4:ES s4 [2,3,4,5,6,7,8]:=by
  intros c hc'
  obtain ⟨u,hu⟩:=hcs c hc'
  have:c < 9:=(KW hc').2
  exact ⟨u,(QGN c (by exact W9 hn this) (by simp)).QR hu⟩
 refine Ar (MH (A:=CN 2 ws) (B:=CN 1 ws) (ds:=ds) ((k4 "a" (by simp [A8])).QR o3) o4 ((Q8J la m3 (by simp)).QR hla) hlb (by exact B8 m3 n4) m4 (by exact W8 hn n1 n2 n3 n4) (by exact Rp hws la1) (by exact Rp hws lb1) (IF 2 ws) (IF 1 ws) hcs4 (htb.grow G4 (by exact Ro hn) (by simp) fun l hl=>by cases hl) dl hld4 (by exact Rn m1 n2 n3 n4) ?_);intros s5 g5 t5 d5;refine AB ?_
 have n5:=g5.nx
 have ld9:ldr∉[1,2,3,4,5,6,7,8]:=by
  intros hm
  rcases XP hm with QA | hm
  ·rw [(QGN 1 (by exact Ro hn) (by simp)).QR h1]at hld4;cases hld4
  ·obtain ⟨u,hu⟩:=hcs4 _ hm
   rw [hu]at hld4;cases hld4
 obtain ⟨es,t5⟩:=t5
 refine Ar (ML (ds:=ds) d5 ((QAJ ldr (by exact Rn m1 n2 n3 n4) ld9).QR hld4) (by exact W7 m1 n2 n3 n4 n5) (by exact W6 hn n1 n2 n3 n4 n5) ?_);intros s6 g6;refine TI ?_
 refine ⟨QA,?_,es,?_⟩
 ·exact (QCs 0 (by exact W5 hn n1 n2 n3 n4 n5) (by simp)).QR ((QAJ 0 (by exact W4 hn n1 n2 n3 n4) (by simp)).QR ((QGN 0 (by exact Rq hn) (by simp)).QR h0))
 ·exact (QCs 1 (by exact W3 hn n1 n2 n3 n4 n5) (by simp)).QR t5
end
end
theorem all:(PySem.Challenge.rw_dm0061_01).Holds:=hd fun _=>Tr T1
end
end Mine01
end

theorem PySem.Challenge.cw_dm0061_01_holds : PySem.Challenge.rw_dm0061_01.Holds :=
  Mine01.all
