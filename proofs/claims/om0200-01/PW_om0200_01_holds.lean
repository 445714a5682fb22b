import PyProof.Rows.All
import Wide.All
import OpenK.AllK
import Wide.FinOn
import KE.KRevIter
import PyProof.FactsAll.range
import PyProof.ZipIter
import KE.KPar
import Lean
import PySem.Challenge.RW_om0200_01
set_option Elab.async false
set_option maxRecDepth 100000
set_option linter.all false
set_option genSizeOfSpec false
set_option genSizeOf false
set_option genInjectivity false
set_option genCtorIdx false
set_option bootstrap.genMatcherCode false
set_option compiler.extract_closed false
set_option compiler.reuse false
set_option tactic.hygienic false
namespace Mine.Internal
@[elab_as_elim] theorem rwl.{u}{α:Sort u}{b:α}{P:α→Prop}{a:α}(h:a=b)(e:P b):P a:=h▸e
@[elab_as_elim] theorem rwr.{u}{α:Sort u}{b:α}{P:α→Prop}{a:α}(h:b=a)(e:P b):P a:=h▸e
theorem el0_2{p0 p1 g:Prop}(h:p0∧p1)(k:p0→p1→g):g:=k h.1 h.2
theorem el0_3{p0 p1 p2 g:Prop}(h:p0∧p1∧p2)(k:p0→p1→p2→g):g:=k h.1 h.2.1 h.2.2
theorem el0_4{p0 p1 p2 p3 g:Prop}(h:p0∧p1∧p2∧p3)(k:p0→p1→p2→p3→g):g:=k h.1 h.2.1 h.2.2.1 h.2.2.2
theorem el0_5{p0 p1 p2 p3 p4 g:Prop}(h:p0∧p1∧p2∧p3∧p4)(k:p0→p1→p2→p3→p4→g):g:=k h.1 h.2.1 h.2.2.1 h.2.2.2.1 h.2.2.2.2
theorem el0_6{p0 p1 p2 p3 p4 p5 g:Prop}(h:p0∧p1∧p2∧p3∧p4∧p5)(k:p0→p1→p2→p3→p4→p5→g):g:=k h.1 h.2.1 h.2.2.1 h.2.2.2.1 h.2.2.2.2.1 h.2.2.2.2.2
theorem el1_1.{u0}{fk:Sort u0}{p0:fk→Prop}{g:Prop}(h:∃x0,p0 x0)(k:∀x0,p0 x0→g):g:=Exists.elim h λx0 h=>k x0 h
theorem el1_2.{u0}{fk:Sort u0}{p0 p1:fk→Prop}{g:Prop}(h:∃x0,p0 x0∧p1 x0)(k:∀x0,p0 x0→p1 x0→g):g:=Exists.elim h λx0 h=>k x0 h.1 h.2
theorem el1_3.{u0}{fk:Sort u0}{p0 p1 p2:fk→Prop}{g:Prop}(h:∃x0,p0 x0∧p1 x0∧p2 x0)(k:∀x0,p0 x0→p1 x0→p2 x0→g):g:=Exists.elim h λx0 h=>k x0 h.1 h.2.1 h.2.2
theorem el1_4.{u0}{fk:Sort u0}{p0 p1 p2 p3:fk→Prop}{g:Prop}(h:∃x0,p0 x0∧p1 x0∧p2 x0∧p3 x0)(k:∀x0,p0 x0→p1 x0→p2 x0→p3 x0→g):g:=Exists.elim h λx0 h=>k x0 h.1 h.2.1 h.2.2.1 h.2.2.2
theorem el1_5.{u0}{fk:Sort u0}{p0 p1 p2 p3 p4:fk→Prop}{g:Prop}(h:∃x0,p0 x0∧p1 x0∧p2 x0∧p3 x0∧p4 x0)(k:∀x0,p0 x0→p1 x0→p2 x0→p3 x0→p4 x0→g):g:=Exists.elim h λx0 h=>k x0 h.1 h.2.1 h.2.2.1 h.2.2.2.1 h.2.2.2.2
theorem el1_6.{u0}{fk:Sort u0}{p0 p1 p2 p3 p4 p5:fk→Prop}{g:Prop}(h:∃x0,p0 x0∧p1 x0∧p2 x0∧p3 x0∧p4 x0∧p5 x0)(k:∀x0,p0 x0→p1 x0→p2 x0→p3 x0→p4 x0→p5 x0→g):g:=Exists.elim h λx0 h=>k x0 h.1 h.2.1 h.2.2.1 h.2.2.2.1 h.2.2.2.2.1 h.2.2.2.2.2
theorem el2_1.{u0,u1}{fk:Sort u0}{α1:Sort u1}{p0:fk→α1→Prop}{g:Prop}(h:∃x0 x1,p0 x0 x1)(k:∀x0 x1,p0 x0 x1→g):g:=Exists.elim h λx0 h=>Exists.elim h λx1 h=>k x0 x1 h
theorem el2_2.{u0,u1}{fk:Sort u0}{α1:Sort u1}{p0 p1:fk→α1→Prop}{g:Prop}(h:∃x0 x1,p0 x0 x1∧p1 x0 x1)(k:∀x0 x1,p0 x0 x1→p1 x0 x1→g):g:=Exists.elim h λx0 h=>Exists.elim h λx1 h=>k x0 x1 h.1 h.2
theorem el2_3.{u0,u1}{fk:Sort u0}{α1:Sort u1}{p0 p1 p2:fk→α1→Prop}{g:Prop}(h:∃x0 x1,p0 x0 x1∧p1 x0 x1∧p2 x0 x1)(k:∀x0 x1,p0 x0 x1→p1 x0 x1→p2 x0 x1→g):g:=Exists.elim h λx0 h=>Exists.elim h λx1 h=>k x0 x1 h.1 h.2.1 h.2.2
theorem el2_4.{u0,u1}{fk:Sort u0}{α1:Sort u1}{p0 p1 p2 p3:fk→α1→Prop}{g:Prop}(h:∃x0 x1,p0 x0 x1∧p1 x0 x1∧p2 x0 x1∧p3 x0 x1)(k:∀x0 x1,p0 x0 x1→p1 x0 x1→p2 x0 x1→p3 x0 x1→g):g:=Exists.elim h λx0 h=>Exists.elim h λx1 h=>k x0 x1 h.1 h.2.1 h.2.2.1 h.2.2.2
theorem el2_5.{u0,u1}{fk:Sort u0}{α1:Sort u1}{p0 p1 p2 p3 p4:fk→α1→Prop}{g:Prop}(h:∃x0 x1,p0 x0 x1∧p1 x0 x1∧p2 x0 x1∧p3 x0 x1∧p4 x0 x1)(k:∀x0 x1,p0 x0 x1→p1 x0 x1→p2 x0 x1→p3 x0 x1→p4 x0 x1→g):g:=Exists.elim h λx0 h=>Exists.elim h λx1 h=>k x0 x1 h.1 h.2.1 h.2.2.1 h.2.2.2.1 h.2.2.2.2
theorem el2_6.{u0,u1}{fk:Sort u0}{α1:Sort u1}{p0 p1 p2 p3 p4 p5:fk→α1→Prop}{g:Prop}(h:∃x0 x1,p0 x0 x1∧p1 x0 x1∧p2 x0 x1∧p3 x0 x1∧p4 x0 x1∧p5 x0 x1)(k:∀x0 x1,p0 x0 x1→p1 x0 x1→p2 x0 x1→p3 x0 x1→p4 x0 x1→p5 x0 x1→g):g:=Exists.elim h λx0 h=>Exists.elim h λx1 h=>k x0 x1 h.1 h.2.1 h.2.2.1 h.2.2.2.1 h.2.2.2.2.1 h.2.2.2.2.2
theorem el2_7.{u0,u1}{fk:Sort u0}{α1:Sort u1}{p0 p1 p2 p3 p4 p5 p6:fk→α1→Prop}{g:Prop}(h:∃x0 x1,p0 x0 x1∧p1 x0 x1∧p2 x0 x1∧p3 x0 x1∧p4 x0 x1∧p5 x0 x1∧p6 x0 x1)(k:∀x0 x1,p0 x0 x1→p1 x0 x1→p2 x0 x1→p3 x0 x1→p4 x0 x1→p5 x0 x1→p6 x0 x1→g):g:=Exists.elim h λx0 h=>Exists.elim h λx1 h=>k x0 x1 h.1 h.2.1 h.2.2.1 h.2.2.2.1 h.2.2.2.2.1 h.2.2.2.2.2.1 h.2.2.2.2.2.2
theorem el3_1.{u0,u1,u2}{fk:Sort u0}{α1:Sort u1}{α2:Sort u2}{p0:fk→α1→α2→Prop}{g:Prop}(h:∃x0 x1 x2,p0 x0 x1 x2)(k:∀x0 x1 x2,p0 x0 x1 x2→g):g:=Exists.elim h λx0 h=>Exists.elim h λx1 h=>Exists.elim h λx2 h=>k x0 x1 x2 h
theorem el3_2.{u0,u1,u2}{fk:Sort u0}{α1:Sort u1}{α2:Sort u2}{p0 p1:fk→α1→α2→Prop}{g:Prop}(h:∃x0 x1 x2,p0 x0 x1 x2∧p1 x0 x1 x2)(k:∀x0 x1 x2,p0 x0 x1 x2→p1 x0 x1 x2→g):g:=Exists.elim h λx0 h=>Exists.elim h λx1 h=>Exists.elim h λx2 h=>k x0 x1 x2 h.1 h.2
theorem el3_3.{u0,u1,u2}{fk:Sort u0}{α1:Sort u1}{α2:Sort u2}{p0 p1 p2:fk→α1→α2→Prop}{g:Prop}(h:∃x0 x1 x2,p0 x0 x1 x2∧p1 x0 x1 x2∧p2 x0 x1 x2)(k:∀x0 x1 x2,p0 x0 x1 x2→p1 x0 x1 x2→p2 x0 x1 x2→g):g:=Exists.elim h λx0 h=>Exists.elim h λx1 h=>Exists.elim h λx2 h=>k x0 x1 x2 h.1 h.2.1 h.2.2
theorem el3_4.{u0,u1,u2}{fk:Sort u0}{α1:Sort u1}{α2:Sort u2}{p0 p1 p2 p3:fk→α1→α2→Prop}{g:Prop}(h:∃x0 x1 x2,p0 x0 x1 x2∧p1 x0 x1 x2∧p2 x0 x1 x2∧p3 x0 x1 x2)(k:∀x0 x1 x2,p0 x0 x1 x2→p1 x0 x1 x2→p2 x0 x1 x2→p3 x0 x1 x2→g):g:=Exists.elim h λx0 h=>Exists.elim h λx1 h=>Exists.elim h λx2 h=>k x0 x1 x2 h.1 h.2.1 h.2.2.1 h.2.2.2
theorem el3_5.{u0,u1,u2}{fk:Sort u0}{α1:Sort u1}{α2:Sort u2}{p0 p1 p2 p3 p4:fk→α1→α2→Prop}{g:Prop}(h:∃x0 x1 x2,p0 x0 x1 x2∧p1 x0 x1 x2∧p2 x0 x1 x2∧p3 x0 x1 x2∧p4 x0 x1 x2)(k:∀x0 x1 x2,p0 x0 x1 x2→p1 x0 x1 x2→p2 x0 x1 x2→p3 x0 x1 x2→p4 x0 x1 x2→g):g:=Exists.elim h λx0 h=>Exists.elim h λx1 h=>Exists.elim h λx2 h=>k x0 x1 x2 h.1 h.2.1 h.2.2.1 h.2.2.2.1 h.2.2.2.2
theorem el3_6.{u0,u1,u2}{fk:Sort u0}{α1:Sort u1}{α2:Sort u2}{p0 p1 p2 p3 p4 p5:fk→α1→α2→Prop}{g:Prop}(h:∃x0 x1 x2,p0 x0 x1 x2∧p1 x0 x1 x2∧p2 x0 x1 x2∧p3 x0 x1 x2∧p4 x0 x1 x2∧p5 x0 x1 x2)(k:∀x0 x1 x2,p0 x0 x1 x2→p1 x0 x1 x2→p2 x0 x1 x2→p3 x0 x1 x2→p4 x0 x1 x2→p5 x0 x1 x2→g):g:=Exists.elim h λx0 h=>Exists.elim h λx1 h=>Exists.elim h λx2 h=>k x0 x1 x2 h.1 h.2.1 h.2.2.1 h.2.2.2.1 h.2.2.2.2.1 h.2.2.2.2.2
theorem el4_2.{u0,u1,u2,u3}{fk:Sort u0}{α1:Sort u1}{α2:Sort u2}{α3:Sort u3}{p0 p1:fk→α1→α2→α3→Prop}{g:Prop}(h:∃x0 x1 x2 x3,p0 x0 x1 x2 x3∧p1 x0 x1 x2 x3)(k:∀x0 x1 x2 x3,p0 x0 x1 x2 x3→p1 x0 x1 x2 x3→g):g:=Exists.elim h λx0 h=>Exists.elim h λx1 h=>Exists.elim h λx2 h=>Exists.elim h λx3 h=>k x0 x1 x2 x3 h.1 h.2
theorem el4_3.{u0,u1,u2,u3}{fk:Sort u0}{α1:Sort u1}{α2:Sort u2}{α3:Sort u3}{p0 p1 p2:fk→α1→α2→α3→Prop}{g:Prop}(h:∃x0 x1 x2 x3,p0 x0 x1 x2 x3∧p1 x0 x1 x2 x3∧p2 x0 x1 x2 x3)(k:∀x0 x1 x2 x3,p0 x0 x1 x2 x3→p1 x0 x1 x2 x3→p2 x0 x1 x2 x3→g):g:=Exists.elim h λx0 h=>Exists.elim h λx1 h=>Exists.elim h λx2 h=>Exists.elim h λx3 h=>k x0 x1 x2 x3 h.1 h.2.1 h.2.2
theorem el4_4.{u0,u1,u2,u3}{fk:Sort u0}{α1:Sort u1}{α2:Sort u2}{α3:Sort u3}{p0 p1 p2 p3:fk→α1→α2→α3→Prop}{g:Prop}(h:∃x0 x1 x2 x3,p0 x0 x1 x2 x3∧p1 x0 x1 x2 x3∧p2 x0 x1 x2 x3∧p3 x0 x1 x2 x3)(k:∀x0 x1 x2 x3,p0 x0 x1 x2 x3→p1 x0 x1 x2 x3→p2 x0 x1 x2 x3→p3 x0 x1 x2 x3→g):g:=Exists.elim h λx0 h=>Exists.elim h λx1 h=>Exists.elim h λx2 h=>Exists.elim h λx3 h=>k x0 x1 x2 x3 h.1 h.2.1 h.2.2.1 h.2.2.2
theorem el4_5.{u0,u1,u2,u3}{fk:Sort u0}{α1:Sort u1}{α2:Sort u2}{α3:Sort u3}{p0 p1 p2 p3 p4:fk→α1→α2→α3→Prop}{g:Prop}(h:∃x0 x1 x2 x3,p0 x0 x1 x2 x3∧p1 x0 x1 x2 x3∧p2 x0 x1 x2 x3∧p3 x0 x1 x2 x3∧p4 x0 x1 x2 x3)(k:∀x0 x1 x2 x3,p0 x0 x1 x2 x3→p1 x0 x1 x2 x3→p2 x0 x1 x2 x3→p3 x0 x1 x2 x3→p4 x0 x1 x2 x3→g):g:=Exists.elim h λx0 h=>Exists.elim h λx1 h=>Exists.elim h λx2 h=>Exists.elim h λx3 h=>k x0 x1 x2 x3 h.1 h.2.1 h.2.2.1 h.2.2.2.1 h.2.2.2.2
theorem el4_7.{u0,u1,u2,u3}{fk:Sort u0}{α1:Sort u1}{α2:Sort u2}{α3:Sort u3}{p0 p1 p2 p3 p4 p5 p6:fk→α1→α2→α3→Prop}{g:Prop}(h:∃x0 x1 x2 x3,p0 x0 x1 x2 x3∧p1 x0 x1 x2 x3∧p2 x0 x1 x2 x3∧p3 x0 x1 x2 x3∧p4 x0 x1 x2 x3∧p5 x0 x1 x2 x3∧p6 x0 x1 x2 x3)(k:∀x0 x1 x2 x3,p0 x0 x1 x2 x3→p1 x0 x1 x2 x3→p2 x0 x1 x2 x3→p3 x0 x1 x2 x3→p4 x0 x1 x2 x3→p5 x0 x1 x2 x3→p6 x0 x1 x2 x3→g):g:=Exists.elim h λx0 h=>Exists.elim h λx1 h=>Exists.elim h λx2 h=>Exists.elim h λx3 h=>k x0 x1 x2 x3 h.1 h.2.1 h.2.2.1 h.2.2.2.1 h.2.2.2.2.1 h.2.2.2.2.2.1 h.2.2.2.2.2.2
local macro_rules | `(tactic| omega) => `(tactic| lia)
open Lean in
local macro_rules
  | `(tactic| obtain ⟨$ps:rcasesPatLo,*⟩ := $h:term) => do
    let n := ps.getElems.size
    if n < 2 then Macro.throwUnsupported
    let mut bs : Array Term := #[]
    let mut more : Array (TSyntax `tactic) := #[]
    let g := h.raw.getId.toString
    let g := if g.startsWith "zq" then g else "zq"
    for p in ps.getElems do
      let x := p.raw[0][0][0][0]
      if x.isIdent && x.getId != `rfl then bs := bs.push ⟨x⟩
      else
        let y := mkIdent (.mkSimple (g ++ toString bs.size))
        bs := bs.push y
        if x.getAtomVal != "_" then more := more.push (← `(tactic| obtain $(⟨p.raw[0]⟩):rcasesPatMed := $y:ident))
    if !bs.contains h then more := #[← `(tactic| try clear $(⟨h.raw⟩):ident)] ++ more
    let ks := (Array.range (min n 7)).map fun k => mkIdent (.mkSimple s!"el{k}_{n-k}")
    let bss := ks.map fun _ => bs
    let hs := ks.map fun _ => h
    `(tactic| ((first $[| refine $ks $hs fun $bss* => ?_]* | fail); skip; $[$more]*))
open Lean in
local macro_rules
  | `(tactic| rw $s:rwRuleSeq) => do
    let mut ts : Array (TSyntax `tactic) := #[]
    for r in s.raw[1].getSepArgs do
      let q : TSyntax ``Parser.Tactic.rwRuleSeq := ⟨s.raw.setArg 1 (mkNullNode #[r])⟩
      let t : Term := ⟨r[1]⟩
      let l := mkIdent (if r[0].isNone then `rwl else `rwr)
      ts := ts.push (← `(tactic| first | refine $l ($t ..) ?_ | rewrite $q:rwRuleSeq))
    `(tactic| ($[$ts]*; try with_reducible rfl))
section
set_option genCtorIdx false in
inductive X|v(i:Nat)|k(n:Nat)|a(x y:X)|m(n:Nat)(x:X)|r(x:X)(n:Nat)
set_option genCtorIdx false in
inductive C|n|c(x:Nat)(r:C)
noncomputable def C.g:C→Nat→Nat
 | .n,aj=>0
 | .c x r,i=>Nat.rec x (λi aj=>r.g i) i
noncomputable def X.d(c:C):X→Nat
 | .v i=>c.g i
 | .k n=>n
 | .a x y=>x.d c+y.d c
 | .m n x=>n*x.d c
 | .r x n=>x.d c*n
noncomputable def Jb:List Nat→List Nat→List Nat
 |[],q=>q
 |a::p,q=>List.rec (a::p) (λb q aj=>Nat.add a b::Jb p q) q
noncomputable def un:Nat→List Nat
 |0=>[1]
 |i+1=>0::un i
noncomputable def El(n:Nat):List Nat→List Nat
 |[]=>[]
 |a::p=>Nat.mul n a::El n p
noncomputable def X.l:X→List Nat
 | .v i=>0::un i
 | .k n=>[n]
 | .a x y=>Jb x.l y.l
 | .m n x=>El n x.l
 | .r x n=>El n x.l
noncomputable def BX:List Nat→List Nat→Bool
 |[],aj=>true
 |a::p,q=>List.rec (cond (Nat.beq a 0) (BX p []) false) (λb q aj=>cond (Nat.ble a b) (BX p q) false) q
noncomputable def m9(c:C):List Nat→Nat
 |[]=>0
 |a::p=>C.rec 0 (λx r aj=>a*x+m9 r p) c
noncomputable def NG(c:C):List Nat→Nat
 |[]=>0
 |a::p=>a+m9 c p
theorem Hq(c:C)(i:Nat):m9 c (un i)=c.g i:=by
 induction c generalizing i with
 |n=>cases i<;>rfl
 |c x r ih=>
  cases i with
  |zero=>exact Nat.one_mul x
  |succ i=>exact(congrArg (·+_) (Nat.zero_mul x)).trans ((Nat.zero_add _).trans (ih i))
theorem Hr(c:C)(p q:List Nat):m9 c (Jb p q)=m9 c p+m9 c q:=by
 induction p generalizing c q with
 |nil=>exact(Nat.zero_add _).symm
 |cons a p ih=>
  cases q with
  |nil=>rfl
  |cons b q=>
   cases c with
   |n=>rfl
   |c x r=>
    show (a+b)*x+m9 r (Jb p q)=(a*x+m9 r p)+(b*x+m9 r q);rw[ih,Nat.add_mul];exact Nat.add_add_add_comm ..
theorem B5(n:Nat)(c:C)(p:List Nat):m9 c (El n p)=n*m9 c p:=by
 induction p generalizing c with
 |nil=>rfl
 |cons a p ih=>
  cases c with
  |n=>rfl
  |c x r=>
   show (n*a)*x+m9 r (El n p)=n*(a*x+m9 r p);rw[ih,Nat.mul_add,Nat.mul_assoc]
theorem FW(c:C)(x:X):NG c x.l=x.d c:=by
 induction x with
 |v i=>show 0+m9 c (un i)=c.g i;rw[Hq,Nat.zero_add]
 |k n=>rfl
 |a x y hx hy=>
  show NG c (Jb x.l y.l)=x.d c+y.d c;rw[←hx,←hy];cases x.l with
  |nil=>exact(Nat.zero_add _).symm
  |cons a p=>
   cases y.l with
   |nil=>rfl
   |cons b q=>show (a+b)+m9 c (Jb p q)=(a+m9 c p)+(b+m9 c q);rw[Hr];exact Nat.add_add_add_comm ..
 |m n x hx=>
  show NG c (El n x.l)=n*x.d c;rw[←hx];cases x.l with
  |nil=>rfl
  |cons a p=>show n*a+m9 c (El n p)=n*(a+m9 c p);rw[B5,Nat.mul_add]
 |r x n hx=>
  show NG c (El n x.l)=x.d c*n;rw[←hx,Nat.mul_comm];cases x.l with
  |nil=>rfl
  |cons a p=>show n*a+m9 c (El n p)=n*(a+m9 c p);rw[B5,Nat.mul_add]
theorem B6(c:C)(p q:List Nat)(h:BX p q=true):m9 c p≤m9 c q:=by
 induction p generalizing c q with
 |nil=>exact Nat.zero_le _
 |cons a p ih=>
  cases q with
  |nil=>
   have h:cond (Nat.beq a 0) (BX p []) false=true:=h;cases ha:Nat.beq a 0 with
   |false=>rw[ha]at h;cases h
   |true=>
    rw[ha]at h;have ha:=Nat.eq_of_beq_eq_true ha;subst ha;cases c with
    |n=>exact Nat.zero_le _
    |c x r=>show 0*x+m9 r p≤0;rw[Nat.zero_mul,Nat.zero_add];exact ih r [] h
  |cons b q=>
   have h:cond (Nat.ble a b) (BX p q) false=true:=h;cases ha:Nat.ble a b with
   |false=>rw[ha]at h;cases h
   |true=>
    rw[ha]at h;cases c with
    |n=>exact Nat.le_refl _
    |c x r=>exact Nat.add_le_add (Nat.mul_le_mul_right x (Nat.le_of_ble_eq_true ha)) (ih r q h)
theorem uz(c:C)(a b:X)(h:BX a.l b.l=true):a.d c≤b.d c:=by
 rw[←FW,←FW];cases hp:a.l with
 |nil=>exact Nat.zero_le _
 |cons u p=>
  rw[hp]at h;cases hq:b.l with
  |nil=>
   rw[hq]at h;have h:cond (Nat.beq u 0) (BX p []) false=true:=h;cases ha:Nat.beq u 0 with
   |false=>rw[ha]at h;cases h
   |true=>
    rw[ha]at h;have ha:=Nat.eq_of_beq_eq_true ha;subst ha;show 0+m9 c p≤0;rw[Nat.zero_add];exact B6 c p [] h
  |cons v q=>
   rw[hq]at h;have h:cond (Nat.ble u v) (BX p q) false=true:=h;cases ha:Nat.ble u v with
   |false=>rw[ha]at h;cases h
   |true=>rw[ha]at h;exact Nat.add_le_add (Nat.le_of_ble_eq_true ha) (B6 c p q h)
theorem aJ(c:C)(a b p q:X)(h:BX (a.a q).l (b.a p).l=true)(h1:p.d c≤q.d c):a.d c≤b.d c:=by
 exact Nat.le_of_add_le_add_right (Nat.le_trans (uz c (a.a q) (b.a p) h) (Nat.add_le_add_left h1 _))
theorem aQ(c:C)(a b p q r s:X)(h:BX (a.a (q.a s)).l (b.a (p.a r)).l=true)(h1:p.d c≤q.d c)(h2:r.d c≤s.d c):a.d c≤b.d c:=
 aJ c a b (p.a r) (q.a s) h (Nat.add_le_add h1 h2)
theorem dc(c:C)(a b p q r s t u:X)(h:BX (a.a (q.a (s.a u))).l (b.a (p.a (r.a t))).l=true)(h1:p.d c≤q.d c)(h2:r.d c≤s.d c)(h3:t.d c≤u.d c):a.d c≤b.d c:=
 aJ c a b (p.a (r.a t)) (q.a (s.a u)) h (Nat.add_le_add h1 (Nat.add_le_add h2 h3))
theorem gJ(c:C)(a b p q r s t u v w:X)(h:BX (a.a (q.a (s.a (u.a w)))).l (b.a (p.a (r.a (t.a v)))).l=true)(h1:p.d c≤q.d c)(h2:r.d c≤s.d c)(h3:t.d c≤u.d c)(h4:v.d c≤w.d c):a.d c≤b.d c:=
 aJ c a b (p.a (r.a (t.a v))) (q.a (s.a (u.a w))) h (Nat.add_le_add h1 (Nat.add_le_add h2 (Nat.add_le_add h3 h4)))
theorem bh{a b:Nat}(h:a=b):b≤a:=Nat.le_of_eq h.symm
theorem eO(a b:Nat):a≤a-b+b:=Nat.le_add_of_sub_le (Nat.le_refl _)
theorem bU{a b:Nat}(h:b≤a):a-b+b≤a:=Nat.le_of_eq (Nat.sub_add_cancel h)
theorem wO{a b:Nat}(h:a≤b):a-b≤0:=Nat.le_of_eq (Nat.sub_eq_zero_of_le h)
theorem gQ(a k:Nat):k*(a/k)≤a:=Nat.mul_div_le a k
theorem FY(a k:Nat):a+1≤(k+1)*(a/(k+1))+(k+1):=Nat.lt_mul_div_succ a (Nat.succ_pos k)
theorem Yn{a b:Nat}(h:a≤b):max a b≤b:=Nat.max_le.mpr ⟨h,Nat.le_refl _⟩
theorem Yo{a b:Nat}(h:b≤a):max a b≤a:=Nat.max_le.mpr ⟨Nat.le_refl _,h⟩
theorem Yp{a b:Nat}(h:a≤b):a≤min a b:=Nat.le_min.mpr ⟨Nat.le_refl _,h⟩
theorem mn2{a b:Nat}(h:b≤a):b≤min a b:=Nat.le_min.mpr ⟨h,Nat.le_refl _⟩
set_option genCtorIdx false in
inductive XI|v(i:Nat)|k(n:Int)|a(x y:XI)|s(x y:XI)|m(n:Int)(x:XI)|r(x:XI)(n:Int)|ng(x:XI)
set_option genCtorIdx false in
inductive CI|n|c(x:Int)(r:CI)
noncomputable def CI.g:CI→Nat→Int
 | .n,aj=>0
 | .c x r,i=>Nat.rec x (λi aj=>r.g i) i
noncomputable def XI.d(c:CI):XI→Int
 | .v i=>c.g i
 | .k n=>n
 | .a x y=>x.d c+y.d c
 | .s x y=>x.d c-y.d c
 | .m n x=>n*x.d c
 | .r x n=>x.d c*n
 | .ng x=>-x.d c
noncomputable def Em:List Int→List Int→List Int
 |[],q=>q
 |a::p,q=>List.rec (a::p) (λb q aj=>Int.add a b::Em p q) q
noncomputable def NH:Nat→List Int
 |0=>[1]
 |i+1=>0::NH i
noncomputable def Ae(n:Int):List Int→List Int
 |[]=>[]
 |a::p=>Int.mul n a::Ae n p
noncomputable def XI.l:XI→List Int
 | .v i=>0::NH i
 | .k n=>[n]
 | .a x y=>Em x.l y.l
 | .s x y=>Em x.l (Ae (-1) y.l)
 | .m n x=>Ae n x.l
 | .r x n=>Ae n x.l
 | .ng x=>Ae (-1) x.l
noncomputable def JD:List Int→Bool
 |[]=>true
 |a::p=>cond (decide (a=0)) (JD p) false
noncomputable def Jc:List Int→Bool
 |[]=>true
 |a::p=>cond (decide (0≤a)) (JD p) false
noncomputable def qj(c:CI):List Int→Int
 |[]=>0
 |a::p=>CI.rec 0 (λx r aj=>a*x+qj r p) c
noncomputable def BY(c:CI):List Int→Int
 |[]=>0
 |a::p=>a+qj c p
theorem Hs(c:CI)(i:Nat):qj c (NH i)=c.g i:=by
 induction c generalizing i with
 |n=>cases i<;>rfl
 |c x r ih=>
  cases i with
  |zero=>exact(Int.add_zero _).trans (Int.one_mul x)
  |succ i=>exact(congrArg (·+_) (Int.zero_mul x)).trans ((Int.zero_add _).trans (ih i))
theorem Yq(a b c d:Int):(a+b)+(c+d)=(a+c)+(b+d):=by rw[Int.add_assoc,Int.add_assoc,←Int.add_assoc b,←Int.add_assoc c,Int.add_comm b]
theorem Ht(c:CI)(p q:List Int):qj c (Em p q)=qj c p+qj c q:=by
 induction p generalizing c q with
 |nil=>exact(Int.zero_add _).symm
 |cons a p ih=>
  cases q with
  |nil=>exact(Int.add_zero _).symm
  |cons b q=>
   cases c with
   |n=>rfl
   |c x r=>
    show (a+b)*x+qj r (Em p q)=(a*x+qj r p)+(b*x+qj r q);rw[ih,Int.add_mul];exact Yq ..
theorem Hu(n:Int)(c:CI)(p:List Int):qj c (Ae n p)=n*qj c p:=by
 induction p generalizing c with
 |nil=>exact(Int.mul_zero n).symm
 |cons a p ih=>
  cases c with
  |n=>exact(Int.mul_zero n).symm
  |c x r=>
   show (n*a)*x+qj r (Ae n p)=n*(a*x+qj r p);rw[ih,Int.mul_add,Int.mul_assoc]
theorem B7(c:CI)(p q:List Int):BY c (Em p q)=BY c p+BY c q:=by
 cases p with
 |nil=>exact(Int.zero_add _).symm
 |cons a p=>
  cases q with
  |nil=>exact(Int.add_zero _).symm
  |cons b q=>show (a+b)+qj c (Em p q)=(a+qj c p)+(b+qj c q);rw[Ht];exact Yq ..
theorem su(n:Int)(c:CI)(p:List Int):BY c (Ae n p)=n*BY c p:=by
 cases p with
 |nil=>exact(Int.mul_zero n).symm
 |cons a p=>show n*a+qj c (Ae n p)=n*(a+qj c p);rw[Hu,Int.mul_add]
theorem JE(c:CI)(x:XI):BY c x.l=x.d c:=by
 induction x with
 |v i=>show 0+qj c (NH i)=c.g i;rw[Hs,Int.zero_add]
 |k n=>exact Int.add_zero n
 |a x y hx hy=>show BY c (Em x.l y.l)=x.d c+y.d c;rw[B7,hx,hy]
 |s x y hx hy=>show BY c (Em x.l (Ae (-1) y.l))=x.d c-y.d c;rw[B7,su,hx,hy,Int.neg_one_mul];rfl
 |m n x hx=>show BY c (Ae n x.l)=n*x.d c;rw[su,hx]
 |r x n hx=>show BY c (Ae n x.l)=x.d c*n;rw[su,hx,Int.mul_comm]
 |ng x hx=>show BY c (Ae (-1) x.l)=-x.d c;rw[su,hx,Int.neg_one_mul]
theorem Hv(c:CI)(p:List Int)(h:JD p=true):qj c p=0:=by
 induction p generalizing c with
 |nil=>rfl
 |cons a p ih=>
  have h:cond (decide (a=0)) (JD p) false=true:=h;cases ha:decide (a=0)with
  |false=>rw[ha]at h;cases h
  |true=>
   rw[ha]at h;have ha:=of_decide_eq_true ha;subst ha;cases c with
   |n=>rfl
   |c x r=>show 0*x+qj r p=0;rw[ih r h,Int.zero_mul];rfl
theorem Hw(c:CI)(p:List Int)(h:Jc p=true):0≤BY c p:=by
 cases p with
 |nil=>exact Int.le_refl _
 |cons a p=>
  have h:cond (decide (0≤a)) (JD p) false=true:=h;cases ha:decide (0≤a)with
  |false=>rw[ha]at h;cases h
  |true=>
   rw[ha]at h;have ha:=of_decide_eq_true ha;show 0≤a+qj c p;rw[Hv c p h,Int.add_zero];exact ha
theorem Af(c:CI)(a b:XI)(h:Jc (b.s a).l=true):a.d c≤b.d c:=by
 have h:=Hw c _ h;rw[JE]at h;exact Int.le_of_sub_nonneg h
theorem eE(c:CI)(a b p q:XI)(h:Jc ((b.a p).s (a.a q)).l=true)(h1:p.d c≤q.d c):a.d c≤b.d c:=by
 exact Int.le_of_add_le_add_right (Int.le_trans (Af c (a.a q) (b.a p) h) (Int.add_le_add_left h1 _))
theorem gK(c:CI)(a b p q r s:XI)(h:Jc ((b.a (p.a r)).s (a.a (q.a s))).l=true)(h1:p.d c≤q.d c)(h2:r.d c≤s.d c):a.d c≤b.d c:=
 eE c a b (p.a r) (q.a s) h (Int.add_le_add h1 h2)
theorem sy(c:CI)(a b p q r s t u:XI)(h:Jc ((b.a (p.a (r.a t))).s (a.a (q.a (s.a u)))).l=true)(h1:p.d c≤q.d c)(h2:r.d c≤s.d c)(h3:t.d c≤u.d c):a.d c≤b.d c:=
 eE c a b (p.a (r.a t)) (q.a (s.a u)) h (Int.add_le_add h1 (Int.add_le_add h2 h3))
theorem OG(c:CI)(a b p q r s t u v w:XI)(h:Jc ((b.a (p.a (r.a (t.a v)))).s (a.a (q.a (s.a (u.a w))))).l=true)(h1:p.d c≤q.d c)(h2:r.d c≤s.d c)(h3:t.d c≤u.d c)(h4:v.d c≤w.d c):a.d c≤b.d c:=
 eE c a b (p.a (r.a (t.a v))) (q.a (s.a (u.a w))) h (Int.add_le_add h1 (Int.add_le_add h2 (Int.add_le_add h3 h4)))
theorem jf{a b:Int}(h:a=b):b≤a:=Int.le_of_eq h.symm
theorem ic{a b:Nat}(h:a≤b):(a:Int)≤b:=Int.ofNat_le.mpr h
theorem bD{g:Prop}(h:1≤0):g:=absurd h (by decide)
theorem cG{g:Prop}(h:(1:Int)≤0):g:=absurd h (by decide)
theorem cP{a b:Nat}(D:Nat)(h:(D+1)*a≤(D+1)*b+D):a≤b:=
 Nat.le_of_lt_succ (Nat.lt_of_mul_lt_mul_left (a:=D+1) (Nat.lt_of_le_of_lt h (Nat.add_lt_add_left (Nat.lt_succ_self D) _)))
theorem wQ{a b:Int}(D:Nat)(h:((D+1:Nat):Int)*a≤((D+1:Nat):Int)*b+D):a≤b:=
 Int.le_of_lt_add_one (Int.lt_of_mul_lt_mul_left (a:=((D+1:Nat):Int)) (by rw[Int.mul_add,Int.mul_one];exact Int.lt_of_le_of_lt h (Int.add_lt_add_left (Int.ofNat_lt.mpr (Nat.lt_succ_self D)) _)) (Int.natCast_nonneg _))
theorem uC(k:Nat){a b:Int}(h:a≤b):(k:Int)*a≤k*b:=Int.mul_le_mul_of_nonneg_left h (Int.natCast_nonneg k)
theorem En(a:Int)(k:Nat):((k+1:Nat):Int)*(a/((k+1:Nat):Int))≤a:=Int.mul_ediv_self_le (by omega)
theorem Hx(a:Int)(k:Nat):a+1≤((k+1:Nat):Int)*(a/((k+1:Nat):Int))+((k+1:Nat):Int):=Int.lt_mul_ediv_self_add (Int.ofNat_lt.mpr (Nat.succ_pos k))
theorem OH{a b:Int}(h:a≤b):max a b≤b:=Int.max_le.mpr ⟨h,Int.le_refl b⟩
theorem Hy{a b:Int}(h:b≤a):max a b≤a:=Int.max_le.mpr ⟨Int.le_refl a,h⟩
theorem nabs{a:Int}{n:Nat}(h:-(n:Int)+1≤a)(g:a+1≤n):a.natAbs<n:=(Int.le_total 0 a).elim (λk=>Int.ofNat_lt.mp (Int.lt_of_le_of_lt (Int.le_of_eq (Int.natAbs_of_nonneg k)) g)) λk=>Int.ofNat_lt.mp (Int.lt_of_le_of_lt (Int.le_of_eq (Int.ofNat_natAbs_of_nonpos k)) (Int.neg_lt_of_neg_lt h))
noncomputable def X.V0:=X.v 0
noncomputable def XI.V0:=XI.v 0
noncomputable def X.V1:=X.v 1
noncomputable def XI.V1:=XI.v 1
noncomputable def X.V2:=X.v 2
noncomputable def XI.V2:=XI.v 2
noncomputable def X.V3:=X.v 3
noncomputable def XI.V3:=XI.v 3
noncomputable def X.V4:=X.v 4
noncomputable def XI.V4:=XI.v 4
noncomputable def X.V5:=X.v 5
noncomputable def XI.V5:=XI.v 5
noncomputable def X.V6:=X.v 6
noncomputable def X.V7:=X.v 7
noncomputable def X.V8:=X.v 8
noncomputable def X.K0:=X.k 0
noncomputable def X.K1:=X.k 1
noncomputable def XI.K0:=XI.k 0
noncomputable def XI.K1:=XI.k 1
noncomputable def X.S(x:X):=X.a x .K1
noncomputable def XI.S(x:XI):=XI.a x .K1
noncomputable def C.c1(x:Nat):C:=(.c x .n)
noncomputable def C.c2(x y:Nat):C:=(.c x (.c y .n))
noncomputable def C.c3(x y z:Nat):C:=(.c x (.c y (.c z .n)))
noncomputable def C.c4(x y z p:Nat):C:=(.c x (.c y (.c z (.c p .n))))
noncomputable def C.c5(x y z p q:Nat):C:=(.c x (.c y (.c z (.c p (.c q .n)))))
noncomputable def C.c6(x y z p q s:Nat):C:=(.c x (.c y (.c z (.c p (.c q (.c s .n))))))
noncomputable def C.c7(x y z p q s t:Nat):C:=(.c x (.c y (.c z (.c p (.c q (.c s (.c t .n)))))))
noncomputable def CI.c1(x:Int):CI:=(.c x .n)
noncomputable def CI.c2(x y:Int):CI:=(.c x (.c y .n))
noncomputable def CI.c3(x y z:Int):CI:=(.c x (.c y (.c z .n)))
noncomputable def CI.c4(x y z p:Int):CI:=(.c x (.c y (.c z (.c p .n))))
noncomputable def CI.c5(x y z p q:Int):CI:=(.c x (.c y (.c z (.c p (.c q .n)))))
noncomputable def CI.c6(x y z p q s:Int):CI:=(.c x (.c y (.c z (.c p (.c q (.c s .n))))))
section
variable{x y z p q s t u w e f:Nat}
theorem O2(h:¬y<x):x≤y:=Nat.le_of_not_lt h
theorem O3(h:x+1≤y):x≤y:=Nat.le_of_succ_le h
theorem O4(h:x≤7):x<1048576:=Nat.lt_of_le_of_lt h (by decide)
theorem O8(h:x<1048576):x≤16777216:=Nat.le_of_lt_succ (Nat.lt_of_lt_of_le h (by decide))
theorem O9(h:y=z)(i:x<z):x<y:=h▸i
theorem FZ(h:x<40):x<60:=Nat.lt_add_left _ h
theorem F0(h:x≤20):x<1048576:=Nat.lt_of_le_of_lt h (by decide)
theorem F1:x<x+1:=Nat.lt_succ_self _
theorem F2(h:x+y≤z):x+y≤z+1:=Nat.le_succ_of_le h
theorem Hz(h:x<1000):x<1048576:=Nat.lt_add_left _ h
theorem HA(h:x≤y):x≤y+1:=Nat.le_succ_of_le h
theorem HB(h:x<y):x<y+1:=Nat.lt_succ_of_lt h
theorem HC:0≤x:=Nat.zero_le _
theorem Jd(h:x+y<z):(↑x:Int)+(↑y:Int)<(↑z:Int):=Int.ofNat_lt.mpr h
theorem Je(h:p≤z)(i:x+y<p):x+y<z:=Nat.lt_of_lt_of_le i h
theorem Jf(h:x<x):False:=Nat.lt_irrefl _ h
theorem Jg(h:x<y):x+1<y+1:=Nat.succ_lt_succ h
theorem JF(h:x<58):x<60:=Nat.lt_add_left _ h
theorem JG(h:z=y)(i:x<z):x<y:=h▸i
theorem JH(h:x≤z)(i:z≤y):x≤y:=Nat.le_trans h i
theorem OI(h:x≤y):x+1≤y+1:=Nat.succ_le_succ h
theorem NI:0≤(↑x:Int):=Int.natCast_nonneg _
theorem JI(h:x<y):x≤y-1:=Nat.le_sub_one_of_lt h
theorem JJ:(↑x:Int)+1=(↑(x+1):Int):=rfl
theorem JK:0<x+1:=Nat.succ_pos _
theorem JL(h:x<y):x+1≤y:=Nat.succ_le_of_lt h
theorem JM(h:x+1≤y):x<y:=Nat.lt_of_succ_le h
theorem JN(h:x<38):x<60:=Nat.lt_add_left _ h
theorem NJ(h:x+0=y):x=y:=Nat.add_right_cancel h
theorem NK(h:x<800):x<900:=Nat.lt_add_left _ h
theorem NL(h:x+(z+1)≤y):x<y:=Nat.lt_of_le_of_lt (Nat.le_add_right _ _) h
theorem NN:(↑x:Int)+(↑y:Int)=(↑(x+y):Int):=rfl
theorem NO(h:x<0):False:=Nat.not_lt_zero _ h
theorem Yr{x:Int}:x≤x:=Int.le_refl _
theorem NP(h:z≤y)(i:x<z):x<y:=Nat.lt_of_lt_of_le i h
theorem NQ:x+1-(y+1)=x-y:=Nat.succ_sub_succ _ _
theorem OJ:x≤x+1:=Nat.le_succ _
theorem OL(h:y+0=x):x≤y:=Nat.le_of_eq (Eq.symm h)
theorem OM:0+x=x:=Nat.zero_add _
theorem ON:x≤x:=Nat.le_refl _
theorem OP(h:x<55):x<60:=Nat.lt_add_left _ h
theorem OQ(h:x≤20):x<1000:=Nat.lt_of_le_of_lt h (by decide)
theorem Ys{x y:Int}(h:x<y):x≤y:=Int.le_of_lt h
theorem OR(h:0<x):x-1<x:=Nat.pred_lt_self h
theorem OS(h:1≤x):0<x:=Nat.lt_of_succ_le h
theorem OT(h:x≤14):x<1048576:=Nat.lt_of_le_of_lt h (by decide)
theorem OU(h:x+y≤p)(i:p≤z):x+y≤z:=Nat.le_trans h i
theorem OV(h:y=x):x≤y:=Nat.le_of_eq (Eq.symm h)
theorem OW(h:x<y):x≤y:=Nat.le_of_lt h
theorem OX(h:x≤7):x<900:=Nat.lt_of_le_of_lt h (by decide)
theorem OY(h:y≤7)(i:x<y):x+1<1048576:=Nat.lt_of_le_of_lt (Nat.le_trans i h) (by decide)
theorem OZ(h:x<y+1):x≤y:=Nat.le_of_lt_succ h
theorem O0(h:x=y)(i:y≤20):x≤20:=Nat.le_trans (Nat.le_of_eq h) i
theorem O1(h:x+1<y):x<y:=Nat.lt_of_succ_lt h
theorem O5(h:x≤z)(i:z<y):x<y:=Nat.lt_of_le_of_lt h i
theorem O6(h:y+1≤x):0<x:=Nat.zero_lt_of_lt h
theorem O7(h:1≤x):x-1<x:=Nat.pred_lt_self h
theorem Pa(h:(↑x:Int)=(↑y:Int)):x=y:=Int.ofNat.inj h
theorem Pb(h:x<39):x<60:=Nat.lt_add_left _ h
theorem HD(h:x<38):x+1<58:=Nat.lt_of_le_of_lt h (by decide)
theorem HE(h:x<38):x<40:=Nat.lt_add_left _ h
theorem JO(h:0+0=(↑x:Int)):(↑x:Int)=0:=Eq.symm h
theorem JP(h:x<1):x=0:=Nat.sub_eq_zero_of_le h
theorem JQ(h:1≤x):¬x≤0:=Nat.not_le_of_lt h
theorem JR(h:x+y=p+1)(i:p<z):x+y≤z:=Nat.le_trans (Nat.le_of_eq h) i
theorem JS(h:x+0<y):x+1≤y:=h
theorem JT(h:x+y<z):x+(y+1)≤z:=h
theorem JU(h:0<0):False:=Nat.lt_irrefl _ h
theorem JV(h:x+1≤y):x-0+(0+1)≤y:=h
theorem JW(h:x+y≤z):x+(y+1)≤z+1:=Nat.lt_succ_of_le h
theorem JX(h:x+(y+1)≤z+1):x+y≤z:=Nat.le_of_lt_succ h
theorem Pc(h:x<55):x+1+1<57:=Nat.add_lt_add_right h _
theorem Pd(h:x≤y)(i:0<z):x+1≤y+z:=Nat.add_le_add h i
theorem Pe(h:x≤y+z):x+1≤y+(z+1):=Nat.lt_succ_of_le h
theorem Pf{x:Int}{y:Nat}:x+(↑y:Int)+1=x+(↑(y+1):Int):=Int.add_assoc _ _ _
theorem Pg:x+0≤x+y:=Nat.le_add_right _ _
theorem Ph(h:1≤x)(i:¬x=1):2≤x:=Nat.lt_of_le_of_ne h (Ne.symm i)
theorem Pj(h:y=x+1):x<y:=Nat.le_of_eq (Eq.symm h)
theorem Pk(h:y=x+1+1):x+1<y:=Nat.le_of_eq (Eq.symm h)
theorem Pn:(↑x:Int)+(↑y:Int)*2=(↑(x+y*2):Int):=rfl
theorem Po:x+1+y=x+(y+1):=Nat.add_right_comm _ _ _
theorem Pp(h:x≤(y-1)/2)(i:¬(y-1)/2=x):x+1≤(y-1)/2:=Nat.lt_of_le_of_ne h (Ne.symm i)
theorem Pq(h:0<x):0<(↑x:Int):=Int.ofNat_lt.mpr h
theorem Pr:0≤(↑x:Int)+1:=Int.natCast_nonneg _
theorem Pu:((↑x:Int)+1).toNat=x+1:=rfl
theorem Pw(h:20<x+y):20<(↑x:Int)+(↑y:Int):=Int.ofNat_lt.mpr h
theorem Px:x+(2*(y-z)+1+0)≤x+2*(y-z)+1:=Nat.le_refl _
theorem Py(h:x<x+0):False:=Nat.lt_irrefl _ h
theorem Pz(h:1≤x)(i:¬1=x):1+1≤x:=Nat.lt_of_le_of_ne h i
theorem PA(h:x≤y)(i:y<x):False:=Nat.not_lt_of_le h i
theorem PC(h:x≤1):x+1≤64:=Nat.lt_of_le_of_lt h (by decide)
theorem PD:x<y+x+1:=Nat.le_add_left _ _
theorem PG(h:x<0+1):x=0:=Nat.sub_eq_zero_of_le h
theorem PI(h:x+1≤0):False:=Nat.not_lt_zero _ h
theorem PJ(h:2*x+1<y):2*(↑x:Int)+1<(↑y:Int):=Int.ofNat_lt.mpr h
theorem PK:(↑(2*x+1):Int)=2*(↑x:Int)+1:=rfl
theorem PL(h:2*x+2<y):2*(↑x:Int)+1+1<(↑y:Int):=Int.ofNat_lt.mpr h
theorem PM:2*(↑x:Int)+1=(↑(2*x+1):Int):=rfl
theorem PN:2*(↑x:Int)+1+1=(↑(2*x+2):Int):=rfl
theorem PO:(↑x:Int)/2=(↑(x/2):Int):=rfl
theorem PR:0≤(↑x:Int)/2:=Int.natCast_nonneg _
theorem JY:Int.natAbs 16<2^31:=by decide
theorem JZ:Int.natAbs 2<2^31:=by decide
theorem PS:Int.natAbs 2<1073741824:=by decide
section
variable{x y z p q s t u w e f:Nat}
open X C
theorem PT(h:(x-1)/2=z)(i:(z-1)/2=y)(j:0<z):¬x=y:=λg=>
 Nat.lt_irrefl x (Nat.lt_of_le_of_lt (Nat.le_of_eq (g.trans i.symm)) (Nat.lt_of_le_of_lt (Nat.div_le_self _ _) (Nat.lt_of_lt_of_le (Nat.sub_lt j Nat.one_pos) (Nat.le_trans (Nat.le_of_eq h.symm) (Nat.le_trans (Nat.div_le_self _ _) (Nat.sub_le _ _))))))
theorem PU(h:z+y=t+1)(i:q+y=u+1)(j:p+x=w+1)(b:s+x=e+1)(o:x≤f)(h5:f<y∨f=y∧(t<w∨t=w∧u≤e)):x<y∨x=y∧(z<p∨z=p∧q≤s):=
 h5.elim (λk=>.inl (Nat.lt_of_le_of_lt o k)) λk=>(Nat.lt_or_eq_of_le (Nat.le_trans o (Nat.le_of_eq k.1))).imp id λg=>⟨g,k.2.imp
  (λk=>Nat.lt_of_add_lt_add_right (n:=y) (by rw[h,←g,j];exact Nat.succ_lt_succ k)) λk=>⟨Nat.add_right_cancel (m:=y) (by rw[h,k.1,←j,g]),Nat.le_of_add_le_add_right (b:=y) (by rw[i,←g,b];exact Nat.succ_le_succ k.2)⟩⟩
theorem PV(h:x+1<x∨x+1=x∧(y<y∨True∧z≤z)):False:=h.elim (λh=>Nat.lt_irrefl _ (Nat.lt_of_succ_lt h)) λh=>Nat.succ_ne_self _ h.1
theorem PW{x y:Int}{z p q s:Nat}(h:(z-1)/2=p)(i:q≤2*p+1)(j:z<q)(b:s<p):x≤y:=
 absurd (Nat.lt_of_lt_of_le j i) (Nat.not_lt_of_le (Nat.le_trans (Nat.succ_le_succ (Nat.le_trans (Nat.le_of_eq (congrArg (2*·) h.symm)) (Nat.mul_div_le _ 2))) (Nat.le_of_eq (Nat.sub_add_cancel (Nat.lt_of_lt_of_le (Nat.lt_of_le_of_lt (Nat.zero_le _) b) (Nat.le_trans (Nat.le_of_eq h.symm) (Nat.le_trans (Nat.div_le_self _ _) (Nat.sub_le _ _))))))))
theorem PX{x:Nat}{y:Int}{z:Nat}(h:z=x)(i:(↑z:Int)≤y):x≤y.toNat:=Int.le_toNat (Int.le_trans (Int.natCast_nonneg _) i) |>.mpr (h▸i)
theorem PY{x:Int}{y:Nat}(h:x.toNat=y)(i:0≤x):x=(↑y:Int):=h▸(Int.toNat_of_nonneg i).symm
theorem PZ{x:Int}(h:0≤x):x=(↑x.toNat:Int):=(Int.toNat_of_nonneg h).symm
theorem P0{x:Nat}{y:Int}(h:x-1-y.toNat<1000):¬x-1-y.toNat≥16777216:=Nat.not_le_of_lt (Nat.lt_of_lt_of_le h (by decide))
theorem P1{x:Int}{y:Nat}(h:x.toNat<y):x<(↑y:Int):=Int.lt_of_le_of_lt (Int.self_le_toNat x) (Int.ofNat_lt.mpr h)
theorem P4:max ((↑x:Int)-(↑y:Int)) 0=(↑(x-y):Int):=(Nat.le_total y x).elim (λh=>(Int.max_eq_left (Int.sub_nonneg_of_le (Int.ofNat_le.mpr h))).trans (Int.ofNat_sub h).symm) λh=>(Int.max_eq_right (Int.sub_nonpos_of_le (Int.ofNat_le.mpr h))).trans (congrArg Nat.cast (Nat.sub_eq_zero_of_le h)).symm
theorem P5(h:y<x):x=y.succ+(x-y-1):=(Nat.add_sub_of_le h).symm
theorem P6(h:¬y=x+1):(x<y↔x+1<y):=⟨λg=>Nat.lt_of_le_of_ne g (Ne.symm h),Nat.lt_of_succ_lt⟩
theorem P7{x:Int}:(x%16).natAbs<2^31:=nabs (Int.le_trans (by decide) (Int.emod_nonneg x (by decide))) (Int.le_trans (Int.emod_lt_of_pos x (by decide)) (by decide))
theorem P8{x y z p q s t u w:Int}(h:¬x<t)(i:¬t<y)(j:¬x=t∨¬z<u∧(¬z=u∨¬q<w))(b:¬t=y∨¬u<p∧(¬u=p∨¬w<s)):¬x=y∨¬z<p∧(¬z=p∨¬q<s):=
 (Decidable.em (x=y)).elim (λg=>have k:x=t:=Int.le_antisymm (g▸Int.not_lt.mp i) (Int.not_lt.mp h)
  .inr (j.elim (absurd k) λj=>b.elim (absurd (k▸g)) λb=>⟨Int.not_lt.mpr (Int.le_trans (Int.not_lt.mp b.1) (Int.not_lt.mp j.1)),
   (Decidable.em (z=p)).elim (λg=>.inr (have k:z=u:=Int.le_antisymm (g▸Int.not_lt.mp b.1) (Int.not_lt.mp j.1)
    j.2.elim (absurd k) λj=>b.2.elim (absurd (k▸g)) λb=>Int.not_lt.mpr (Int.le_trans (Int.not_lt.mp b) (Int.not_lt.mp j)))) .inl⟩)) .inl
theorem P9:max (↑x:Int) (↑y:Int)=(↑(max x y):Int):=(Nat.le_total x y).elim (λh=>(Int.max_eq_right (Int.ofNat_le.mpr h)).trans (congrArg Nat.cast (Nat.max_eq_right h).symm)) λh=>(Int.max_eq_left (Int.ofNat_le.mpr h)).trans (congrArg Nat.cast (Nat.max_eq_left h).symm)
theorem Qa(h:x<2^21):(↑x:Int)<2^30:=Int.ofNat_lt.mpr (Nat.lt_of_lt_of_le h (by decide:2^21≤2^30))
theorem Qc(h:p=q+1)(i:q≤y)(j:q≤z)(b:x<p):(16-(1+(↑x:Int)*1))*256+((↑y:Int)+1-(1+(↑x:Int)*1))*16+((↑z:Int)+1-(1+(↑x:Int)*1))=(16-(↑(x+1):Int))*256+(↑(y-x):Int)*16+(↑(z-x):Int):=
 have b:x≤q:=Nat.le_of_lt_succ (Nat.lt_of_lt_of_le b (Nat.le_of_eq h))
 by rw[Int.ofNat_sub (Nat.le_trans b i),Int.ofNat_sub (Nat.le_trans b j),Int.mul_one,Int.add_comm 1,Int.add_sub_add_right,Int.add_sub_add_right];rfl
theorem J0(h:q+s≤z)(i:x≤y+2*(q-p)+1)(j:p≤q)(b:¬s=0):x<y+(2*(z-p)+1):=Nat.lt_of_le_of_lt i (Nat.add_lt_add_left (Nat.succ_lt_succ (Nat.mul_lt_mul_of_pos_left (Nat.sub_lt_sub_right j (Nat.lt_of_lt_of_le (Nat.lt_add_of_pos_right (Nat.pos_of_ne_zero b)) h)) (Nat.succ_pos 1))) y)
theorem J1(h:x+(z+p)≤20)(g:y<z+p):x+1+y≤20:=Nat.le_trans (Nat.le_of_eq (Nat.succ_add_eq_add_succ x y)) (Nat.le_trans (Nat.add_le_add_left g x) h)
theorem Qd(h:x+(z+p)≤20)(i:q≤s)(j:s+t≤u)(b:¬t=0)(o:p=2*(u-q)+1)(h5:y≤z+2*(s-q)+1):x+1+y≤20:=J1 h (o▸J0 j h5 i b)
theorem J2(h:z+p≤y)(i:x≤q+2*(z-s)+1)(j:s≤z)(b:¬p=0):x+(2*(y-(z+p))+1)<q+(2*(y-s)+1):=
 aQ (c5 x q (z-s) (y-(z+p)) (y-s)) (a V0 (a (m 2 V3) (k 2))) (a V1 (a (m 2 V4) K1)) V0 (a V1 (a (m 2 V2) K1)) (m 2 (a V2 (S V3))) (m 2 V4) rfl i (Nat.mul_le_mul_left 2 (gJ (c7 z p y s (z-s) (y-(z+p)) (y-s)) (a V4 (S V5)) V6 (a V4 V3) V0 (a V5 (a V0 V1)) V2 V2 (a V6 V3) K1 V1 rfl (bU j) (bU h) (eO y s) (Nat.pos_of_ne_zero b)))
theorem Qe(h:x+(s+t)≤20)(i:u≤p)(j:p+q≤z)(b:¬q=0)(o:t=2*(z-u)+1)(h5:y≤s+2*(p-u)+1):x+1+(y+(2*(z-(p+q))+1))≤20:=J1 h (o▸J2 j h5 i b)
theorem J3(h:x-(y+1)≤z):x-(y+1)+x-1-z≤x-1:=Nat.sub_le_of_le_add (Nat.sub_le_of_le_add (Nat.le_trans (Nat.add_le_add h (eO x 1)) (Nat.le_of_eq (congrArg Nat.succ (Nat.add_comm _ _)))))
theorem Qf(h:y+1≤x)(i:x-(y+1)≤z):x-(y+1)+x-1-z<x:=Nat.lt_of_le_of_lt (J3 i) (Nat.sub_lt (Nat.zero_lt_of_lt h) Nat.one_pos)
theorem Qg(h:x≤z)(i:z<p+1)(j:¬(y<x∧x≤p))(b:¬x=y):x<y:=Nat.lt_of_le_of_ne (Nat.le_of_not_lt λg=>j ⟨g,Nat.le_trans h (Nat.le_of_lt_succ i)⟩) b
theorem Qh(h:x≤y)(i:y<z+1)(j:p<y)(b:¬(p<x∧x≤z)):x≤y-1:=Nat.le_trans (Nat.le_of_not_lt λg=>b ⟨g,Nat.le_trans h (Nat.le_of_lt_succ i)⟩) (Nat.le_sub_one_of_lt j)
theorem Qi(h:z≤y)(i:x<y+1)(j:¬(z<x∧x≤y))(b:¬x=z):x<y:=Nat.lt_of_lt_of_le (Nat.lt_of_le_of_ne (Nat.le_of_not_lt λg=>j ⟨g,Nat.le_of_lt_succ i⟩) b) h
theorem Qj(h:x=y+1):(-1+(↑x:Int)).toNat=y:=h▸congrArg Int.toNat ((Int.add_comm _ _).trans (Int.add_neg_cancel_right (y:Int) 1))
theorem Qk(h:y≤1):((↑x:Int)-(↑y:Int)+1)/2=(↑((x-y+1)/2):Int):=(Nat.lt_or_ge x y).elim (λg=>by
  have e:x=0:=Nat.le_zero.mp (Nat.le_of_lt_succ (Nat.lt_of_lt_of_le g h));have k:y=1:=Nat.le_antisymm h (Nat.lt_of_le_of_lt (Nat.zero_le _) g);subst e k;rfl) λg=>congrArg (λz:Int=>(z+1)/2) (Int.ofNat_sub g).symm
theorem Yt{q:Int}(h:x<16):(q*16+x)%16=x:=(congrArg (·%16) (Int.add_comm ..)).trans ((Int.add_mul_emod_self_right ..).trans (Int.emod_eq_of_lt (Int.natCast_nonneg _) (Int.ofNat_lt.mpr h)))
theorem Ql{q:Int}(h:x<16):(q*16+x)/16=q:=(congrArg (·/16) (Int.add_comm ..)).trans ((Int.add_mul_ediv_right _ _ (by decide)).trans ((congrArg (·+q) (Int.ediv_eq_zero_of_lt (Int.natCast_nonneg _) (Int.ofNat_lt.mpr h))).trans (Int.zero_add _)))
theorem eA{x y z:Int}:(16-x)*256+y*16+z=((16-x)*16+y)*16+z:=congrArg (·+z) ((congrArg (·+y*16) (Int.mul_assoc _ 16 16).symm).trans (Int.add_mul ..).symm)
theorem Qm(h:z<16):((16-(↑x:Int))*256+(↑y:Int)*16+(↑z:Int))%16=(↑z:Int):=eA▸Yt h
theorem Qn(h:y<16)(i:z<16):((16-(↑x:Int))*256+(↑y:Int)*16+(↑z:Int))/16%16=(↑y:Int):=by rw[eA,Ql i,Yt h]
theorem Qo(h:y<16)(i:z<16):((16-(↑x:Int))*256+(↑y:Int)*16+(↑z:Int))/256=16-(↑x:Int):=(Int.ediv_ediv_of_nonneg (x:=((16-(↑x:Int))*256+(↑y:Int)*16+(↑z:Int))) (y:=16) (z:=16) (by decide)).symm.trans (by rw[eA,Ql i,Ql h])
theorem ac3{a b c x y z:Int}(h:a=x)(i:b=y)(j:c=z):a*256+b*16+c=x*256+y*16+z:=h▸i▸j▸rfl
theorem Qp(h:y<16)(i:z<16):((16-(↑x:Int))*256+(↑y:Int)*16+(↑z:Int))/256*256+((16-(↑x:Int))*256+(↑y:Int)*16+(↑z:Int))%16*16+((16-(↑x:Int))*256+(↑y:Int)*16+(↑z:Int))/16%16=(16-(↑x:Int))*256+(↑z:Int)*16+(↑y:Int):=
 ac3 (Qo h i) (Qm i) (Qn h i)
theorem lx2(h:y<16)(i:z<16):y*16+z<256:=aQ (c2 y z) (S (a (r V0 16) V1)) (k 256) (r (S V0) 16) (k 256) (S V1) (k 16) rfl (Nat.mul_le_mul_right 16 h) i
theorem lx3(h:y<q)(i:z<16):y*16+z<q*16+s:=dc (c4 y z q s) (S (a (r V0 16) V1)) (a (r V2 16) V3) (r (S V0) 16) (r V2 16) (S V1) (k 16) K0 V3 rfl (Nat.mul_le_mul_right 16 h) i (Nat.zero_le _)
theorem lx1{x y:Int}(h:x+1≤y)(i:p<256):x*256+(p:Int)<y*256+(q:Int):=sy (CI.c4 x y p q) (.S (.a (.r .V0 256) .V2)) (.a (.r .V1 256) .V3) (.m 256 (.a .V0 .K1)) (.m 256 .V1) (.a .V2 .K1) (.k 256) .K0 .V3 rfl (uC 256 h) (ic i) (Int.natCast_nonneg _)
theorem Qq(h:y<16)(i:z<16)(j:¬(y=q∧z=s∧x=p))(b:p<x∨p=x∧(y<q∨y=q∧z≤s)):(16-(↑x:Int))*256+(↑y:Int)*16+(↑z:Int)<(16-(↑p:Int))*256+(↑q:Int)*16+(↑s:Int):=
 Int.lt_of_le_of_lt (Int.le_of_eq (Int.add_assoc ..)) (Int.lt_of_lt_of_le
  (b.elim (λb=>lx1 (p:=y*16+z) (q:=q*16+s) (Int.sub_lt_sub_left (Int.ofNat_lt.mpr b) 16) (lx2 h i))
  λb=>b.1▸Int.add_lt_add_left (Int.ofNat_lt.mpr (b.2.elim (λb=>lx3 b i) λk=>k.1▸Nat.add_lt_add_left (Nat.lt_of_le_of_ne k.2 λe=>j ⟨k.1,e,b.1.symm⟩) _)) _)
  (Int.le_of_eq (Eq.symm (Int.add_assoc ((16-(p:Int))*256) (q*16) s):((16-(p:Int))*256+((q*16+s:Nat):Int)=_))))
theorem Qs(h:p+s≤z):¬(↑x:Int)=(↑y:Int)∨¬(↑z:Int)<(↑p:Int)∧(¬(↑z:Int)=(↑p:Int)∨¬(↑q:Int)<(↑s:Int)):=.inr ⟨Int.not_lt.mpr (Int.ofNat_le.mpr (Nat.le_trans (Nat.le_add_right ..) h)),(Nat.lt_or_ge q s).elim (λg=>.inl λe=>Nat.not_lt_zero q (Nat.lt_of_lt_of_le g (Nat.le_of_add_le_add_left (a:=p) (Nat.le_trans h (Nat.le_of_eq (Int.ofNat.inj e)))))) λg=>.inr (Int.not_lt.mpr (Int.ofNat_le.mpr g))⟩
theorem Qt:(↑x:Int)+(↑y:Int)≤(↑z:Int)∧(↑p:Int)+(↑y:Int)≤(↑q:Int)↔x+y≤z∧p+y≤q:=and_congr Int.ofNat_le Int.ofNat_le
theorem J4{x:Int}(h:x.natAbs<2^31):x<2^64:=Int.lt_of_le_of_lt Int.le_natAbs (Int.lt_of_lt_of_le (Int.ofNat_lt.mpr h) (by decide))
theorem Qu{x:Int}(h:x.natAbs<2^31):-2^64<x:=Int.neg_lt_of_neg_lt (J4 (Int.natAbs_neg x▸h))
theorem Qv{x:Int}(h:0<x)(i:x<2^30):x.natAbs<1073741824:=Int.ofNat_lt.mp (Int.lt_of_le_of_lt (Int.le_of_eq (Int.natAbs_of_nonneg (Int.le_of_lt h))) i)
theorem Qw(h:(y-1)/2=p)(i:z=x-p)(j:0<y)(b:p<x):x-y<z:=i▸Nat.sub_lt_sub_left b (Nat.lt_of_le_of_lt (h▸Nat.div_le_self _ _) (Nat.sub_lt j Nat.one_pos))
theorem Qx{x y:Int}(h:0<0):x=y:=absurd h (Nat.lt_irrefl _)
theorem Qy:x/2-(y+1)=x/2-1-y:=(congrArg (x/2-·) (Nat.add_comm y 1)).trans (Nat.sub_sub ..).symm
theorem J5:Int.natAbs 256<2^31:=by decide
theorem J6(h:(x-1)/2=y)(i:0<x):x=2*y+1∨x=2*y+2:=
 have k:x=2*y+(x-1)%2+1:=(Nat.sub_add_cancel i).symm.trans (congrArg Nat.succ (h▸(Nat.div_add_mod _ 2).symm))
 (Nat.mod_two_eq_zero_or_one (x-1)).imp (λg=>k.trans (congrArg (2*y+·+1) g)) λg=>k.trans (congrArg (2*y+·+1) g)
theorem Qz(h:x≤y)(i:z<p∨z=p∧q≤s):x<y∨x=y∧(z<p∨z=p∧q≤s):=(Nat.lt_or_eq_of_le h).imp id (⟨·,i⟩)
end
section
open X C
theorem HF(h:x+(z+1)=y):x<y:=aJ (c3 x z y) (S V0) V2 (a V0 (S V1)) V2 rfl (Nat.le_of_eq h)
theorem Jh(h:x+z≤p)(i:p≤y)(j:q<x):x-1<y:=dc (c6 x z p y q (x-1)) (S V5) V3 (a V0 V1) V2 V2 V3 (S V5) V0 rfl h i (bU (a:=x) (b:=1) (aJ (c6 x z p y q (x-1)) K1 V0 (S V4) V0 rfl j))
theorem Ji(h:x+y≤p)(i:p+q≤z):x+y≤z:=aQ (c5 x y p q z) (a V0 V1) V4 (a V0 V1) V2 (a V2 V3) V4 rfl h i
theorem Jj(h:x≤7):x+1<1048576:=aJ (c1 x) (S (a V0 K1)) (k 1048576) V0 (k 7) rfl h
theorem J7(h:x+(y+1)≤z):x+1+y≤z:=aJ (c3 x y z) (a (S V0) V1) V2 (a V0 (S V1)) V2 rfl h
theorem J8(h:x<y+1)(i:¬x<y):x=y:=Nat.le_antisymm (aJ (c2 x y) V0 V1 (S V0) (S V1) rfl h) (aJ (c2 x y) V1 V0 V1 V0 rfl (Nat.le_of_not_lt i))
theorem J9(h:y+z≤500)(i:x≤y):x<1048576:=aQ (c3 y z x) (S V2) (k 1048576) (a V0 V1) (k 500) V2 V0 rfl h i
theorem NR(h:x+(y+1)=z):x+1+y=z:=Nat.le_antisymm (aJ (c3 x y z) (a (S V0) V1) V2 (a V0 (S V1)) V2 rfl (Nat.le_of_eq h)) (aJ (c3 x y z) V2 (a (S V0) V1) V2 (a V0 (S V1)) rfl (bh h))
theorem NS(h:z+y=x+1):x+1-y=z:=Nat.le_antisymm (aQ (c4 z y x (x+1-y)) V3 V0 (S V2) (a V0 V1) (a V3 V1) (S V2) rfl (bh h) (bU (a:=(x+1)) (b:=y) (aJ (c4 z y x (x+1-y)) V1 (S V2) (a V0 V1) (S V2) rfl (Nat.le_of_eq h)))) (aQ (c4 z y x (x+1-y)) V0 V3 (a V0 V1) (S V2) (S V2) (a V3 V1) rfl (Nat.le_of_eq h) (eO (x+1) y))
theorem NT(h:x+y≤z)(i:p<x):x-1+(y+1)≤z:=aQ (c5 x y z p (x-1)) (a V4 (S V1)) V2 (a V0 V1) V2 (S V4) V0 rfl h (bU (a:=x) (b:=1) (aJ (c5 x y z p (x-1)) K1 V0 (S V3) V0 rfl i))
theorem NU(h:x<y):(x-1)/2<y:=cP 1 (dc (c4 x y (x-1) ((x-1)/2)) (m 2 (S V3)) (a (m 2 V1) K1) (S V0) V1 V2 V0 (m 2 V3) V2 rfl h (Nat.sub_le x 1) (gQ (x-1) 2))
theorem NV(h:y=z)(i:x≤y)(j:z≤20):x≤20:=dc (c3 y z x) V2 (k 20) V0 V1 V2 V0 V1 (k 20) rfl (Nat.le_of_eq h) i j
theorem NW(h:x=y)(i:y<64):x≤16777216:=aQ (c2 x y) V0 (k 16777216) V0 V1 (S V1) (k 64) rfl (Nat.le_of_eq h) i
theorem NX(h:z+p≤y)(i:x≤z):x≤y:=aQ (c4 z p y x) V3 V2 (a V0 V1) V2 V3 V0 rfl h i
theorem NY(h:x≤y+1+z):x≤y+(z+1):=aJ (c3 x y z) V0 (a V1 (S V2)) V0 (a (S V1) V2) rfl h
theorem NZ(h:y+1≤x):x-1<x:=aJ (c3 y x (x-1)) (S V2) V1 (S V2) V1 rfl (bU (a:=x) (b:=1) (aJ (c3 y x (x-1)) K1 V1 (S V0) V1 rfl h))
theorem N1(h:y=z)(i:1≤z)(j:x≤1+(z-1)):x≤y:=dc (c4 y z x (z-1)) V2 V0 V1 V0 V2 (a K1 V3) (S V3) V1 rfl (bh h) j (bU (a:=z) (b:=1) (aJ (c4 y z x (z-1)) K1 V1 K1 V1 rfl i))
theorem QA(h:x≤y)(i:z≤7)(j:y<z):x<1048576:=dc (c3 x y z) (S V0) (k 1048576) V0 V1 V2 (k 7) (S V1) V2 rfl h i j
theorem QB(h:x≤z+1)(i:z≤y):x≤y+1:=aQ (c3 x z y) V0 (S V2) V0 (S V1) V1 V2 rfl h i
theorem QC(h:x+z≤p)(i:0<z)(j:p<y+1):x<y:=dc (c4 x z p y) (S V0) V3 (a V0 V1) V2 (a K0 K1) V1 (S V2) (S V3) rfl h i j
theorem QD(h:¬x=y+1)(i:¬x≤y):¬x≤y+1:=λu1=>(Nat.lt_or_gt_of_ne h).elim (λu2=>bD (aQ (c2 y x) K1 K0 (S V0) V1 (S V1) (S V0) rfl (Nat.lt_of_not_le i) u2)) (λu2=>bD (aQ (c2 y x) K1 K0 V1 (S V0) (S (a V0 K1)) V1 rfl u1 u2))
theorem QE:x+(y+z)=x+y+z:=Nat.le_antisymm (uz (c3 x y z) (a V0 (a V1 V2)) (a (a V0 V1) V2) rfl) (uz (c3 x y z) (a (a V0 V1) V2) (a V0 (a V1 V2)) rfl)
theorem QF(h:x+(z+1)≤y):x-1<y:=aQ (c4 x z y (x-1)) (S V3) V2 (a V0 (S V1)) V2 V3 V0 rfl h (Nat.sub_le x 1)
theorem Ka(h:x<700):x+1+1<900:=aJ (c1 x) (a (S (a V0 K1)) K1) (k 900) (S V0) (k 700) rfl h
theorem Kc(h:x=y+1)(i:x≤y):False:=bD (aQ (c2 x y) K1 K0 (S V1) V0 V0 V1 rfl (bh h) i)
theorem Kd(h:x=y+1)(i:z=y+1)(j:x<z):False:=bD (dc (c3 x y z) K1 K0 (S V1) V0 V2 (S V1) (S V0) V2 rfl (bh h) (Nat.le_of_eq i) j)
theorem Ke(h:x≤z):x≤max y z:=aQ (c4 x z y (max y z)) V0 V3 V0 V1 V1 V3 rfl h (Nat.le_max_right y z)
theorem Kf(h:x=0):x≤y:=aJ (c2 x y) V0 V1 V0 K0 rfl (Nat.le_of_eq h)
theorem Kg(h:z<0):x=y:=bD (aJ (c3 z x y) K1 K0 (S V0) K0 rfl h)
theorem Kh(h:x+y≤p)(i:p+q≤z+1)(j:0<q):x+y≤z:=dc (c5 x y p q z) (a V0 V1) V4 (a V0 V1) V2 (a V2 V3) (S V4) (a K0 K1) V3 rfl h i j
theorem Kl(h:x+y≤z+1)(i:0<y)(j:¬x+y≤z):x+(y-1)=z:=Nat.le_antisymm (aQ (c4 x y z (y-1)) (a V0 V3) V2 (a V0 V1) (S V2) (S V3) V1 rfl h (bU (a:=y) (b:=1) (aJ (c4 x y z (y-1)) K1 V1 (a K0 K1) V1 rfl i))) (aQ (c4 x y z (y-1)) V2 (a V0 V3) (S V2) (a V0 V1) V1 (S V3) rfl (Nat.lt_of_not_le j) (eO y 1))
theorem Km(h:0<y):x+y=x+y-1+1:=Nat.le_antisymm (aJ (c3 y x (x+y-1)) (a V1 V0) (S V2) (a V1 V0) (S V2) rfl (eO (x+y) 1)) (aJ (c3 y x (x+y-1)) (S V2) (a V1 V0) (S V2) (a V1 V0) rfl (bU (a:=(x+y)) (b:=1) (aJ (c3 y x (x+y-1)) K1 (a V1 V0) (a K0 K1) V0 rfl h)))
theorem Kn(h:x≤y)(i:0<z):x≤y+z-1:=dc (c4 x y z (y+z-1)) V0 V3 V0 V1 (a K0 K1) V2 (a V1 V2) (S V3) rfl h i (eO (y+z) 1)
theorem Ko(h:x+y≤z)(i:0<y):x+y-1<z:=aQ (c4 x y z (x+y-1)) (S V3) V2 (a V0 V1) V2 (S V3) (a V0 V1) rfl h (bU (a:=(x+y)) (b:=1) (aJ (c4 x y z (x+y-1)) K1 (a V0 V1) (a K0 K1) V1 rfl i))
theorem Kq(h:0<y):x+y-1+1=x+y:=Nat.le_antisymm (aJ (c3 y x (x+y-1)) (S V2) (a V1 V0) (S V2) (a V1 V0) rfl (bU (a:=(x+y)) (b:=1) (aJ (c3 y x (x+y-1)) K1 (a V1 V0) (a K0 K1) V0 rfl h))) (aJ (c3 y x (x+y-1)) (a V1 V0) (S V2) (a V1 V0) (S V2) rfl (eO (x+y) 1))
theorem Kr(h:y+z=p+1)(i:x+z≤p+1):x≤y:=aQ (c4 y z p x) V3 V0 (S V2) (a V0 V1) (a V3 V1) (S V2) rfl (bh h) i
theorem Ks(h:x=p)(i:y=0)(j:p≤z):x+y≤z:=dc (c4 x p y z) (a V0 V2) V3 V0 V1 V2 K0 V1 V3 rfl (Nat.le_of_eq h) (Nat.le_of_eq i) j
theorem Ku(h:z<x):x-1+(y+1)=x+y:=Nat.le_antisymm (aJ (c4 z x (x-1) y) (a V2 (S V3)) (a V1 V3) (S V2) V1 rfl (bU (a:=x) (b:=1) (aJ (c4 z x (x-1) y) K1 V1 (S V0) V1 rfl h))) (aJ (c4 z x (x-1) y) (a V1 V3) (a V2 (S V3)) V1 (S V2) rfl (eO x 1))
theorem Kv(h:0<x):¬(x-1)/2=x:=λu1=>bD (cP 1 (gJ (c3 x (x-1) ((x-1)/2)) (m 2 K1) (a (m 2 K0) K1) (a K0 K1) V0 (m 2 V0) (m 2 V2) (S V1) V0 (m 2 V2) V1 rfl h (Nat.mul_le_mul_left 2 (bh u1)) (bU (a:=x) (b:=1) (aJ (c3 x (x-1) ((x-1)/2)) K1 V0 (a K0 K1) V0 rfl h)) (gQ (x-1) 2)))
theorem Kw(h:y=z)(i:x≤p)(j:z≤20)(b:p≤y):x≤20:=gJ (c4 y z x p) V2 (k 20) V0 V1 V2 V3 V1 (k 20) V3 V0 rfl (Nat.le_of_eq h) i j b
theorem Ky(h:x≤315+10*y):x≤310+10*(y+1):=aJ (c2 x y) V0 (a (k 310) (m 10 (S V1))) V0 (a (k 315) (m 10 V1)) rfl h
theorem Kz(h:x+z≤p)(i:p≤y):x≤y:=aQ (c4 x z p y) V0 V3 (a V0 V1) V2 V2 V3 rfl h i
theorem KA(h:x+y+z≤p):x+(y+z)≤p:=aJ (c4 x y z p) (a V0 (a V1 V2)) V3 (a (a V0 V1) V2) V3 rfl h
theorem KC(h:¬z<y):x+y+(z-y)=x+z:=Nat.le_antisymm (aJ (c4 y z x (z-y)) (a (a V2 V0) V3) (a V2 V1) (a V3 V0) V1 rfl (bU (a:=z) (b:=y) (aJ (c4 y z x (z-y)) V0 V1 V0 V1 rfl (Nat.le_of_not_lt h)))) (aJ (c4 y z x (z-y)) (a V2 V1) (a (a V2 V0) V3) V1 (a V3 V0) rfl (eO z y))
theorem KD(h:x+y=q)(i:q+z≤p):x+(y+z)≤p:=aQ (c5 x y q z p) (a V0 (a V1 V3)) V4 (a V0 V1) V2 (a V2 V3) V4 rfl (Nat.le_of_eq h) i
theorem KG(h:x=y)(i:z≤x)(j:y<z):False:=bD (dc (c3 x y z) K1 K0 V0 V1 V2 V0 (S V1) V2 rfl (Nat.le_of_eq h) i j)
theorem KH(h:x≤y)(i:y<1):x=y:=Nat.le_antisymm (aJ (c2 x y) V0 V1 V0 V1 rfl h) (aJ (c2 x y) V1 V0 (S V1) K1 rfl i)
theorem KI(h:x≤y)(i:¬x=y):x≤y-1:=(Nat.lt_or_gt_of_ne i).elim (λu1=>aQ (c3 x y (y-1)) V0 V2 (S V0) V1 V1 (S V2) rfl u1 (eO y 1)) (λu1=>dc (c3 x y (y-1)) V0 V2 (m 2 V0) (m 2 V1) (S V1) V0 V1 (S V2) rfl (Nat.mul_le_mul_left 2 h) u1 (eO y 1))
theorem KJ(h:y=z)(i:x+(p+1)≤z):x≤y:=aQ (c4 y z x p) V2 V0 V1 V0 (a V2 (S V3)) V1 rfl (bh h) i
theorem KL(h:z+1≤y)(i:x≤z+1+(y-(z+1))):x≤y:=aQ (c4 z y x (y-(z+1))) V2 V1 V2 (a (S V0) V3) (a V3 (S V0)) V1 rfl i (bU (a:=y) (b:=(z+1)) (aJ (c4 z y x (y-(z+1))) (S V0) V1 (S V0) V1 rfl h))
theorem KN(h:y+1≤z)(i:z≤x):1≤x:=aQ (c3 y z x) K1 V2 (S V0) V1 V1 V2 rfl h i
theorem KO(h:1≤y)(i:x≤1+(y-1)):x≤y:=aQ (c3 y x (y-1)) V1 V0 V1 (a K1 V2) (S V2) V0 rfl i (bU (a:=y) (b:=1) (aJ (c3 y x (y-1)) K1 V0 K1 V0 rfl h))
theorem KP(h:1≤x):0+x-1-y<x:=aQ (c4 x (0+x-1) y (0+x-1-y)) (S V3) V0 (S V1) (a K0 V0) V3 V1 rfl (bU (a:=(0+x)) (b:=1) (aJ (c4 x (0+x-1) y (0+x-1-y)) K1 (a K0 V0) K1 V0 rfl h)) (Nat.sub_le (0+x-1) y)
theorem KQ(h:x+(z+1)=p)(i:y=p):x<y:=aQ (c4 x z p y) (S V0) V3 (a V0 (S V1)) V2 V2 V3 rfl (Nat.le_of_eq h) (bh i)
theorem KR(h:z≤x)(i:p≤y)(j:x<y+1)(b:¬z=p):x-1<y:=(Nat.lt_or_gt_of_ne b).elim (λu1=>(Nat.le_total x 1).elim (λu2=>dc (c5 z x p y (x-1)) (S V4) V3 V2 V3 (S V0) V2 V4 K0 rfl i u1 (wO (a:=x) (b:=1) (aJ (c5 z x p y (x-1)) V1 K1 V1 K1 rfl u2))) (λu2=>aQ (c5 z x p y (x-1)) (S V4) V3 (S V1) (S V3) (S V4) V1 rfl j (bU (a:=x) (b:=1) (aJ (c5 z x p y (x-1)) K1 V1 K1 V1 rfl u2)))) (λu1=>aQ (c5 z x p y (x-1)) (S V4) V3 (S V1) (S V3) (S V4) V1 rfl j (bU (a:=x) (b:=1) (aQ (c5 z x p y (x-1)) K1 V1 V0 V1 (S V2) V0 rfl h u1)))
theorem KU(h:x<9000):x+64<9900:=aJ (c1 x) (a (a V0 (k 64)) K1) (k 9900) (S V0) (k 9000) rfl h
theorem KV(h:y+x<900):x<1048576:=aJ (c2 y x) (S V1) (k 1048576) (S (a V0 V1)) (k 900) rfl h
theorem KW(h:y=x+1)(i:z+p≤500)(j:y≤z):x+1<1048576:=dc (c4 y x z p) (S (a V1 K1)) (k 1048576) (S V1) V0 (a V2 V3) (k 500) V0 V2 rfl (bh h) i j
theorem KY(h:x+y≤z)(i:z≤7):x<16:=aQ (c3 x y z) (S V0) (k 16) (a V0 V1) V2 V2 (k 7) rfl h i
theorem KZ(h:x+1≤z)(i:p+y≤x):x-y+(y+1)≤z:=aQ (c5 x z p y (x-y)) (a V4 (S V3)) V1 (S V0) V1 (a V4 V3) V0 rfl h (bU (a:=x) (b:=y) (aJ (c5 x z p y (x-y)) V3 V0 (a V2 V3) V0 rfl i))
theorem K2(h:z+y≤x):x-y+y=x:=Nat.le_antisymm (aJ (c4 z y x (x-y)) (a V3 V1) V2 (a V3 V1) V2 rfl (bU (a:=x) (b:=y) (aJ (c4 z y x (x-y)) V1 V2 (a V0 V1) V2 rfl h))) (aJ (c4 z y x (x-y)) V2 (a V3 V1) V2 (a V3 V1) rfl (eO x y))
theorem K3(h:x+1≤z)(i:p+(y+1)≤x+1):x-y+y≤z:=aQ (c5 x z p y (x-y)) (a V4 V3) V1 (S V0) V1 (a V4 V3) V0 rfl h (bU (a:=x) (b:=y) (aJ (c5 x z p y (x-y)) V3 V0 (a V2 (S V3)) (S V0) rfl i))
theorem K4(h:y+1≤0):x+(y+1)≤z+1:=bD (aJ (c3 y x z) K1 K0 (S V0) K0 rfl h)
theorem K5(h:z+(y+1)≤x+1):x-y+y=x:=Nat.le_antisymm (aJ (c4 z y x (x-y)) (a V3 V1) V2 (a V3 V1) V2 rfl (bU (a:=x) (b:=y) (aJ (c4 z y x (x-y)) V1 V2 (a V0 (S V1)) (S V2) rfl h))) (aJ (c4 z y x (x-y)) V2 (a V3 V1) V2 (a V3 V1) rfl (eO x y))
theorem K6(h:x+(z+1)≤y+1):x≤y:=aJ (c3 x z y) V0 V2 (a V0 (S V1)) (S V2) rfl h
theorem K7(h:z≤x+1)(i:y<z):x-y+(y+1)=x+1:=Nat.le_antisymm (aJ (c4 z x y (x-y)) (a V3 (S V2)) (S V1) (a V3 V2) V1 rfl (bU (a:=x) (b:=y) (aQ (c4 z x y (x-y)) V2 V1 V0 (S V1) (S V2) V0 rfl h i))) (aJ (c4 z x y (x-y)) (S V1) (a V3 (S V2)) V1 (a V3 V2) rfl (eO x y))
theorem K8(h:z+x=y+1):0+x≤y+1:=aJ (c3 z x y) (a K0 V1) (S V2) (a V0 V1) (S V2) rfl (Nat.le_of_eq h)
theorem K9(h:x+y≤0)(i:0<y):False:=bD (aQ (c2 x y) K1 K0 (a V0 V1) K0 (a K0 K1) V1 rfl h i)
theorem La(h:x+y≤z+1)(i:¬x+y≤z):x+y=z+1:=Nat.le_antisymm (aJ (c3 x y z) (a V0 V1) (S V2) (a V0 V1) (S V2) rfl h) (aJ (c3 x y z) (S V2) (a V0 V1) (S V2) (a V0 V1) rfl (Nat.lt_of_not_le i))
theorem Lb(h:x+y=z+1)(i:x+y≤z):False:=bD (aQ (c3 x y z) K1 K0 (S V2) (a V0 V1) (a V0 V1) V2 rfl (bh h) i)
theorem Lc(h:x+p≤z)(i:y<p):x+y<z:=aQ (c4 x p z y) (S (a V0 V3)) V2 (a V0 V1) V2 (S V3) V1 rfl h i
theorem Ld:(2*x+1-1)/2=x:=Nat.le_antisymm (cP 1 (aQ (c3 x (2*x+1-1) ((2*x+1-1)/2)) (m 2 V2) (a (m 2 V0) K1) V1 (a (m 2 V0) K1) (m 2 V2) V1 rfl (Nat.sub_le (2*x+1) 1) (gQ (2*x+1-1) 2))) (cP 1 (aQ (c3 x (2*x+1-1) ((2*x+1-1)/2)) (m 2 V0) (a (m 2 V2) K1) (a (m 2 V0) K1) (S V1) (S V1) (a (m 2 V2) (k 2)) rfl (eO (2*x+1) 1) (FY (2*x+1-1) 1)))
theorem QG(h:x≤310+10*z)(i:y≤2):x+y≤310+10*(z+1):=aQ (c3 x z y) (a V0 V2) (a (k 310) (m 10 (S V1))) V0 (a (k 310) (m 10 V1)) V2 (k 2) rfl h i
theorem QH(h:x≤100+100*z)(i:y≤2):x+y≤100+100*(z+1):=aQ (c3 x z y) (a V0 V2) (a (k 100) (m 100 (S V1))) V0 (a (k 100) (m 100 V1)) V2 (k 2) rfl h i
theorem QI(h:x<800):x+1+1<900:=aJ (c1 x) (a (S (a V0 K1)) K1) (k 900) (S V0) (k 800) rfl h
theorem QJ(h:x<700):x+1+1+1<900:=aJ (c1 x) (a (a (S (a V0 K1)) K1) K1) (k 900) (S V0) (k 700) rfl h
theorem QK(h:x<700):x+1+1+1+1<800:=aJ (c1 x) (a (a (a (S (a V0 K1)) K1) K1) K1) (k 800) (S V0) (k 700) rfl h
theorem QL(h:x<600):x+3<700:=aJ (c1 x) (a (a V0 (k 3)) K1) (k 700) (S V0) (k 600) rfl h
theorem QM(h:x≤310+10*y):x+1≤315+10*y:=aJ (c2 x y) (S V0) (a (k 315) (m 10 V1)) V0 (a (k 310) (m 10 V1)) rfl h
theorem QN(h:x≤100+100*y):x+3≤150+100*y:=aJ (c2 x y) (a V0 (k 3)) (a (k 150) (m 100 V1)) V0 (a (k 100) (m 100 V1)) rfl h
theorem QO(h:y+z≤20)(i:x≤z):x≤100:=aQ (c3 y z x) V2 (k 100) (a V0 V1) (k 20) V2 V1 rfl h i
theorem QS(h:x+y≤20):x<64:=aJ (c2 x y) (S V0) (k 64) (a V0 V1) (k 20) rfl h
theorem QT(h:x=min (y-1) z)(i:z≤p-0)(j:p≤7):x≤100:=gJ (c7 x y (y-1) z (min (y-1) z) p (p-0)) V0 (k 100) V0 V4 V3 V6 V5 (k 7) (a V4 V6) (a V3 V5) rfl (Nat.le_of_eq h) i j (Nat.add_le_add (Nat.min_le_right (y-1) z) (Nat.sub_le p 0))
theorem QU(h:0<x):x=x-1+1:=Nat.le_antisymm (aJ (c2 x (x-1)) V0 (S V1) V0 (S V1) rfl (eO x 1)) (aJ (c2 x (x-1)) (S V1) V0 (S V1) V0 rfl (bU (a:=x) (b:=1) (aJ (c2 x (x-1)) K1 V0 (a K0 K1) V0 rfl h)))
theorem QV(h:x=y)(i:y≤z-0)(j:z≤7):x≤100:=gJ (c4 x y z (z-0)) V0 (k 100) V0 V1 V1 V3 V2 (k 7) V3 V2 rfl (Nat.le_of_eq h) i j (Nat.sub_le z 0)
theorem QW(h:x=y)(i:y≤z-0)(j:z≤7):x+1≤100:=gJ (c4 x y z (z-0)) (S V0) (k 100) V0 V1 V1 V3 V2 (k 7) V3 V2 rfl (Nat.le_of_eq h) i j (Nat.sub_le z 0)
theorem QX(h:x=y+1)(i:y=z)(j:z≤p-0)(b:p≤7):x≤20:=gJ (c5 x y z p (p-0)) V0 (k 20) V0 (S V1) V1 V2 V2 V4 (a V3 V4) (a (k 7) V3) rfl (Nat.le_of_eq h) (Nat.le_of_eq i) j (Nat.add_le_add b (Nat.sub_le p 0))
theorem QY(h:x=min (y-1) y):x≤y:=aQ (c4 x y (y-1) (min (y-1) y)) V0 V1 V0 V3 V3 V1 rfl (Nat.le_of_eq h) (Nat.min_le_right (y-1) y)
theorem QZ(h:x≤y)(i:y≤z-0)(j:z≤7):x≤100:=gJ (c4 x y z (z-0)) V0 (k 100) V0 V1 V1 V3 V2 (k 7) V3 V2 rfl h i j (Nat.sub_le z 0)
theorem Q2:x≤x-1+1:=aJ (c2 x (x-1)) V0 (S V1) V0 (S V1) rfl (eO x 1)
theorem Q3(h:x≤7):0+(2*(x-0)+1+0)≤20:=aQ (c2 x (x-0)) (a K0 (a (a (m 2 V1) K1) K0)) (k 20) (m 2 V0) (m 2 (k 7)) (m 2 V1) (m 2 V0) rfl (Nat.mul_le_mul_left 2 h) (Nat.mul_le_mul_left 2 (Nat.sub_le x 0))
theorem Q8(h:z=y+1)(i:x<z):x≤y:=aQ (c3 z y x) V2 V1 V0 (S V1) (S V2) V0 rfl (Nat.le_of_eq h) i
theorem Q9(h:y=z)(i:x≤y)(j:z≤20):x<1000:=dc (c3 y z x) (S V2) (k 1000) V0 V1 V2 V0 V1 (k 20) rfl (Nat.le_of_eq h) i j
theorem Ra(h:x≤20)(i:y≤z)(j:z≤20):x+y<1048576:=dc (c3 x y z) (S (a V0 V1)) (k 1048576) V0 (k 20) V1 V2 V2 (k 20) rfl h i j
theorem Rb(h:x≤10+2*y)(i:y≤20):x<800:=aQ (c2 x y) (S V0) (k 800) V0 (a (k 10) (m 2 V1)) (m 2 V1) (m 2 (k 20)) rfl h (Nat.mul_le_mul_left 2 i)
theorem Rc(h:x≤10+2*z)(i:y≤20)(j:z≤20):x+1+y<800:=dc (c3 x z y) (a (a (S V0) V2) K1) (k 800) V0 (a (k 10) (m 2 V1)) V2 (k 20) (m 2 V1) (m 2 (k 20)) rfl h i (Nat.mul_le_mul_left 2 j)
theorem Rd(h:x≤y+1)(i:¬x≤y):x=y+1:=Nat.le_antisymm (aJ (c2 x y) V0 (S V1) V0 (S V1) rfl h) (aJ (c2 x y) (S V1) V0 (S V1) V0 rfl (Nat.lt_of_not_le i))
theorem Rf(h:x≤p+1+z)(i:p≤10+2*y)(j:0<z):x≤10+2*(y+z):=dc (c4 x p z y) V0 (a (k 10) (m 2 (a V3 V2))) V0 (a (S V1) V2) V1 (a (k 10) (m 2 V3)) (a K0 K1) V2 rfl h i j
theorem Rg(h:y=30-x)(i:x≤z)(j:z≤20):30-(x+1)<y:=dc (c5 y x (30-x) z (30-(x+1))) (S V4) V0 V2 V0 (k 30) (a V2 V1) (a V4 (S V1)) (k 30) rfl (bh h) (eO 30 x) (bU (a:=30) (b:=(x+1)) (aQ (c5 y x (30-x) z (30-(x+1))) (S V1) (k 30) V1 V3 V3 (k 20) rfl i j))
theorem Rh:x+(y+1)=x+1+y:=Nat.le_antisymm (uz (c2 x y) (a V0 (S V1)) (a (S V0) V1) rfl) (uz (c2 x y) (a (S V0) V1) (a V0 (S V1)) rfl)
theorem Ri(h:x+(y+1)≤z)(i:z≤x):False:=bD (aQ (c3 x y z) K1 K0 (a V0 (S V1)) V2 V2 V0 rfl h i)
theorem Rj:0+x≤x:=uz (c1 x) (a K0 V0) V0 rfl
theorem Rk(h:x≤y)(i:y≤20):x*20≤400:=aQ (c2 x y) (r V0 20) (k 400) (m 20 V0) (m 20 V1) (m 20 V1) (m 20 (k 20)) rfl (Nat.mul_le_mul_left 20 h) (Nat.mul_le_mul_left 20 i)
theorem Rl(h:x≤y+z*20)(i:y≤100)(j:z≤p)(b:p≤20):x≤500:=gJ (c4 x y z p) V0 (k 500) V0 (a V1 (r V2 20)) V1 (k 100) (m 20 V2) (m 20 V3) (m 20 V3) (m 20 (k 20)) rfl h i (Nat.mul_le_mul_left 20 j) (Nat.mul_le_mul_left 20 b)
theorem Rm(h:x≤500)(i:y≤z)(j:z≤p)(b:p≤20):x+y<1000:=gJ (c4 x y z p) (S (a V0 V1)) (k 1000) V0 (k 500) V1 V2 V2 V3 V3 (k 20) rfl h i j b
theorem Ro(h:x≤y+z)(i:y+p<800)(j:z<p):x<900:=dc (c4 x y z p) (S V0) (k 900) V0 (a V1 V2) (S (a V1 V3)) (k 800) (S V2) V3 rfl h i j
theorem Rp(h:y<z-x):x+y<z:=(Nat.le_total z x).elim (λu1=>bD (aQ (c4 y z x (z-x)) K1 K0 (S V0) V3 V3 K0 rfl h (wO (a:=z) (b:=x) (aJ (c4 y z x (z-x)) V1 V2 V1 V2 rfl u1)))) (λu1=>aQ (c4 y z x (z-x)) (S (a V2 V0)) V1 (S V0) V3 (a V3 V2) V1 rfl h (bU (a:=z) (b:=x) (aJ (c4 y z x (z-x)) V2 V1 V2 V1 rfl u1)))
theorem Rq(h:z≤y)(i:x<z+(y-z)):x<y:=aQ (c4 z y x (y-z)) (S V2) V1 (S V2) (a V0 V3) (a V3 V0) V1 rfl i (bU (a:=y) (b:=z) (aJ (c4 z y x (y-z)) V0 V1 V0 V1 rfl h))
theorem Rr(h:x<z):x<y+(z-y):=aQ (c4 x z y (z-y)) (S V0) (a V2 V3) (S V0) V1 V1 (a V3 V2) rfl h (eO z y)
theorem Rt(h:y≤z)(i:z<y+0):x=0:=bD (aQ (c3 y z x) K1 K0 V0 V1 (S V1) (a V0 K0) rfl h i)
theorem Ru(h:x=0):max x 0=0:=Nat.le_antisymm (aJ (c2 x (max x 0)) V1 K0 V1 K0 rfl (Yn (a:=x) (b:=0) (aJ (c2 x (max x 0)) V0 K0 V0 K0 rfl (Nat.le_of_eq h)))) (uz (c2 x (max x 0)) K0 V1 rfl)
theorem Rv(h:x+z≤y)(i:0<z):x<y:=aQ (c3 x z y) (S V0) V2 (a V0 V1) V2 (a K0 K1) V1 rfl h i
theorem Rw(h:y+z≤q)(i:q≤p):x+(y+z)≤x+p:=aQ (c5 y z q p x) (a V4 (a V0 V1)) (a V4 V3) (a V0 V1) V2 V2 V3 rfl h i
theorem Rx(h:x≤y):x≤max y z:=aQ (c4 x y z (max y z)) V0 V3 V0 V1 V1 V3 rfl h (Nat.le_max_left y z)
theorem Ry(h:x=z)(i:y≤z):x=max y z:=Nat.le_antisymm (aQ (c4 x z y (max y z)) V0 V3 V0 V1 V1 V3 rfl (Nat.le_of_eq h) (Nat.le_max_right y z)) (aQ (c4 x z y (max y z)) V3 V0 V1 V0 V3 V1 rfl (bh h) (Yn (a:=y) (b:=z) (aJ (c4 x z y (max y z)) V2 V1 V2 V1 rfl i)))
theorem Rz(h:x=y)(i:¬y≤z):x=max y z:=Nat.le_antisymm (aQ (c4 x y z (max y z)) V0 V3 V0 V1 V1 V3 rfl (Nat.le_of_eq h) (Nat.le_max_left y z)) (aQ (c4 x y z (max y z)) V3 V0 V1 V0 V3 V1 rfl (bh h) (Yo (a:=y) (b:=z) (aJ (c4 x y z (max y z)) V2 V1 (S V2) V1 rfl (Nat.lt_of_not_le i))))
theorem RA(h:x=0+1)(i:1≤y)(j:y<x):False:=bD (dc (c2 x y) K1 K0 V0 (a K0 K1) K1 V1 (S V1) V0 rfl (Nat.le_of_eq h) i j)
theorem RB(h:z=y+1)(i:z<x):¬x≤y:=λu1=>bD (cP 1 (dc (c3 z y x) (m 2 K1) (a (m 2 K0) K1) (S V1) V0 (S V0) V2 V2 V1 rfl (bh h) i u1))
theorem RC(h:x+1=y)(i:y=0):False:=bD (aQ (c2 x y) K1 K0 (S V0) V1 V1 K0 rfl (Nat.le_of_eq h) (Nat.le_of_eq i))
theorem RD(h:x+1=y)(i:y=0):x=0:=Nat.le_antisymm (aQ (c2 x y) V0 K0 (S V0) V1 V1 K0 rfl (Nat.le_of_eq h) (Nat.le_of_eq i)) (uz (c2 x y) K0 V0 rfl)
theorem RE(h:y+1<x):¬x≤y:=λu1=>bD (aQ (c2 y x) K1 K0 (S (a V0 K1)) V1 V1 V0 rfl h u1)
theorem RG(h:x+1=y)(i:x≤z)(j:z+1<y):False:=bD (dc (c3 x y z) K1 K0 V1 (S V0) V0 V2 (S (a V2 K1)) V1 rfl (bh h) i j)
theorem RJ(h:y=x+1):¬x+1<y:=λu1=>bD (aQ (c2 y x) K1 K0 V0 (S V1) (S (a V1 K1)) V0 rfl (Nat.le_of_eq h) u1)
theorem RM(h:x+1=y)(i:x≤z+1)(j:z+1<y)(b:¬y=z+1+1):False:=(Nat.lt_or_gt_of_ne b).elim (λu1=>bD (aQ (c3 x y z) K1 K0 (S (a V2 K1)) V1 (S V1) (S (a V2 K1)) rfl j u1)) (λu1=>bD (dc (c3 x y z) K1 K0 V1 (S V0) V0 (S V2) (a (S (a V2 K1)) K1) V1 rfl (bh h) i u1))
theorem RN(h:z=x+1+1)(i:y<z):¬x+1<y:=λu1=>bD (dc (c3 z x y) K1 K0 V0 (S (a V1 K1)) (S V2) V0 (S (a V1 K1)) V2 rfl (Nat.le_of_eq h) i u1)
theorem RO(h:¬x=y+1)(i:¬x≤y):2≤x:=(Nat.lt_or_gt_of_ne h).elim (λu1=>aQ (c2 y x) (k 2) V1 (m 2 (S V0)) (m 2 V1) (S V1) (S V0) rfl (Nat.mul_le_mul_left 2 (Nat.lt_of_not_le i)) u1) (λu1=>aJ (c2 y x) (k 2) V1 (S (a V0 K1)) V1 rfl u1)
theorem RP(h:x+1=z)(i:z≤y+1):x≤y:=aQ (c3 x z y) V0 V2 (S V0) V1 V1 (S V2) rfl (Nat.le_of_eq h) i
theorem RQ(h:x+1=y)(i:x≤z)(j:¬y=z+1)(b:¬y≤z):False:=(Nat.lt_or_gt_of_ne j).elim (λu1=>bD (aQ (c3 x y z) K1 K0 (S V2) V1 (S V1) (S V2) rfl (Nat.lt_of_not_le b) u1)) (λu1=>bD (dc (c3 x y z) K1 K0 V1 (S V0) V0 V2 (S (a V2 K1)) V1 rfl (bh h) i u1))
theorem RT(h:x≤y):x<1+y:=aJ (c2 x y) (S V0) (a K1 V1) V0 V1 rfl h
theorem RU(h:x=0)(i:2≤1+x):False:=bD (aQ (c1 x) K1 K0 V0 K0 (k 2) (a K1 V0) rfl (Nat.le_of_eq h) i)
theorem RV:x<y+(x+1-y):=aJ (c3 x y (x+1-y)) (S V0) (a V1 V2) (S V0) (a V2 V1) rfl (eO (x+1) y)
theorem RW(h:y<(z-x+1)/2):x+y*2<z:=(Nat.le_total z x).elim (λu1=>bD (dc (c5 y z x (z-x) ((z-x+1)/2)) K1 K0 (m 2 (S V0)) (m 2 V4) V3 K0 (m 2 V4) (S V3) rfl (Nat.mul_le_mul_left 2 h) (wO (a:=z) (b:=x) (aJ (c5 y z x (z-x) ((z-x+1)/2)) V1 V2 V1 V2 rfl u1)) (gQ (z-x+1) 2))) (λu1=>dc (c5 y z x (z-x) ((z-x+1)/2)) (a (a V2 (r V0 2)) K1) V1 (m 2 (S V0)) (m 2 V4) (a V3 V2) V1 (m 2 V4) (S V3) rfl (Nat.mul_le_mul_left 2 h) (bU (a:=z) (b:=x) (aJ (c5 y z x (z-x) ((z-x+1)/2)) V2 V1 V2 V1 rfl u1)) (gQ (z-x+1) 2))
theorem RX(h:x=y)(i:z≤14)(j:y<(z-p+1)/2):x<1048576:=cP 1 (gJ (c6 x y z p (z-p) ((z-p+1)/2)) (m 2 (S V0)) (a (m 2 (k 1048576)) K1) (m 2 V0) (m 2 V1) V2 (k 14) (m 2 (S V1)) (m 2 V5) (a V4 (m 2 V5)) (a V2 (S V4)) rfl (Nat.mul_le_mul_left 2 (Nat.le_of_eq h)) i (Nat.mul_le_mul_left 2 j) (Nat.add_le_add (Nat.sub_le z p) (gQ (z-p+1) 2)))
theorem RY(h:x=(y-z+1)/2)(i:y≤14):x≤7:=cP 1 (gJ (c5 x y z (y-z) ((y-z+1)/2)) (m 2 V0) (a (m 2 (k 7)) K1) (m 2 V0) (m 2 V4) V1 (k 14) V3 V1 (m 2 V4) (S V3) rfl (Nat.mul_le_mul_left 2 (Nat.le_of_eq h)) i (Nat.sub_le y z) (gQ (y-z+1) 2))
theorem RZ:min 14 x+6<1048576:=aJ (c2 x (min 14 x)) (a (a V1 (k 6)) K1) (k 1048576) V1 (k 14) rfl (Nat.min_le_left 14 x)
theorem Sa:1≤min 14 (x+(0+1+1+1+1+1+1)):=(Nat.le_total 14 (x+(0+1+1+1+1+1+1))).elim (λu1=>aJ (c2 x (min 14 (x+(0+1+1+1+1+1+1)))) K1 V1 (k 14) V1 rfl (Yp (a:=14) (b:=(x+(0+1+1+1+1+1+1))) (aJ (c2 x (min 14 (x+(0+1+1+1+1+1+1)))) (k 14) (a V0 (a (a (a (a (S (a K0 K1)) K1) K1) K1) K1)) (k 14) (a V0 (a (a (a (a (S (a K0 K1)) K1) K1) K1) K1)) rfl u1))) (λu1=>aJ (c2 x (min 14 (x+(0+1+1+1+1+1+1)))) K1 V1 (a V0 (a (a (a (a (S (a K0 K1)) K1) K1) K1) K1)) V1 rfl (mn2 (a:=14) (b:=(x+(0+1+1+1+1+1+1))) (aJ (c2 x (min 14 (x+(0+1+1+1+1+1+1)))) (a V0 (a (a (a (a (S (a K0 K1)) K1) K1) K1) K1)) (k 14) (a V0 (a (a (a (a (S (a K0 K1)) K1) K1) K1) K1)) (k 14) rfl u1)))
theorem Sb(h:x≤20):x+1<100:=aJ (c1 x) (S (a V0 K1)) (k 100) V0 (k 20) rfl h
theorem Sd(h:x≤0)(i:y<x):False:=bD (aQ (c2 x y) K1 K0 V0 K0 (S V1) V0 rfl h i)
theorem Se(h:z≤y+1)(i:x<z):x≤y:=aQ (c3 z y x) V2 V1 V0 (S V1) (S V2) V0 rfl h i
theorem Sf(h:z+x=p)(i:p<y):x<y:=aQ (c4 z x p y) (S V1) V3 (a V0 V1) V2 (S V2) V3 rfl (Nat.le_of_eq h) i
theorem Sg(h:x+z=p)(i:p<y):x<y:=aQ (c4 x z p y) (S V0) V3 (a V0 V1) V2 (S V2) V3 rfl (Nat.le_of_eq h) i
theorem Sh(h:x=y)(i:0<y):x-1<x:=aJ (c3 x y (x-1)) (S V2) V0 (S V2) V0 rfl (bU (a:=x) (b:=1) (aQ (c3 x y (x-1)) K1 V0 V1 V0 (a K0 K1) V1 rfl (bh h) i))
theorem Si(h:y+1=z)(i:x=z):x-1=y:=Nat.le_antisymm (dc (c4 y z x (x-1)) V3 V0 V1 (S V0) V2 V1 (S V3) V2 rfl (bh h) (Nat.le_of_eq i) (bU (a:=x) (b:=1) (aQ (c4 y z x (x-1)) K1 V2 (S V0) V1 V1 V2 rfl (Nat.le_of_eq h) (bh i)))) (dc (c4 y z x (x-1)) V0 V3 (S V0) V1 V1 V2 V2 (S V3) rfl (Nat.le_of_eq h) (bh i) (eO x 1))
theorem Sj(h:¬0<x):x=0:=Nat.le_antisymm (aJ (c1 x) V0 K0 V0 K0 rfl (Nat.le_of_not_lt h)) (uz (c1 x) K0 V0 rfl)
theorem Sk:x<y+1+x:=uz (c2 x y) (S V0) (a (S V1) V0) rfl
theorem Sl(h:¬y=0):x<y+x:=(Nat.lt_or_gt_of_ne h).elim (λu1=>aJ (c2 x y) (S V0) (a V1 V0) (S V1) K0 rfl u1) (λu1=>aJ (c2 x y) (S V0) (a V1 V0) (a K0 K1) V1 rfl u1)
theorem Sm(h:x=0)(i:z<y):x<y:=aQ (c3 x z y) (S V0) V2 V0 K0 (S V1) V2 rfl (Nat.le_of_eq h) i
theorem Sn(h:z<y)(i:x<z∨x=z∧(p<q∨p=q∧s≤t)):x<y:=i.elim (λu1=>aQ (c3 z y x) (S V2) V1 (S V0) V1 (S V2) V0 rfl h u1) (λu1=>aQ (c3 z y x) (S V2) V1 (S V0) V1 V2 V0 rfl h (Nat.le_of_eq u1.1))
theorem So(h:y=0)(i:x≤y):x=0:=Nat.le_antisymm (aQ (c2 y x) V1 K0 V0 K0 V1 V0 rfl (Nat.le_of_eq h) i) (uz (c2 y x) K0 V1 rfl)
theorem Sp(h:x=0)(i:y≤x)(j:0<y):False:=bD (dc (c2 x y) K1 K0 V0 K0 V1 V0 (a K0 K1) V1 rfl (Nat.le_of_eq h) i j)
theorem Sq(h:x=y)(i:y<x):False:=bD (aQ (c2 x y) K1 K0 V0 V1 (S V1) V0 rfl (Nat.le_of_eq h) i)
theorem Ss(h:x+1<x∨x+1=x∧(y<y-1∨y=y-1∧z≤z-1)):False:=h.elim (λu1=>bD (aJ (c1 x) K1 K0 (S (a V0 K1)) V0 rfl u1)) (λu1=>bD (aJ (c1 x) K1 K0 (S V0) V0 rfl (Nat.le_of_eq u1.1)))
theorem Su(h:x≤(y-1)/2):x≤y:=cP 1 (dc (c4 x y (y-1) ((y-1)/2)) (m 2 V0) (a (m 2 V1) K1) (m 2 V0) (m 2 V3) V2 V1 (m 2 V3) V2 rfl (Nat.mul_le_mul_left 2 h) (Nat.sub_le y 1) (gQ (y-1) 2))
theorem Sv(h:y<x):¬(x-1)/2=x:=λu1=>bD (cP 1 (gJ (c4 y x (x-1) ((x-1)/2)) (m 2 K1) (a (m 2 K0) K1) (S V0) V1 (m 2 V1) (m 2 V3) (S V2) V1 (m 2 V3) V2 rfl h (Nat.mul_le_mul_left 2 (bh u1)) (bU (a:=x) (b:=1) (aJ (c4 y x (x-1) ((x-1)/2)) K1 V1 (S V0) V1 rfl h)) (gQ (x-1) 2)))
theorem Sw(h:x<y+1)(i:z<x):(x-1)/2<y:=cP 1 (dc (c5 x y z (x-1) ((x-1)/2)) (m 2 (S V4)) (a (m 2 V1) K1) (S V0) (S V1) (S V3) V0 (m 2 V4) V3 rfl h (bU (a:=x) (b:=1) (aJ (c5 x y z (x-1) ((x-1)/2)) K1 V0 (S V2) V0 rfl i)) (gQ (x-1) 2))
theorem Sx(h:y<(x-1)/2):¬((x-1)/2-1)/2=(x-1)/2:=λu1=>bD (cP 1 (gJ (c6 y x (x-1) ((x-1)/2) ((x-1)/2-1) (((x-1)/2-1)/2)) (m 2 K1) (a (m 2 K0) K1) (S V0) V3 (m 2 V3) (m 2 V5) (S V4) V3 (m 2 V5) V4 rfl h (Nat.mul_le_mul_left 2 (bh u1)) (bU (a:=((x-1)/2)) (b:=1) (aJ (c6 y x (x-1) ((x-1)/2) ((x-1)/2-1) (((x-1)/2-1)/2)) K1 V3 (S V0) V3 rfl h)) (gQ ((x-1)/2-1) 2)))
theorem Sy(h:y<x):¬((x-1)/2-1)/2=x:=λu1=>bD (cP 3 (gJ (c6 y x (x-1) ((x-1)/2) ((x-1)/2-1) (((x-1)/2-1)/2)) (m 4 K1) (a (m 4 K0) (k 3)) (m 3 (S V0)) (m 3 V1) (m 4 V1) (m 4 V5) (S V2) V1 (a (m 2 V3) (a (m 2 V4) (m 2 (m 2 V5)))) (a V2 (a (m 2 V3) (m 2 V4))) rfl (Nat.mul_le_mul_left 3 h) (Nat.mul_le_mul_left 4 (bh u1)) (bU (a:=x) (b:=1) (aJ (c6 y x (x-1) ((x-1)/2) ((x-1)/2-1) (((x-1)/2-1)/2)) K1 V1 (S V0) V1 rfl h)) (Nat.add_le_add (gQ (x-1) 2) (Nat.add_le_add (Nat.mul_le_mul_left 2 (Nat.sub_le ((x-1)/2) 1)) (Nat.mul_le_mul_left 2 (gQ ((x-1)/2-1) 2))))))
theorem Sz(h:(x-1)/2=(y-1)/2)(i:z<(y-1)/2):¬x=(y-1)/2:=λu1=>bD (cP 1 (gJ (c7 x (x-1) ((x-1)/2) y (y-1) ((y-1)/2) z) (m 2 K1) (a (m 2 K0) K1) (m 2 V5) (m 2 V2) (S V6) V5 V0 V5 (a (S V1) (m 2 V2)) (a V0 V1) rfl (Nat.mul_le_mul_left 2 (bh h)) i (Nat.le_of_eq u1) (Nat.add_le_add (bU (a:=x) (b:=1) (aQ (c7 x (x-1) ((x-1)/2) y (y-1) ((y-1)/2) z) K1 V0 (S V6) V5 V5 V0 rfl i (bh u1))) (gQ (x-1) 2))))
theorem SA(h:z≤(x-1)/2)(i:0<x)(j:¬z<y):¬x=y:=λu1=>bD (cP 1 (gJ (c5 z x (x-1) ((x-1)/2) y) (m 2 K1) (a (m 2 K0) K1) (m 2 V0) (m 2 V3) (a K0 K1) V1 (m 2 V4) (m 2 V0) (a (m 2 V1) (a (S V2) (m 2 V3))) (a (m 2 V4) (a V1 V2)) rfl (Nat.mul_le_mul_left 2 h) i (Nat.mul_le_mul_left 2 (Nat.le_of_not_lt j)) (Nat.add_le_add (Nat.mul_le_mul_left 2 (Nat.le_of_eq u1)) (Nat.add_le_add (bU (a:=x) (b:=1) (aJ (c5 z x (x-1) ((x-1)/2) y) K1 V1 (a K0 K1) V1 rfl i)) (gQ (x-1) 2)))))
theorem SD(h:z≤2*y+1)(i:0<x)(j:x<z):¬(x-1)/2=y:=λu1=>bD (gJ (c5 z y x (x-1) ((x-1)/2)) K1 K0 V0 (a (m 2 V1) K1) (S V2) V0 (m 2 V1) (m 2 V4) (a (S V3) (m 2 V4)) (a V2 V3) rfl h j (Nat.mul_le_mul_left 2 (bh u1)) (Nat.add_le_add (bU (a:=x) (b:=1) (aJ (c5 z y x (x-1) ((x-1)/2)) K1 V2 (a K0 K1) V2 rfl i)) (gQ (x-1) 2)))
theorem SG(h:(x-1)/2=y)(i:0<x):¬x=y:=λu1=>bD (cP 1 (gJ (c4 x (x-1) ((x-1)/2) y) (m 2 K1) (a (m 2 K0) K1) (m 2 V3) (m 2 V2) (a K0 K1) V0 (m 2 V0) (m 2 V3) (a (S V1) (m 2 V2)) (a V0 V1) rfl (Nat.mul_le_mul_left 2 (bh h)) i (Nat.mul_le_mul_left 2 (Nat.le_of_eq u1)) (Nat.add_le_add (bU (a:=x) (b:=1) (aJ (c4 x (x-1) ((x-1)/2) y) K1 V0 (a K0 K1) V0 rfl i)) (gQ (x-1) 2))))
theorem SH(h:x≤(y-1)/2)(i:0<y):x<y:=cP 1 (dc (c4 x y (y-1) ((y-1)/2)) (m 2 (S V0)) (a (m 2 V1) K1) (m 2 V0) (m 2 V3) (S V2) V1 (m 2 V3) V2 rfl (Nat.mul_le_mul_left 2 h) (bU (a:=y) (b:=1) (aJ (c4 x y (y-1) ((y-1)/2)) K1 V1 (a K0 K1) V1 rfl i)) (gQ (y-1) 2))
theorem SI(h:(x-1)/2=y)(i:0<y):¬x=y:=λu1=>bD (cP 1 (gJ (c4 x (x-1) ((x-1)/2) y) (m 2 K1) (a (m 2 K0) K1) (m 2 V3) (m 2 V2) (a K0 K1) V3 V0 V3 (a (S V1) (m 2 V2)) (a V0 V1) rfl (Nat.mul_le_mul_left 2 (bh h)) i (Nat.le_of_eq u1) (Nat.add_le_add (bU (a:=x) (b:=1) (aQ (c4 x (x-1) ((x-1)/2) y) K1 V0 (a K0 K1) V3 V3 V0 rfl i (bh u1))) (gQ (x-1) 2))))
theorem SJ(h:(y-1)/2=z)(i:(z-1)/2=p)(j:x≤p):x≤(y-1)/2:=cP 1 (gJ (c y (c (y-1) (c ((y-1)/2) (c z (c (z-1) (c ((z-1)/2) (c p (c x n)))))))) (m 2 V7) (a (m 2 V2) K1) V3 V2 (m 2 V6) (m 2 V5) (m 2 V7) (m 2 V6) (a V4 (m 2 V5)) (a V3 V4) rfl (bh h) (Nat.mul_le_mul_left 2 (bh i)) (Nat.mul_le_mul_left 2 j) (Nat.add_le_add (Nat.sub_le z 1) (gQ (z-1) 2)))
theorem SK(h:(x-1)/2=z)(i:(z-1)/2=y)(j:0<z):¬(x-1)/2=y:=λu1=>bD (cP 1 (gJ (c7 x (x-1) ((x-1)/2) z (z-1) ((z-1)/2) y) (m 2 K1) (a (m 2 K0) K1) (m 2 V3) (m 2 V2) (m 2 V6) (m 2 V5) (a K0 K1) V3 (a (m 2 V2) (a (S V4) (m 2 V5))) (a (m 2 V6) (a V3 V4)) rfl (Nat.mul_le_mul_left 2 (bh h)) (Nat.mul_le_mul_left 2 (bh i)) j (Nat.add_le_add (Nat.mul_le_mul_left 2 (Nat.le_of_eq u1)) (Nat.add_le_add (bU (a:=z) (b:=1) (aJ (c7 x (x-1) ((x-1)/2) z (z-1) ((z-1)/2) y) K1 V3 (a K0 K1) V3 rfl j)) (gQ (z-1) 2)))))
theorem SM(h:¬x=0):(x-1)/2<x:=(Nat.lt_or_gt_of_ne h).elim (λu1=>aQ (c3 x (x-1) ((x-1)/2)) (S V2) V0 (S V1) V0 (m 2 V2) V1 rfl (bU (a:=x) (b:=1) (aJ (c3 x (x-1) ((x-1)/2)) K1 V0 (S V0) K0 rfl u1)) (gQ (x-1) 2)) (λu1=>aQ (c3 x (x-1) ((x-1)/2)) (S V2) V0 (S V1) V0 (m 2 V2) V1 rfl (bU (a:=x) (b:=1) (aJ (c3 x (x-1) ((x-1)/2)) K1 V0 (a K0 K1) V0 rfl u1)) (gQ (x-1) 2))
theorem SN(h:z=x)(i:z=p)(j:p≤y):x≤y:=dc (c4 z x p y) V1 V3 V1 V0 V0 V2 V2 V3 rfl (bh h) (Nat.le_of_eq i) j
theorem SO(h:x≤y-1)(i:0<y):x<y:=aQ (c3 x y (y-1)) (S V0) V1 V0 V2 (S V2) V1 rfl h (bU (a:=y) (b:=1) (aJ (c3 x y (y-1)) K1 V1 (a K0 K1) V1 rfl i))
theorem SP(h:z=y-1)(i:x≤z)(j:0<y):x+1≤y:=dc (c4 z y (y-1) x) (S V3) V1 V0 V2 V3 V0 (S V2) V1 rfl (Nat.le_of_eq h) i (bU (a:=y) (b:=1) (aJ (c4 z y (y-1) x) K1 V1 (a K0 K1) V1 rfl j))
theorem SQ(h:x≤y)(i:y<1000):x<1048576:=aQ (c2 x y) (S V0) (k 1048576) V0 V1 (S V1) (k 1000) rfl h i
theorem SR(h:y=z)(i:x≤y)(j:z≤20):x<1048576:=dc (c3 y z x) (S V2) (k 1048576) V0 V1 V2 V0 V1 (k 20) rfl (Nat.le_of_eq h) i j
theorem SS(h:x≤20)(i:y≤20):x+y<900:=aQ (c2 x y) (S (a V0 V1)) (k 900) V0 (k 20) V1 (k 20) rfl h i
theorem SW(h:x=y)(i:y<64):x≤16777216+1:=aQ (c2 x y) V0 (a (k 16777216) K1) V0 V1 (S V1) (k 64) rfl (Nat.le_of_eq h) i
theorem SX(h:¬x<2):1≤x:=aJ (c1 x) K1 V0 (k 2) V0 rfl (Nat.le_of_not_lt h)
theorem SY(h:y-x=0)(i:x≤y):x=y:=Nat.le_antisymm (aJ (c3 y x (y-x)) V1 V0 V1 V0 rfl i) (aQ (c3 y x (y-x)) V0 V1 V2 K0 V0 (a V2 V1) rfl (Nat.le_of_eq h) (eO y x))
theorem S0(h:y-x=z+1):x<y:=(Nat.le_total y x).elim (λu1=>bD (aQ (c4 y x (y-x) z) K1 K0 (S V3) V2 V2 K0 rfl (bh h) (wO (a:=y) (b:=x) (aJ (c4 y x (y-x) z) V0 V1 V0 V1 rfl u1)))) (λu1=>aQ (c4 y x (y-x) z) (S V1) V0 (S V3) V2 (a V2 V1) V0 rfl (bh h) (bU (a:=y) (b:=x) (aJ (c4 y x (y-x) z) V1 V0 V1 V0 rfl u1)))
theorem S3(h:z-y=p+1)(i:x=min y z):x=y:=(Nat.le_total z y).elim (λu1=>bD (aQ (c6 z y (z-y) p x (min y z)) K1 K0 (S V3) V2 V2 K0 rfl (bh h) (wO (a:=z) (b:=y) (aJ (c6 z y (z-y) p x (min y z)) V0 V1 V0 V1 rfl u1)))) (λu1=>Nat.le_antisymm (aQ (c6 z y (z-y) p x (min y z)) V4 V1 V4 V5 V5 V1 rfl (Nat.le_of_eq i) (Nat.min_le_left y z)) (aQ (c6 z y (z-y) p x (min y z)) V1 V4 V5 V4 V1 V5 rfl (bh i) (Yp (a:=y) (b:=z) (aJ (c6 z y (z-y) p x (min y z)) V1 V0 V1 V0 rfl u1))))
theorem S5(h:z-x=p+1)(i:z<y):x<y:=(Nat.le_total z x).elim (λu1=>bD (aQ (c5 z x (z-x) p y) K1 K0 (S V3) V2 V2 K0 rfl (bh h) (wO (a:=z) (b:=x) (aJ (c5 z x (z-x) p y) V0 V1 V0 V1 rfl u1)))) (λu1=>aQ (c5 z x (z-x) p y) (S V1) V4 (S V0) V4 V1 V0 rfl i u1)
theorem S7(h:x-y=z+1):x-(y+1)=z:=(Nat.le_total x y).elim (λu1=>Nat.le_antisymm (aJ (c5 x y (x-y) z (x-(y+1))) V4 V3 V4 K0 rfl (wO (a:=x) (b:=(y+1)) (aJ (c5 x y (x-y) z (x-(y+1))) V0 (S V1) V0 V1 rfl u1))) (aQ (c5 x y (x-y) z (x-(y+1))) V3 V4 (S V3) V2 V2 K0 rfl (bh h) (wO (a:=x) (b:=y) (aJ (c5 x y (x-y) z (x-(y+1))) V0 V1 V0 V1 rfl u1)))) (λu1=>Nat.le_antisymm (dc (c5 x y (x-y) z (x-(y+1))) V4 V3 V2 (S V3) V0 (a V2 V1) (a V4 (S V1)) V0 rfl (Nat.le_of_eq h) (eO x y) (bU (a:=x) (b:=(y+1)) (aQ (c5 x y (x-y) z (x-(y+1))) (S V1) V0 (S V3) V2 (a V2 V1) V0 rfl (bh h) (bU (a:=x) (b:=y) (aJ (c5 x y (x-y) z (x-(y+1))) V1 V0 V1 V0 rfl u1))))) (dc (c5 x y (x-y) z (x-(y+1))) V3 V4 (S V3) V2 (a V2 V1) V0 V0 (a V4 (S V1)) rfl (bh h) (bU (a:=x) (b:=y) (aJ (c5 x y (x-y) z (x-(y+1))) V1 V0 V1 V0 rfl u1)) (eO x (y+1))))
theorem S8(h:y-x=z+1):x+1≤y:=(Nat.le_total y x).elim (λu1=>bD (aQ (c4 y x (y-x) z) K1 K0 (S V3) V2 V2 K0 rfl (bh h) (wO (a:=y) (b:=x) (aJ (c4 y x (y-x) z) V0 V1 V0 V1 rfl u1)))) (λu1=>aQ (c4 y x (y-x) z) (S V1) V0 (S V3) V2 (a V2 V1) V0 rfl (bh h) (bU (a:=y) (b:=x) (aJ (c4 y x (y-x) z) V1 V0 V1 V0 rfl u1)))
theorem S9(h:x≤150+100*y):x+1+1+1≤100+100*(y+1):=aJ (c2 x y) (a (S (a V0 K1)) K1) (a (k 100) (m 100 (S V1))) V0 (a (k 150) (m 100 V1)) rfl h
theorem Tc(h:x≤y)(i:z≤20)(j:y<z):x<1048576:=dc (c3 x y z) (S V0) (k 1048576) V0 V1 V2 (k 20) (S V1) V2 rfl h i j
theorem Td(h:z≤7)(i:p<z)(j:q=s+1)(b:s≤p)(o:y<q)(h5:x≤8*p):x+y<1048576:=gJ (c6 z p q s y x) (S (a V5 V4)) (k 1048576) (m 9 V0) (m 9 (k 7)) (m 9 (S V1)) (m 9 V0) V2 (S V3) (a V3 (a (S V4) V5)) (a V1 (a V2 (m 8 V1))) rfl (Nat.mul_le_mul_left 9 h) (Nat.mul_le_mul_left 9 i) (Nat.le_of_eq j) (Nat.add_le_add b (Nat.add_le_add o h5))
theorem Te(h:x≤8*y)(i:y≤7):x<1048576:=aQ (c2 x y) (S V0) (k 1048576) V0 (m 8 V1) (m 8 V1) (m 8 (k 7)) rfl h (Nat.mul_le_mul_left 8 i)
theorem Tf(h:x=min z y):x≤y:=aQ (c4 x z y (min z y)) V0 V2 V0 V3 V3 V2 rfl (Nat.le_of_eq h) (Nat.min_le_right z y)
theorem Tg(h:x≤150+100*y):x≤100+100*(y+1):=aJ (c2 x y) V0 (a (k 100) (m 100 (S V1))) V0 (a (k 150) (m 100 V1)) rfl h
theorem Th(h:x≤150+100*y)(i:y≤60):x<8000:=aQ (c2 x y) (S V0) (k 8000) V0 (a (k 150) (m 100 V1)) (m 100 V1) (m 100 (k 60)) rfl h (Nat.mul_le_mul_left 100 i)
theorem Ti(h:x<1048576)(i:y<1048576):x+y≤16777216+1:=aQ (c2 x y) (a V0 V1) (a (k 16777216) K1) (S V0) (k 1048576) (S V1) (k 1048576) rfl h i
theorem Tj(h:x≤310+10*y)(i:y≤60):x<1000:=aQ (c2 x y) (S V0) (k 1000) V0 (a (k 310) (m 10 V1)) (m 10 V1) (m 10 (k 60)) rfl h (Nat.mul_le_mul_left 10 i)
theorem Tn(h:x+y≤500):x<4000:=aJ (c2 x y) (S V0) (k 4000) (a V0 V1) (k 500) rfl h
theorem To(h:x+(1+z)=p):x+(y+(z-0+0))+1=p+y:=Nat.le_antisymm (aQ (c5 x z p y (z-0)) (a (a V0 (a V3 (a V4 K0))) K1) (a V2 V3) (a V0 (a K1 V1)) V2 V4 V1 rfl (Nat.le_of_eq h) (Nat.sub_le z 0)) (aQ (c5 x z p y (z-0)) (a V2 V3) (a (a V0 (a V3 (a V4 K0))) K1) V2 (a V0 (a K1 V1)) V1 (a V4 K0) rfl (bh h) (eO z 0))
theorem Tp(h:x+1=y):x≤y:=aJ (c2 x y) V0 V1 (S V0) V1 rfl (Nat.le_of_eq h)
theorem Tq(h:y+1=z)(i:x+z≤500):x+1+y≤500:=aQ (c3 y z x) (a (S V2) V0) (k 500) (S V0) V1 (a V2 V1) (k 500) rfl (Nat.le_of_eq h) i
theorem Tr(h:x≤20)(i:y≤z*21):1+x+y≤(z+1)*21:=aQ (c3 x y z) (a (a K1 V0) V1) (r (S V2) 21) V0 (k 20) V1 (r V2 21) rfl h i
theorem Tt(h:x≤y*21)(i:y≤20):0+(x+0)≤500:=aQ (c2 x y) (a K0 (a V0 K0)) (k 500) V0 (r V1 21) (m 21 V1) (m 21 (k 20)) rfl h (Nat.mul_le_mul_left 21 i)
theorem Tu(h:x≤y)(i:y≤z)(j:z≤20):x<1048576:=dc (c3 x y z) (S V0) (k 1048576) V0 V1 V1 V2 V2 (k 20) rfl h i j
theorem Tv(h:q+s≤z)(i:x≤q-p)(j:y≤z-(q+s))(b:p≤q)(o:0<s):x+(y+1)≤z-p:=gJ (c q (c s (c z (c x (c p (c (q-p) (c y (c (z-(q+s)) (c (z-p) n))))))))) (a V3 (S V6)) V8 V3 V5 V6 V7 (a K0 K1) V1 (a (a V5 V4) (a (a V7 (a V0 V1)) V2)) (a V0 (a V2 (a V8 V4))) rfl i j o (Nat.add_le_add (bU (a:=q) (b:=p) (aJ (c q (c s (c z (c x (c p (c (q-p) (c y (c (z-(q+s)) (c (z-p) n))))))))) V4 V0 V4 V0 rfl b)) (Nat.add_le_add (bU (a:=z) (b:=(q+s)) (aJ (c q (c s (c z (c x (c p (c (q-p) (c y (c (z-(q+s)) (c (z-p) n))))))))) (a V0 V1) V2 (a V0 V1) V2 rfl h)) (eO z p)))
theorem Tw(h:1≤y)(i:x≤z):x+1≤y+z:=aQ (c3 y x z) (S V1) (a V0 V2) K1 V0 V1 V2 rfl h i
theorem Tz(h:y+(z+p)≤20)(i:x≤z):x+1<1048576:=aQ (c4 y z p x) (S (a V3 K1)) (k 1048576) (a V0 (a V1 V2)) (k 20) V3 V1 rfl h i
theorem TA:x<x+(2*(y-z)+1):=uz (c4 x y z (y-z)) (S V0) (a V0 (a (m 2 V3) K1)) rfl
theorem TF(h:x+(y+(2*(z-p)+1))≤20):x+y≤20:=aJ (c5 x y z p (z-p)) (a V0 V1) (k 20) (a V0 (a V1 (a (m 2 V4) K1))) (k 20) rfl h
theorem TG(h:x≤y∨z≤p)(i:p≤q)(j:q+s≤z)(b:y≤t)(o:t+s≤x)(h5:0<s):False:=h.elim (λu1=>bD (gJ (c7 p q s z y t x) K1 K0 V6 V4 V4 V5 (a V5 V2) V6 (a K0 K1) V2 rfl u1 b o h5)) (λu1=>bD (gJ (c7 p q s z y t x) K1 K0 V3 V0 V0 V1 (a V1 V2) V3 (a K0 K1) V2 rfl u1 i j h5))
theorem TH(h:x+(y+z)≤20):x<1000:=aJ (c3 x y z) (S V0) (k 1000) (a V0 (a V1 V2)) (k 20) rfl h
theorem TJ(h:x+(y+z)≤20):x<1048576:=aJ (c3 x y z) (S V0) (k 1048576) (a V0 (a V1 V2)) (k 20) rfl h
theorem TL(h:y+(z+p)≤20)(i:x≤q+1)(j:q≤z):x<1048576:=dc (c5 y z p x q) (S V3) (k 1048576) (a V0 (a V1 V2)) (k 20) V3 (S V4) V4 V1 rfl h i j
theorem TM(h:¬q+z<p):x≤y+z∨p≤q+z:=.inr (aJ (c5 p q z x y) V0 (a V1 V2) V0 (a V1 V2) rfl (Nat.le_of_not_lt h))
theorem TN(h:¬y+z<x):x≤y+z∨p≤q+z:=.inl (aJ (c3 x y z) V0 (a V1 V2) V0 (a V1 V2) rfl (Nat.le_of_not_lt h))
theorem TP:x≤x+2*(y-z)+1:=uz (c4 x y z (y-z)) V0 (a (a V0 (m 2 V3)) K1) rfl
theorem TQ(h:y+(z+p)≤20)(i:x≤z):x<1048576:=aQ (c4 y z p x) (S V3) (k 1048576) (a V0 (a V1 V2)) (k 20) V3 V1 rfl h i
theorem TR(h:¬p<z):x≤y∨z≤p:=.inr (aJ (c4 z p x y) V0 V1 V0 V1 rfl (Nat.le_of_not_lt h))
theorem TS(h:¬y<x):x≤y∨z≤p:=.inl (aJ (c2 x y) V0 V1 V0 V1 rfl (Nat.le_of_not_lt h))
theorem TU(h:x+y≤x∧z+y≤z)(i:0<y):False:=bD (aQ (c3 x y z) K1 K0 (a V0 V1) V0 (a K0 K1) V1 rfl h.1 i)
theorem TV(h:x≤p)(i:z≤q):x+(y+z)≤p+(y+q):=aQ (c5 x p z q y) (a V0 (a V4 V2)) (a V1 (a V4 V3)) V0 V1 V2 V3 rfl h i
theorem TZ(h:x<z):x≤y+(z+p):=aJ (c4 x z y p) V0 (a V2 (a V1 V3)) (S V0) V1 rfl h
theorem T3(h:x<y+z)(i:¬x<y):x-y<z:=aQ (c4 x y z (x-y)) (S V3) V2 (S V0) (a V1 V2) (a V3 V1) V0 rfl h (bU (a:=x) (b:=y) (aJ (c4 x y z (x-y)) V1 V0 V1 V0 rfl (Nat.le_of_not_lt i)))
theorem T6(h:x+y≤s)(i:s+t≤z)(j:0<t):¬(x+y=z∧p+y=q):=λu1=>bD (gJ (c7 x y s t z p q) K1 K0 (a V0 V1) V2 (a V2 V3) V4 (a K0 K1) V3 V4 (a V0 V1) rfl h i j (bh u1.1))
theorem T8(h:z+s≤x)(i:0<y):¬(x+y=z∧p+y=q):=λu1=>bD (dc (c6 z s x y p q) K1 K0 (a V0 V1) V2 (a K0 K1) V3 (a V2 V3) V0 rfl h i (Nat.le_of_eq u1.1))
theorem T9(h:z+s≤t)(i:t+u≤x)(j:0<u):¬(x+y=z∧p+y=q):=λu1=>bD (gJ (c z (c s (c t (c u (c x (c y (c p (c q n)))))))) K1 K0 (a V0 V1) V2 (a V2 V3) V4 (a K0 K1) V3 (a V4 V5) V0 rfl h i j (Nat.le_of_eq u1.1))
theorem Ua(h:0<y):¬(x+y=x∧z+y=z):=λu1=>bD (aQ (c3 y x z) K1 K0 (a K0 K1) V0 (a V1 V0) V1 rfl h (Nat.le_of_eq u1.1))
theorem Ub(h:z+s≤x)(i:0<s):¬(x+y=z∧p+y=q):=λu1=>bD (dc (c6 z s x y p q) K1 K0 (a V0 V1) V2 (a K0 K1) V1 (a V2 V3) V0 rfl h i (Nat.le_of_eq u1.1))
theorem Uc(h:x<y)(i:y<x):False:=bD (aQ (c2 x y) K1 K0 (S V0) V1 (S V1) V0 rfl h i)
theorem Ud(h:x=z)(i:p≤y)(j:z<p):x<y:=dc (c4 x z p y) (S V0) V3 V0 V1 V2 V3 (S V1) V2 rfl (Nat.le_of_eq h) i j
theorem Ue(h:x≤y)(i:z≤7)(j:p≤z)(b:y<p):x<1048576:=gJ (c4 x y z p) (S V0) (k 1048576) V0 V1 V2 (k 7) V3 V2 (S V1) V3 rfl h i j b
theorem Ug(h:x=z)(i:¬y≤z):x<y:=aQ (c3 x z y) (S V0) V2 V0 V1 (S V1) V2 rfl (Nat.le_of_eq h) (Nat.lt_of_not_le i)
theorem Uh(h:x<y+(z+1)):x<y+1+z:=aJ (c3 x y z) (S V0) (a (S V1) V2) (S V0) (a V1 (S V2)) rfl h
theorem Ui(h:y-(0+1)≤x)(i:x<y):x=y-1:=Nat.le_antisymm (aQ (c4 y (y-(0+1)) x (y-1)) V2 V3 (S V2) V0 V0 (S V3) rfl i (eO y 1)) (dc (c4 y (y-(0+1)) x (y-1)) V3 V2 V1 V2 V0 (a V1 (a K0 K1)) (S V3) V0 rfl h (eO y (0+1)) (bU (a:=y) (b:=1) (aJ (c4 y (y-(0+1)) x (y-1)) K1 V0 (S V2) V0 rfl i)))
theorem Uj(h:z<x):x-(y+1)≤x-(y+1)+x-1-z:=dc (c6 z x y (x-(y+1)) (x-(y+1)+x-1) (x-(y+1)+x-1-z)) V3 V5 (S V0) V1 (a V3 V1) (S V4) V4 (a V5 V0) rfl h (eO (x-(y+1)+x) 1) (eO (x-(y+1)+x-1) z)
theorem Uk:¬(x-(y+1)≤x∧x<x):=λu1=>bD (aJ (c3 x y (x-(y+1))) K1 K0 (S V0) V0 rfl u1.2)
theorem Ul(h:x+1-(y+1+1)≤z):x-(y+1)≤z:=(Nat.le_total (x+1) (y+1+1)).elim (λu1=>aJ (c5 x y (x+1-(y+1+1)) z (x-(y+1))) V4 V3 V4 K0 rfl (wO (a:=x) (b:=(y+1)) (aJ (c5 x y (x+1-(y+1+1)) z (x-(y+1))) V0 (S V1) (S V0) (S (a V1 K1)) rfl u1))) (λu1=>dc (c5 x y (x+1-(y+1+1)) z (x-(y+1))) V4 V3 V2 V3 (S V0) (a V2 (S (a V1 K1))) (a V4 (S V1)) V0 rfl h (eO (x+1) (y+1+1)) (bU (a:=x) (b:=(y+1)) (aJ (c5 x y (x+1-(y+1+1)) z (x-(y+1))) (S V1) V0 (S (a V1 K1)) (S V0) rfl u1)))
theorem Um(h:x<y+1)(i:¬x=y):x<y:=(Nat.lt_or_gt_of_ne i).elim (λu1=>aJ (c2 x y) (S V0) V1 (S V0) V1 rfl u1) (λu1=>aQ (c2 x y) (S V0) V1 (m 2 (S V0)) (m 2 (S V1)) (S V1) V0 rfl (Nat.mul_le_mul_left 2 h) u1)
theorem Un(h:0<x):0+x-1-y<x:=aQ (c4 x (0+x-1) y (0+x-1-y)) (S V3) V0 (S V1) (a K0 V0) V3 V1 rfl (bU (a:=(0+x)) (b:=1) (aJ (c4 x (0+x-1) y (0+x-1-y)) K1 (a K0 V0) (a K0 K1) V0 rfl h)) (Nat.sub_le (0+x-1) y)
theorem Uo(h:x≤y):x+(y-x)≤y:=aJ (c3 x y (y-x)) (a V0 V2) V1 (a V2 V0) V1 rfl (bU (a:=y) (b:=x) (aJ (c3 x y (y-x)) V0 V1 V0 V1 rfl h))
theorem Up(h:x≤z+(y-z))(i:z≤y):x≤y:=aQ (c4 x z y (y-z)) V0 V2 V0 (a V1 V3) (a V3 V1) V2 rfl h (bU (a:=y) (b:=z) (aJ (c4 x z y (y-z)) V1 V2 V1 V2 rfl i))
theorem Uq(h:x+1≤y):x+1+(y-(x+1))≤y:=aJ (c3 x y (y-(x+1))) (a (S V0) V2) V1 (a V2 (S V0)) V1 rfl (bU (a:=y) (b:=(x+1)) (aJ (c3 x y (y-(x+1))) (S V0) V1 (S V0) V1 rfl h))
theorem Ur(h:y=z)(i:p+1≤z)(j:x≤p+1+(z-(p+1))):x≤y:=dc (c5 y z p x (z-(p+1))) V3 V0 V1 V0 V3 (a (S V2) V4) (a V4 (S V2)) V1 rfl (bh h) j (bU (a:=z) (b:=(p+1)) (aJ (c5 y z p x (z-(p+1))) (S V2) V1 (S V2) V1 rfl i))
theorem Us(h:1≤x):1+(x-1)≤x:=aJ (c2 x (x-1)) (a K1 V1) V0 (S V1) V0 rfl (bU (a:=x) (b:=1) (aJ (c2 x (x-1)) K1 V0 K1 V0 rfl h))
theorem Ut(h:1≤y)(i:x≤1+(y-1))(j:¬x=y):x<1+(y-1):=(Nat.lt_or_gt_of_ne j).elim (λu1=>aQ (c3 y x (y-1)) (S V1) (a K1 V2) (S V1) V0 V0 (S V2) rfl u1 (eO y 1)) (λu1=>dc (c3 y x (y-1)) (S V1) (a K1 V2) (m 2 V1) (m 2 (a K1 V2)) (S V0) V1 (S V2) V0 rfl (Nat.mul_le_mul_left 2 i) u1 (bU (a:=y) (b:=1) (aJ (c3 y x (y-1)) K1 V0 K1 V0 rfl h)))
theorem Uu(h:1≤y)(i:x≤1+(y-1)):x-1<y:=(Nat.le_total x 1).elim (λu2=>aQ (c4 y x (y-1) (x-1)) (S V3) V0 K1 V0 V3 K0 rfl h (wO (a:=x) (b:=1) (aJ (c4 y x (y-1) (x-1)) V1 K1 V1 K1 rfl u2))) (λu2=>dc (c4 y x (y-1) (x-1)) (S V3) V0 V1 (a K1 V2) (S V2) V0 (S V3) V1 rfl i (bU (a:=y) (b:=1) (aJ (c4 y x (y-1) (x-1)) K1 V0 K1 V0 rfl h)) (bU (a:=x) (b:=1) (aJ (c4 y x (y-1) (x-1)) K1 V1 K1 V1 rfl u2)))
theorem Uv(h:1≤y)(i:x≤1+(y-1))(j:¬x=y):x+1≤y:=(Nat.lt_or_gt_of_ne j).elim (λu1=>aJ (c3 y x (y-1)) (S V1) V0 (S V1) V0 rfl u1) (λu1=>dc (c3 y x (y-1)) (S V1) V0 (m 2 V1) (m 2 (a K1 V2)) (S V0) V1 (m 2 (S V2)) (m 2 V0) rfl (Nat.mul_le_mul_left 2 i) u1 (Nat.mul_le_mul_left 2 (bU (a:=y) (b:=1) (aJ (c3 y x (y-1)) K1 V0 K1 V0 rfl h))))
theorem Uw:¬(0≤x∧x<x):=λu1=>bD (aJ (c1 x) K1 K0 (S V0) V0 rfl u1.2)
theorem Ux(h:1≤x):0+x-1-(x-1)<x:=aQ (c4 x (0+x-1) (x-1) (0+x-1-(x-1))) (S V3) V0 K1 V0 V3 K0 rfl h (wO (a:=(0+x-1)) (b:=(x-1)) (aQ (c4 x (0+x-1) (x-1) (0+x-1-(x-1))) V1 V2 (S V1) (a K0 V0) V0 (S V2) rfl (bU (a:=(0+x)) (b:=1) (aJ (c4 x (0+x-1) (x-1) (0+x-1-(x-1))) K1 (a K0 V0) K1 V0 rfl h)) (eO x 1)))
theorem Uy(h:1≤x)(i:¬x>1):x=1:=Nat.le_antisymm (aJ (c1 x) V0 K1 V0 K1 rfl (Nat.le_of_not_lt i)) (aJ (c1 x) K1 V0 K1 V0 rfl h)
theorem Uz(h:x-z≤0)(i:z≤y):x≤y:=dc (c4 x z (x-z) y) V0 V3 V2 K0 V1 V3 V0 (a V2 V1) rfl h i (eO x z)
theorem UA(h:x≤y)(i:y≤p)(j:p<z):(x+y)/2<z:=cP 1 (gJ (c5 x y p z ((x+y)/2)) (m 2 (S V4)) (a (m 2 V3) K1) V0 V1 (m 2 V1) (m 2 V2) (m 2 (S V2)) (m 2 V3) (m 2 V4) (a V0 V1) rfl h (Nat.mul_le_mul_left 2 i) (Nat.mul_le_mul_left 2 j) (gQ (x+y) 2))
theorem UB(h:x≤y):x≤(x+y)/2:=cP 1 (aQ (c3 x y ((x+y)/2)) (m 2 V0) (a (m 2 V2) K1) V0 V1 (S (a V0 V1)) (a (m 2 V2) (k 2)) rfl h (FY (x+y) 1))
theorem UC(h:x≤y)(i:y≤z):(x+y)/2≤z:=cP 1 (dc (c4 x y z ((x+y)/2)) (m 2 V3) (a (m 2 V2) K1) V0 V1 (m 2 V1) (m 2 V2) (m 2 V3) (a V0 V1) rfl h (Nat.mul_le_mul_left 2 i) (gQ (x+y) 2))
theorem UD(h:y-x≤z+1):(x+y)/2-x≤z:=(Nat.le_total y x).elim (λu1=>aJ (c6 y x (y-x) z ((x+y)/2) ((x+y)/2-x)) V5 V3 V5 K0 rfl (wO (a:=((x+y)/2)) (b:=x) (cP 1 (aQ (c6 y x (y-x) z ((x+y)/2) ((x+y)/2-x)) (m 2 V4) (a (m 2 V1) K1) V0 V1 (m 2 V4) (a V1 V0) rfl u1 (gQ (x+y) 2))))) (λu1=>cP 1 (gJ (c6 y x (y-x) z ((x+y)/2) ((x+y)/2-x)) (m 2 V5) (a (m 2 V3) K1) V2 (S V3) V0 (a V2 V1) (m 2 V4) (a V1 V0) (m 2 (a V5 V1)) (m 2 V4) rfl h (eO y x) (gQ (x+y) 2) (Nat.mul_le_mul_left 2 (bU (a:=((x+y)/2)) (b:=x) (cP 1 (aQ (c6 y x (y-x) z ((x+y)/2) ((x+y)/2-x)) (m 2 V1) (a (m 2 V4) K1) V1 V0 (S (a V1 V0)) (a (m 2 V4) (k 2)) rfl u1 (FY (x+y) 1)))))))
theorem UE(h:¬x≥y):(x+y)/2+1≤y:=cP 1 (aQ (c3 x y ((x+y)/2)) (m 2 (S V2)) (a (m 2 V1) K1) (S V0) V1 (m 2 V2) (a V0 V1) rfl (Nat.lt_of_not_le h) (gQ (x+y) 2))
theorem UG(h:x-y≤z+1):x-((y+x)/2+1)≤z:=(Nat.le_total x y).elim (λu1=>aJ (c6 x y (x-y) z ((y+x)/2) (x-((y+x)/2+1))) V5 V3 V5 K0 rfl (wO (a:=x) (b:=((y+x)/2+1)) (cP 1 (aQ (c6 x y (x-y) z ((y+x)/2) (x-((y+x)/2+1))) (m 2 V0) (a (m 2 (S V4)) K1) V0 V1 (S (a V1 V0)) (a (m 2 V4) (k 2)) rfl u1 (FY (y+x) 1))))) (λu1=>(Nat.le_total x ((y+x)/2+1)).elim (λu3=>aJ (c6 x y (x-y) z ((y+x)/2) (x-((y+x)/2+1))) V5 V3 V5 K0 rfl (wO (a:=x) (b:=((y+x)/2+1)) (aJ (c6 x y (x-y) z ((y+x)/2) (x-((y+x)/2+1))) V0 (S V4) V0 (S V4) rfl u3))) (λu3=>cP 1 (gJ (c6 x y (x-y) z ((y+x)/2) (x-((y+x)/2+1))) (m 2 V5) (a (m 2 V3) K1) V2 (S V3) V0 (a V2 V1) (S (a V1 V0)) (a (m 2 V4) (k 2)) (m 2 (a V5 (S V4))) (m 2 V0) rfl h (eO x y) (FY (y+x) 1) (Nat.mul_le_mul_left 2 (bU (a:=x) (b:=((y+x)/2+1)) (aJ (c6 x y (x-y) z ((y+x)/2) (x-((y+x)/2+1))) (S V4) V0 (S V4) V0 rfl u3))))))
theorem UH(h:y≤z)(i:¬x≥y):(x+y)/2<z:=cP 1 (dc (c4 y z x ((x+y)/2)) (m 2 (S V3)) (a (m 2 V1) K1) (m 2 V0) (m 2 V1) (S V2) V0 (m 2 V3) (a V2 V0) rfl (Nat.mul_le_mul_left 2 h) (Nat.lt_of_not_le i) (gQ (x+y) 2))
theorem UI(h:y≤x):x-(x-y)=y:=Nat.le_antisymm (aQ (c4 y x (x-y) (x-(x-y))) V3 V0 V1 (a V2 V0) (a V3 V2) V1 rfl (eO x y) (bU (a:=x) (b:=(x-y)) (aJ (c4 y x (x-y) (x-(x-y))) V2 V1 V2 V1 rfl (Nat.sub_le x y)))) (aQ (c4 y x (x-y) (x-(x-y))) V0 V3 (a V2 V0) V1 V1 (a V3 V2) rfl (bU (a:=x) (b:=y) (aJ (c4 y x (x-y) (x-(x-y))) V0 V1 V0 V1 rfl h)) (eO x (x-y)))
theorem UJ(h:z=x)(i:z≤y)(j:¬y=x):x<y:=(Nat.lt_or_gt_of_ne j).elim (λu1=>dc (c3 z x y) (S V1) V2 (m 2 V1) (m 2 V0) (m 2 V0) (m 2 V2) (S V2) V1 rfl (Nat.mul_le_mul_left 2 (bh h)) (Nat.mul_le_mul_left 2 i) u1) (λu1=>aJ (c3 z x y) (S V1) V2 (S V1) V2 rfl u1)
theorem UK(h:z=x)(i:z≤y)(j:¬y=x):x≤y-1:=(Nat.lt_or_gt_of_ne j).elim (λu1=>gJ (c4 z x y (y-1)) V1 V3 (m 2 V1) (m 2 V0) (m 2 V0) (m 2 V2) (S V2) V1 V2 (S V3) rfl (Nat.mul_le_mul_left 2 (bh h)) (Nat.mul_le_mul_left 2 i) u1 (eO y 1)) (λu1=>aQ (c4 z x y (y-1)) V1 V3 (S V1) V2 V2 (S V3) rfl u1 (eO y 1))
theorem UL(h:z≤y)(i:x<y+1)(j:¬x=z):x-1<y:=(Nat.lt_or_gt_of_ne j).elim (λu1=>dc (c4 z y x (x-1)) (S V3) V1 V0 V1 (S V2) V0 V3 V2 rfl h u1 (Nat.sub_le x 1)) (λu1=>aQ (c4 z y x (x-1)) (S V3) V1 (S V2) (S V1) (S V3) V2 rfl i (bU (a:=x) (b:=1) (aJ (c4 z y x (x-1)) K1 V2 (S V0) V2 rfl u1)))
theorem UM(h:z≤x)(i:y<z):¬x=y:=λu1=>bD (dc (c3 z x y) K1 K0 V0 V1 (S V2) V0 V1 V2 rfl h i (Nat.le_of_eq u1))
theorem UN(h:x≤1):max (0+1) x≤1:=aJ (c2 x (max (0+1) x)) V1 K1 V1 (a K0 K1) rfl (Yo (a:=(0+1)) (b:=x) (aJ (c2 x (max (0+1) x)) V0 (a K0 K1) V0 K1 rfl h))
theorem UO(h:y≤0):¬x<y:=λu1=>bD (aQ (c2 y x) K1 K0 V0 K0 (S V1) V0 rfl h u1)
theorem UP(h:x≤y+1):(x-1)/2≤y:=cP 1 (dc (c4 x y (x-1) ((x-1)/2)) (m 2 V3) (a (m 2 V1) K1) V0 (S V1) V2 V0 (m 2 V3) V2 rfl h (Nat.sub_le x 1) (gQ (x-1) 2))
theorem UQ(h:x≤150+100*y)(i:y≤60):x<9000:=aQ (c2 x y) (S V0) (k 9000) V0 (a (k 150) (m 100 V1)) (m 100 V1) (m 100 (k 60)) rfl h (Nat.mul_le_mul_left 100 i)
theorem UR(h:x=y)(i:2≤y):0<x:=aQ (c2 x y) (a K0 K1) V0 V1 V0 (k 2) V1 rfl (bh h) i
theorem US(h:x≤p+z)(i:p≤y+1):x≤y+(z+1):=aQ (c4 x p z y) V0 (a V3 (S V2)) V0 (a V1 V2) V1 (S V3) rfl h i
theorem UT(h:x+y<900):x<1000:=aJ (c2 x y) (S V0) (k 1000) (S (a V0 V1)) (k 900) rfl h
theorem UU(h:x≤y+z)(i:y≤p+1)(j:z≤q)(b:p+q<900):x<1000:=gJ (c5 x y z p q) (S V0) (k 1000) V0 (a V1 V2) V1 (S V3) V2 V4 (S (a V3 V4)) (k 900) rfl h i j b
theorem UW(h:y≤p)(i:p≤z):x+y≤x+z:=aQ (c4 y p z x) (a V3 V0) (a V3 V2) V0 V1 V1 V2 rfl h i
theorem UX(h:x≤q+z)(i:q≤y+p):x≤y+(z+1*p):=aQ (c5 x q z y p) V0 (a V3 (a V2 (m 1 V4))) V0 (a V1 V2) V1 (a V3 V4) rfl h i
theorem UY:0+x+y=y+x:=Nat.le_antisymm (uz (c2 x y) (a (a K0 V0) V1) (a V1 V0) rfl) (uz (c2 x y) (a V1 V0) (a (a K0 V0) V1) rfl)
theorem UZ(h:y+z=p):x+y+z=x+p:=Nat.le_antisymm (aJ (c4 y z p x) (a (a V3 V0) V1) (a V3 V2) (a V0 V1) V2 rfl (Nat.le_of_eq h)) (aJ (c4 y z p x) (a V3 V2) (a (a V3 V0) V1) V2 (a V0 V1) rfl (bh h))
theorem U0(h:y<x):x-(y+1)+1=x-y:=Nat.le_antisymm (aQ (c4 y x (x-(y+1)) (x-y)) (S V2) V3 (a V2 (S V0)) V1 V1 (a V3 V0) rfl (bU (a:=x) (b:=(y+1)) (aJ (c4 y x (x-(y+1)) (x-y)) (S V0) V1 (S V0) V1 rfl h)) (eO x y)) (aQ (c4 y x (x-(y+1)) (x-y)) V3 (S V2) V1 (a V2 (S V0)) (a V3 V0) V1 rfl (eO x (y+1)) (bU (a:=x) (b:=y) (aJ (c4 y x (x-(y+1)) (x-y)) V0 V1 (S V0) V1 rfl h)))
theorem U1(h:z+1=p)(i:y=q+z)(j:s=q+p)(b:x+s≤500):x+y≤500:=gJ (c6 z p y q s x) (a V5 V2) (k 500) (S V0) V1 V2 (a V3 V0) (a V3 V1) V4 (a V5 V4) (k 500) rfl (Nat.le_of_eq h) (Nat.le_of_eq i) (bh j) b
theorem U3(h:z+1=p)(i:x=q+z)(j:s=q+p)(b:s≤y):x<y:=gJ (c6 z p x q s y) (S V2) V5 (S V0) V1 V2 (a V3 V0) (a V3 V1) V4 V4 V5 rfl (Nat.le_of_eq h) (Nat.le_of_eq i) (bh j) b
theorem U4(h:y=x+z):x≤y:=aJ (c3 y x z) V1 V0 (a V1 V2) V0 rfl (bh h)
theorem U5(h:y=z)(i:z=x+1):x<y:=aQ (c3 y z x) (S V2) V0 V1 V0 (S V2) V1 rfl (bh h) (bh i)
theorem U6(h:z=y+p)(i:x+z≤500):x+y≤500:=aQ (c4 z y p x) (a V3 V1) (k 500) (a V1 V2) V0 (a V3 V0) (k 500) rfl (bh h) i
theorem U7(h:z=x+1)(i:z≤y):x≤y:=aQ (c3 z x y) V1 V2 (S V1) V0 V0 V2 rfl (bh h) i
theorem U8(h:z=x+p)(i:z≤y):x≤y:=aQ (c4 z x p y) V1 V3 (a V1 V2) V0 V0 V3 rfl (bh h) i
theorem U9(h:y+x≤z)(i:z≤7):x<16:=aQ (c3 y x z) (S V1) (k 16) (a V0 V1) V2 V2 (k 7) rfl h i
theorem Va:x<x+y+1:=uz (c2 x y) (S V0) (S (a V0 V1)) rfl
theorem Vb(h:x≤y)(i:0<x):x-1<y:=aQ (c3 x y (x-1)) (S V2) V1 V0 V1 (S V2) V0 rfl h (bU (a:=x) (b:=1) (aJ (c3 x y (x-1)) K1 V0 (a K0 K1) V0 rfl i))
theorem Vc(h:z+1≤7)(i:x≤8*z)(j:y≤z+1):x+y≤8*(z+1):=dc (c3 z x y) (a V1 V2) (m 8 (S V0)) (S V0) (k 7) V1 (m 8 V0) V2 (S V0) rfl h i j
theorem Vd:3<0+1+1+1+1+1+x:=uz (c1 x) (a (k 3) K1) (a (a (a (a (S (a K0 K1)) K1) K1) K1) V0) rfl
theorem Ve(h:x<1048576)(i:y<1048576):x+y≤16777216:=aQ (c2 x y) (a V0 V1) (k 16777216) (S V0) (k 1048576) (S V1) (k 1048576) rfl h i
theorem Vf(h:y≤7):min x y≤7:=aQ (c3 y x (min x y)) V2 (k 7) V0 (k 7) V2 V0 rfl h (Nat.min_le_right x y)
theorem Vg(h:x=z)(i:z≤4):x+1≤10+2*y:=aQ (c3 x z y) (S V0) (a (k 10) (m 2 V2)) V0 V1 V1 (k 4) rfl (Nat.le_of_eq h) i
theorem Vh:(2*x+2-1)/2=x:=Nat.le_antisymm (cP 1 (aQ (c3 x (2*x+2-1) ((2*x+2-1)/2)) (m 2 V2) (a (m 2 V0) K1) (S V1) (a (m 2 V0) (k 2)) (m 2 V2) V1 rfl (bU (a:=(2*x+2)) (b:=1) (uz (c3 x (2*x+2-1) ((2*x+2-1)/2)) K1 (a (m 2 V0) (k 2)) rfl)) (gQ (2*x+2-1) 2))) (cP 1 (aQ (c3 x (2*x+2-1) ((2*x+2-1)/2)) (m 2 V0) (a (m 2 V2) K1) (a (m 2 V0) (k 2)) (S V1) (S V1) (a (m 2 V2) (k 2)) rfl (eO (2*x+2) 1) (FY (2*x+2-1) 1)))
theorem Vi(h:(x-1)/2=y)(i:0<x)(j:x<z)(b:¬2*y+2<z):x=2*y+1:=Nat.le_antisymm (aQ (c5 x (x-1) ((x-1)/2) y z) V0 (a (m 2 V3) K1) (S V0) V4 V4 (a (m 2 V3) (k 2)) rfl j (Nat.le_of_not_lt b)) (dc (c5 x (x-1) ((x-1)/2) y z) (a (m 2 V3) K1) V0 (m 2 V3) (m 2 V2) (S V1) V0 (m 2 V2) V1 rfl (Nat.mul_le_mul_left 2 (bh h)) (bU (a:=x) (b:=1) (aJ (c5 x (x-1) ((x-1)/2) y z) K1 V0 (a K0 K1) V0 rfl i)) (gQ (x-1) 2))
theorem Vj(h:x<y+1):(x-1)/2<y+1:=cP 1 (dc (c4 x y (x-1) ((x-1)/2)) (m 2 (S V3)) (a (m 2 (S V1)) K1) (S V0) (S V1) V2 V0 (m 2 V3) V2 rfl h (Nat.sub_le x 1) (gQ (x-1) 2))
theorem Vk(h:z=x)(i:y<x/2):x/2-1-y<z:=cP 1 (gJ (c6 z x y (x/2) (x/2-1) (x/2-1-y)) (m 2 (S V5)) (a (m 2 V0) K1) V1 V0 (m 2 V3) V1 V4 V3 (a (S V4) (m 2 V5)) (a V3 (m 2 V4)) rfl (bh h) (gQ x 2) (Nat.sub_le (x/2) 1) (Nat.add_le_add (bU (a:=(x/2)) (b:=1) (aJ (c6 z x y (x/2) (x/2-1) (x/2-1-y)) K1 V3 (S V2) V3 rfl i)) (Nat.mul_le_mul_left 2 (Nat.sub_le (x/2-1) y))))
theorem Vl(h:y<x/2):x/2-1-y+1=x/2-y:=Nat.le_antisymm (dc (c6 y x (x/2) (x/2-1) (x/2-1-y) (x/2-y)) (S V4) V5 (S V3) V2 (a V4 V0) V3 V2 (a V5 V0) rfl (bU (a:=(x/2)) (b:=1) (aJ (c6 y x (x/2) (x/2-1) (x/2-1-y) (x/2-y)) K1 V2 (S V0) V2 rfl h)) (bU (a:=(x/2-1)) (b:=y) (aQ (c6 y x (x/2) (x/2-1) (x/2-1-y) (x/2-y)) V0 V3 (S V0) V2 V2 (S V3) rfl h (eO (x/2) 1))) (eO (x/2) y)) (dc (c6 y x (x/2) (x/2-1) (x/2-1-y) (x/2-y)) V5 (S V4) V2 (S V3) V3 (a V4 V0) (a V5 V0) V2 rfl (eO (x/2) 1) (eO (x/2-1) y) (bU (a:=(x/2)) (b:=y) (aJ (c6 y x (x/2) (x/2-1) (x/2-1-y) (x/2-y)) V0 V2 (S V0) V2 rfl h)))
end
section
open XI CI
theorem Jk(h:¬y+z<x):(↑x:Int)≤(↑y:Int)+(↑z:Int):=eE (c3 (x:Int) (y:Int) (z:Int)) V0 (a V1 V2) V0 (a V1 V2) rfl (ic (Nat.le_of_not_lt h))
theorem Le:-2^40<(↑x:Int):=eE (c1 (x:Int)) (a (ng (k (2^40))) K1) V0 K0 V0 rfl (Int.natCast_nonneg x)
theorem Vm{x:Int}(h:x<2^40):x<2^63:=eE (c1 x) (S V0) (k (2^63)) (S V0) (k (2^40)) rfl h
theorem N2(h:y<x):(↑x:Int)-1=(↑(x-1):Int):=Int.le_antisymm (eE (c3 (y:Int) (x:Int) ((x-1:Nat):Int)) (s V1 K1) V2 V1 (S V2) rfl (ic (eO x 1))) (eE (c3 (y:Int) (x:Int) ((x-1:Nat):Int)) V2 (s V1 K1) (S V2) V1 rfl (ic (bU (a:=x) (b:=1) (Int.ofNat_le.mp (gK (c3 (y:Int) (x:Int) ((x-1:Nat):Int)) K1 V1 (S V0) V1 K0 V0 rfl (ic h) (Int.natCast_nonneg y))))))
theorem Vn(h:x≤7):(↑x:Int)<2^40:=eE (c1 (x:Int)) (S V0) (k (2^40)) V0 (k 7) rfl (ic h)
theorem Vo:max (↑x:Int) 0=(↑x:Int):=Int.le_antisymm (eE (c2 (x:Int) (max (x:Int) 0)) V1 V0 V1 V0 rfl (Hy (a:=(x:Int)) (b:=0) (eE (c2 (x:Int) (max (x:Int) 0)) K0 V0 K0 V0 rfl (Int.natCast_nonneg x)))) (eE (c2 (x:Int) (max (x:Int) 0)) V0 V1 V0 V1 rfl (Int.le_max_left (x:Int) 0))
theorem Vp:0+(↑x:Int)*1=(↑x:Int):=Int.le_antisymm (Af (c1 (x:Int)) (a K0 (r V0 1)) V0 rfl) (Af (c1 (x:Int)) V0 (a K0 (r V0 1)) rfl)
theorem O91{x:Int}(h:0≤x):-2^63≤x:=eE (c1 x) (ng (k (2^63))) V0 K0 V0 rfl h
theorem Lg{x y z:Nat}{p q:Int}(h:p+q=(↑z:Int))(i:p=(↑x:Int))(j:q=(↑y:Int)):x+y=z:=Nat.le_antisymm (Int.ofNat_le.mp (sy (c5 p q (z:Int) (x:Int) (y:Int)) (a V3 V4) V2 (a V0 V1) V2 V3 V0 V4 V1 rfl (Int.le_of_eq h) (jf i) (jf j))) (Int.ofNat_le.mp (sy (c5 p q (z:Int) (x:Int) (y:Int)) V2 (a V3 V4) V2 (a V0 V1) V0 V3 V1 V4 rfl (jf h) (Int.le_of_eq i) (Int.le_of_eq j)))
theorem Lh(h:y+1=x):(↑x:Int)-1=(↑y:Int):=Int.le_antisymm (eE (c2 (y:Int) (x:Int)) (s V1 K1) V0 V1 (S V0) rfl (ic (bh h))) (eE (c2 (y:Int) (x:Int)) V0 (s V1 K1) (S V0) V1 rfl (ic (Nat.le_of_eq h)))
theorem Vq(h:y<x):0<(↑x:Int)-(↑y:Int):=eE (c2 (y:Int) (x:Int)) (a K0 K1) (s V1 V0) (S V0) V1 rfl (ic h)
theorem Vr:(↑x:Int)-(↑y:Int)-1=(↑x:Int)-(↑(y+1):Int):=Int.le_antisymm (Af (c2 (x:Int) (y:Int)) (s (s V0 V1) K1) (s V0 (S V1)) rfl) (Af (c2 (x:Int) (y:Int)) (s V0 (S V1)) (s (s V0 V1) K1) rfl)
theorem Vs(h:¬y<x):¬0<(↑x:Int)-(↑y:Int):=λu1=>cG (gK (c2 (x:Int) (y:Int)) K1 K0 V0 V1 (a K0 K1) (s V0 V1) rfl (ic (Nat.le_of_not_lt h)) u1)
theorem Vt(h:x<y)(i:y<1048576):(↑x:Int)<2^62:=gK (c2 (x:Int) (y:Int)) (S V0) (k (2^62)) (S V0) V1 (S V1) (k 1048576) rfl (ic h) (ic i)
theorem Li:(↑(x+1):Int)-1=(↑x:Int):=Int.le_antisymm (Af (c1 (x:Int)) (s (S V0) K1) V0 rfl) (Af (c1 (x:Int)) V0 (s (S V0) K1) rfl)
theorem Lj(h:x<1048576):(↑x:Int)<2^63:=eE (c1 (x:Int)) (S V0) (k (2^63)) (S V0) (k 1048576) rfl (ic h)
theorem Lk(h:y≤x+1):(↑x:Int)-(↑y:Int)+1=(↑(x+1-y):Int):=Int.le_antisymm (eE (c3 (y:Int) (x:Int) ((x+1-y:Nat):Int)) (a (s V1 V0) K1) V2 (S V1) (a V2 V0) rfl (ic (eO (x+1) y))) (eE (c3 (y:Int) (x:Int) ((x+1-y:Nat):Int)) V2 (a (s V1 V0) K1) (a V2 V0) (S V1) rfl (ic (bU (a:=(x+1)) (b:=y) (Int.ofNat_le.mp (eE (c3 (y:Int) (x:Int) ((x+1-y:Nat):Int)) V0 (S V1) V0 (S V1) rfl (ic h))))))
theorem Ll{x:Int}(h:-2^40<x):-2^63≤x:=eE (c1 x) (ng (k (2^63))) V0 (a (ng (k (2^40))) K1) V0 rfl h
theorem Lm(h:x<y)(i:y<1048576):(↑x:Int).natAbs<2^31:=nabs (n:=2^31) (eE (c2 (x:Int) (y:Int)) (a (k ((-2147483648))) K1) V0 K0 V0 rfl (Int.natCast_nonneg x)) (gK (c2 (x:Int) (y:Int)) (S V0) (k 2147483648) (S V0) V1 (S V1) (k 1048576) rfl (ic h) (ic i))
theorem Vu(h:¬y≤x):(↑x:Int)<(↑y:Int):=eE (c2 (x:Int) (y:Int)) (S V0) V1 (S V0) V1 rfl (ic (Nat.lt_of_not_le h))
theorem Vv(h:x<1048576):¬2^63≤(↑x:Int):=λu1=>cG (gK (c1 (x:Int)) K1 K0 (S V0) (k 1048576) (k (2^63)) V0 rfl (ic h) u1)
theorem Vw:¬(↑x:Int)<0:=λu1=>cG (gK (c1 (x:Int)) K1 K0 (S V0) K0 K0 V0 rfl u1 (Int.natCast_nonneg x))
theorem Vx{x:Int}(h:0≤x)(i:x<2^62):¬(x< -2^63∨x≥2^63):=λu1=>u1.elim (λu2=>cG (gK (c1 x) K1 K0 K0 V0 (S V0) (ng (k (2^63))) rfl h u2)) (λu2=>cG (gK (c1 x) K1 K0 (S V0) (k (2^62)) (k (2^63)) V0 rfl i u2))
theorem Vy{x:Int}(h:¬x=1):¬x-1=0:=λu1=>(Int.lt_or_gt_of_ne h).elim (λu2=>cG (gK (c1 x) K1 K0 K0 (s V0 K1) (S V0) K1 rfl (jf u1) u2)) (λu2=>cG (gK (c1 x) K1 K0 (s V0 K1) K0 (a K1 K1) V0 rfl (Int.le_of_eq u1) u2))
theorem Vz{x:Int}:x=x+(↑0:Int):=Int.le_antisymm (Af (c1 x) V0 (a V0 K0) rfl) (Af (c1 x) (a V0 K0) V0 rfl)
theorem VA(h:x≤y)(i:y≤z)(j:z≤7):(↑x:Int)<2^40:=sy (c3 (x:Int) (y:Int) (z:Int)) (S V0) (k (2^40)) V0 V1 V1 V2 V2 (k 7) rfl (ic h) (ic i) (ic j)
theorem VB(h:x≤y)(i:y≤7):(↑x:Int)<2^40:=gK (c2 (x:Int) (y:Int)) (S V0) (k (2^40)) V0 V1 V1 (k 7) rfl (ic h) (ic i)
theorem VC:(↑x:Int)+(↑y:Int)*1=(↑(x+y):Int):=Int.le_antisymm (Af (c2 (x:Int) (y:Int)) (a V0 (r V1 1)) (a V0 V1) rfl) (Af (c2 (x:Int) (y:Int)) (a V0 V1) (a V0 (r V1 1)) rfl)
theorem VD{x y:Int}(h:y=x):x≤y:=eE (c2 y x) V1 V0 V1 V0 rfl (jf h)
theorem VE{x y z:Int}(h:y≤z)(i:z<x):¬x=y:=λu1=>cG (sy (c3 y z x) K1 K0 V0 V1 (S V1) V2 V2 V0 rfl h i (Int.le_of_eq u1))
theorem VF(h:(↑y:Int)=0)(i:0<y):x=0+1:=cG (gK (c2 (y:Int) (x:Int)) K1 K0 V0 K0 (a K0 K1) V0 rfl (Int.le_of_eq h) (ic i))
theorem VG{x:Int}(h:x=(↑0:Int))(i:x=1):False:=cG (gK (c1 x) K1 K0 V0 K0 K1 V0 rfl (Int.le_of_eq h) (jf i))
theorem VH{x:Nat}{y:Int}{z:Nat}(h:y=(↑z:Int))(i:y=1)(j:x+1=z):x=0:=Nat.le_antisymm (Int.ofNat_le.mp (sy (c3 y (z:Int) (x:Int)) V2 K0 V1 V0 V0 K1 (S V2) V1 rfl (jf h) (Int.le_of_eq i) (ic (Nat.le_of_eq j)))) (Int.ofNat_le.mp (eE (c3 y (z:Int) (x:Int)) K0 V2 K0 V2 rfl (Int.natCast_nonneg x)))
theorem VI{x:Int}{y z:Nat}(h:x=(↑y:Int))(i:z+1=y)(j:z=0):x=1:=Int.le_antisymm (sy (c3 x (y:Int) (z:Int)) V0 K1 V0 V1 V1 (S V2) V2 K0 rfl (Int.le_of_eq h) (ic (bh i)) (ic (Nat.le_of_eq j))) (sy (c3 x (y:Int) (z:Int)) K1 V0 V1 V0 (S V2) V1 K0 V2 rfl (jf h) (ic (Nat.le_of_eq i)) (ic (bh j)))
theorem VJ(h:x≤14):(↑x:Int)<2^40:=eE (c1 (x:Int)) (S V0) (k (2^40)) V0 (k 14) rfl (ic h)
theorem VK(h:x<16):0≤(16-(↑x:Int))*256+(↑y:Int)*16+(↑z:Int):=sy (c3 (x:Int) (y:Int) (z:Int)) K0 (a (a (r (s (k 16) V0) 256) (r V1 16)) V2) (m 256 (S V0)) (m 256 (k 16)) (m 16 K0) (m 16 V1) K0 V2 rfl (uC 256 (ic h)) (uC 16 (Int.natCast_nonneg y)) (Int.natCast_nonneg z)
theorem VL(h:y<16)(i:z<16):(16-(↑x:Int))*256+(↑y:Int)*16+(↑z:Int)<4096+256:=sy (c3 (y:Int) (z:Int) (x:Int)) (a (a (a (r (s (k 16) V2) 256) (r V0 16)) V1) K1) (a (k 4096) (k 256)) (m 16 (S V0)) (m 16 (k 16)) (S V1) (k 16) (m 256 K0) (m 256 V2) rfl (uC 16 (ic h)) (ic i) (uC 256 (Int.natCast_nonneg x))
theorem VM{x:Int}(h:0≤x)(i:x<4096+256):(x/256).natAbs<2^31:=nabs (n:=2^31) (wQ 255 (gK (c2 x (x/256)) (m 256 (a (k ((-2147483648))) K1)) (a (m 256 V1) (k 255)) K0 V0 (S V0) (a (m 256 V1) (k 256)) rfl h (Hx x 255))) (wQ 255 (gK (c2 x (x/256)) (m 256 (S V1)) (a (m 256 (k 2147483648)) (k 255)) (S V0) (a (k 4096) (k 256)) (m 256 V1) V0 rfl i (En x 255)))
theorem VN(h:0<x):0≤(↑x:Int)-1:=eE (c1 (x:Int)) K0 (s V0 K1) (a K0 K1) V0 rfl (ic h)
theorem VO(h:y+x=z)(i:z≤60):(↑x:Int)-1≤63:=sy (c3 (y:Int) (x:Int) (z:Int)) (s V1 K1) (k 63) (a V0 V1) V2 V2 (k 60) K0 V0 rfl (ic (Nat.le_of_eq h)) (ic i) (Int.natCast_nonneg y)
theorem VQ{x y:Int}(h:x≤y)(i:¬x=y):x<y:=(Int.lt_or_gt_of_ne i).elim (λu1=>eE (c2 x y) (S V0) V1 (S V0) V1 rfl u1) (λu1=>gK (c2 x y) (S V0) V1 (m 2 V0) (m 2 V1) (S V1) V0 rfl (uC 2 h) u1)
theorem VS(h:¬0<x):¬(↑x:Int)>0:=λu1=>cG (gK (c1 (x:Int)) K1 K0 V0 K0 (a K0 K1) V0 rfl (ic (Nat.le_of_not_lt h)) u1)
theorem VT{x y z:Int}(h:z≤y)(i:x<z):x≤y:=gK (c3 z y x) V2 V1 V0 V1 (S V2) V0 rfl h i
theorem VU{x y z:Int}(h:¬x<z)(i:¬z<y):¬x<y:=λu1=>cG (sy (c3 z x y) K1 K0 V0 V1 V2 V0 (S V1) V2 rfl (Int.le_of_not_gt h) (Int.le_of_not_gt i) u1)
theorem VV{x y z p q s:Int}(h:y<x∨y=x∧(z<p∨z=p∧q<s)):¬x<y:=λu1=>h.elim (λu2=>cG (gK (c2 x y) K1 K0 (S V1) V0 (S V0) V1 rfl u2 u1)) (λu2=>cG (gK (c2 x y) K1 K0 V1 V0 (S V0) V1 rfl (Int.le_of_eq u2.1) u1))
theorem VW{x y z p q s:Int}(h:y<x∨y=x∧(p<z∨p=z∧s<q)):¬x=y∨¬z<p∧(¬z=p∨¬q<s):=h.elim (λVX=>.inl (λYu=>cG (gK (c6 x y p z q s) K1 K0 (S V1) V0 V0 V1 rfl VX (Int.le_of_eq Yu)))) (λVX=>VX.2.elim (λLn=>.inr (⟨λu22=>cG (gK (c6 x y p z q s) K1 K0 (S V2) V3 (S V3) V2 rfl Ln u22),.inl (λu23=>cG (gK (c6 x y p z q s) K1 K0 (S V2) V3 V3 V2 rfl Ln (Int.le_of_eq u23)))⟩)) (λLn=>.inr (⟨λu25=>cG (gK (c6 x y p z q s) K1 K0 V2 V3 (S V3) V2 rfl (Int.le_of_eq Ln.1) u25),.inr (λu27=>cG (gK (c6 x y p z q s) K1 K0 (S V5) V4 (S V4) V5 rfl Ln.2 u27))⟩)))
theorem VY(h:x<900):(↑x:Int)+1<1000:=eE (c1 (x:Int)) (S (a V0 K1)) (k 1000) (S V0) (k 900) rfl (ic h)
theorem VZ(h:x<1000):(↑x:Int)<2^40:=eE (c1 (x:Int)) (S V0) (k (2^40)) (S V0) (k 1000) rfl (ic h)
theorem V9:-2^40<(↑x:Int)+1:=eE (c1 (x:Int)) (a (ng (k (2^40))) K1) (S V0) K0 V0 rfl (Int.natCast_nonneg x)
theorem Wa(h:x=y+1)(i:y≤z)(j:p≤7)(b:z<p):(↑x:Int)+1<2^40:=OG (c4 (x:Int) (y:Int) (z:Int) (p:Int)) (S (a V0 K1)) (k (2^40)) V0 (S V1) V1 V2 V3 (k 7) (S V2) V3 rfl (ic (Nat.le_of_eq h)) (ic i) (ic j) (ic b)
theorem Wc:max ((↑x:Int)+1-1) 0=(↑x:Int):=Int.le_antisymm (eE (c2 (x:Int) (max ((x:Int)+1-1) 0)) V1 V0 V1 (s (S V0) K1) rfl (Hy (a:=((x:Int)+1-1)) (b:=0) (eE (c2 (x:Int) (max ((x:Int)+1-1) 0)) K0 (s (S V0) K1) K0 V0 rfl (Int.natCast_nonneg x)))) (eE (c2 (x:Int) (max ((x:Int)+1-1) 0)) V0 V1 (s (S V0) K1) V1 rfl (Int.le_max_left ((x:Int)+1-1) 0))
theorem Wd(h:y=z+1)(i:z≤p)(j:q≤7)(b:x<y)(o:p<q):(16-(1+(↑x:Int)*1)).natAbs<2^31:=nabs (n:=2^31) (OG (c5 (y:Int) (z:Int) (p:Int) (q:Int) (x:Int)) (a (k ((-2147483648))) K1) (s (k 16) (a K1 (r V4 1))) V0 (S V1) V1 V2 V3 (k 7) (a (S V4) (S V2)) (a V0 V3) rfl (ic (Nat.le_of_eq h)) (ic i) (ic j) (Int.add_le_add (ic b) (ic o))) (eE (c5 (y:Int) (z:Int) (p:Int) (q:Int) (x:Int)) (a (s (k 16) (a K1 (r V4 1))) K1) (k 2147483648) K0 V4 rfl (Int.natCast_nonneg x))
theorem We(h:z=p+1)(i:p≤x)(j:q≤7)(b:x<q)(o:y<z):((↑x:Int)+1-(1+(↑y:Int)*1)).natAbs<2^31:=nabs (n:=2^31) (sy (c5 (z:Int) (p:Int) (x:Int) (q:Int) (y:Int)) (a (k ((-2147483648))) K1) (s (S V2) (a K1 (r V4 1))) V0 (S V1) V1 V2 (S V4) V0 rfl (ic (Nat.le_of_eq h)) (ic i) (ic o)) (sy (c5 (z:Int) (p:Int) (x:Int) (q:Int) (y:Int)) (a (s (S V2) (a K1 (r V4 1))) K1) (k 2147483648) V3 (k 7) (S V2) V3 K0 V4 rfl (ic j) (ic b) (Int.natCast_nonneg y))
theorem Wf(h:¬20<x+y):(↑x:Int)+(↑y:Int)≤20:=eE (c2 (x:Int) (y:Int)) (a V0 V1) (k 20) (a V0 V1) (k 20) rfl (ic (Nat.le_of_not_lt h))
theorem Wg{x:Int}(h:x<100):x<2^62:=eE (c1 x) (S V0) (k (2^62)) (S V0) (k 100) rfl h
theorem Wh(h:¬x≤63):63<(↑x:Int):=eE (c1 (x:Int)) (a (k 63) K1) V0 (a (k 63) K1) V0 rfl (ic (Nat.lt_of_not_le h))
theorem Wi{x:Int}:0+(x-1)*1=x-1:=Int.le_antisymm (Af (c1 x) (a K0 (r (s V0 K1) 1)) (s V0 K1) rfl) (Af (c1 x) (s V0 K1) (a K0 (r (s V0 K1) 1)) rfl)
theorem Wj(h:¬x=y):¬(↑x:Int)=(↑y:Int):=λu1=>(Nat.lt_or_gt_of_ne h).elim (λu2=>cG (gK (c2 (x:Int) (y:Int)) K1 K0 V1 V0 (S V0) V1 rfl (jf u1) (ic u2))) (λu2=>cG (gK (c2 (x:Int) (y:Int)) K1 K0 V0 V1 (S V1) V0 rfl (Int.le_of_eq u1) (ic u2)))
theorem Wk:¬-1=(↑x:Int):=λu1=>cG (gK (c1 (x:Int)) K1 K0 V0 (k ((-1))) K0 V0 rfl (jf u1) (Int.natCast_nonneg x))
theorem Wl(h:y<x):((↑x:Int)-1)/2=(↑((x-1)/2):Int):=Int.le_antisymm (wQ 1 (sy (c5 (y:Int) (x:Int) (((x:Int)-1)/2) ((x-1:Nat):Int) (((x-1)/2:Nat):Int)) (m 2 V2) (a (m 2 V4) K1) (m 2 V2) (s V1 K1) V1 (S V3) (S V3) (a (m 2 V4) (k 2)) rfl (En ((x:Int)-1) 1) (ic (eO x 1)) (ic (FY (x-1) 1)))) (wQ 1 (sy (c5 (y:Int) (x:Int) (((x:Int)-1)/2) ((x-1:Nat):Int) (((x-1)/2:Nat):Int)) (m 2 V4) (a (m 2 V2) K1) (a (s V1 K1) K1) (a (m 2 V2) (k 2)) (S V3) V1 (m 2 V4) V3 rfl (Hx ((x:Int)-1) 1) (ic (bU (a:=x) (b:=1) (Int.ofNat_le.mp (gK (c5 (y:Int) (x:Int) (((x:Int)-1)/2) ((x-1:Nat):Int) (((x-1)/2:Nat):Int)) K1 V1 (S V0) V1 K0 V0 rfl (ic h) (Int.natCast_nonneg y))))) (ic (gQ (x-1) 2))))
theorem Wm(h:y<x):0≤(↑x:Int)-1:=gK (c2 (y:Int) (x:Int)) K0 (s V1 K1) (S V0) V1 K0 V0 rfl (ic h) (Int.natCast_nonneg y)
theorem Wn{x:Int}(h:x<2^62):x<2^63:=eE (c1 x) (S V0) (k (2^63)) (S V0) (k (2^62)) rfl h
theorem Wo(h:x=y+1):-(↑x:Int)≤-1:=gK (c2 (x:Int) (y:Int)) (ng V0) (k ((-1))) (S V1) V0 K0 V1 rfl (ic (bh h)) (Int.natCast_nonneg y)
theorem Wq{x y:Int}:-2^63≤max (x-y) 0:=eE (c3 x y (max (x-y) 0)) (ng (k (2^63))) V2 K0 V2 rfl (Int.le_max_right (x-y) 0)
theorem Wr{x y:Int}(h:-2^40<y)(i:x<2^40):max (x-y) 0<2^63:=(Int.le_total (x-y) 0).elim (λu1=>eE (c3 y x (max (x-y) 0)) (S V2) (k (2^63)) V2 K0 rfl (OH (a:=(x-y)) (b:=0) (eE (c3 y x (max (x-y) 0)) (s V1 V0) K0 (s V1 V0) K0 rfl u1))) (λu1=>sy (c3 y x (max (x-y) 0)) (S V2) (k (2^63)) (a (ng (k (2^40))) K1) V0 (S V1) (k (2^40)) V2 (s V1 V0) rfl h i (Hy (a:=(x-y)) (b:=0) (eE (c3 y x (max (x-y) 0)) K0 (s V1 V0) K0 (s V1 V0) rfl u1)))
theorem Ws{x:Int}(h:-2^40<x):-9223372036854775808≤x:=eE (c1 x) (k ((-9223372036854775808))) V0 (a (ng (k (2^40))) K1) V0 rfl h
theorem Wu{x:Int}(h:x<2^40):x<9223372036854775808:=eE (c1 x) (S V0) (k 9223372036854775808) (S V0) (k (2^40)) rfl h
theorem Wv{x y:Int}(h:x≤y)(i:y<2^40):x<2^63:=gK (c2 x y) (S V0) (k (2^63)) V0 V1 (S V1) (k (2^40)) rfl h i
theorem Ww{x y:Int}(h:0≤y)(i:y≤x):-2^63≤x:=gK (c2 y x) (ng (k (2^63))) V1 K0 V0 V0 V1 rfl h i
theorem Wx{x y:Int}(h:y≤x):-2^63≤(x-y+1)/2:=wQ 1 (gK (c3 y x ((x-y+1)/2)) (m 2 (ng (k (2^63)))) (a (m 2 V2) K1) V0 V1 (a (a (s V1 V0) K1) K1) (a (m 2 V2) (k 2)) rfl h (Hx (x-y+1) 1))
theorem Wy{x y:Int}(h:0≤y)(i:x<2^40):(x-y+1)/2<2^63:=wQ 1 (sy (c3 y x ((x-y+1)/2)) (m 2 (S V2)) (a (m 2 (k (2^63))) K1) K0 V0 (S V1) (k (2^40)) (m 2 V2) (a (s V1 V0) K1) rfl h i (En (x-y+1) 1))
theorem Wz{x y:Int}(h:0≤y)(i:y≤x):-9223372036854775808≤x+1:=gK (c2 y x) (k ((-9223372036854775808))) (S V1) K0 V0 V0 V1 rfl h i
theorem WA{x:Int}(h:x<2^40):x+1<9223372036854775808:=eE (c1 x) (S (a V0 K1)) (k 9223372036854775808) (S V0) (k (2^40)) rfl h
theorem WB(h:y+z≤x):¬(↑x:Int)<(↑y:Int):=λu1=>cG (sy (c3 (y:Int) (z:Int) (x:Int)) K1 K0 (a V0 V1) V2 (S V2) V0 K0 V1 rfl (ic h) u1 (Int.natCast_nonneg z))
theorem WC{x:Int}(h:0≤x):-9223372036854775808≤x:=eE (c1 x) (k ((-9223372036854775808))) V0 K0 V0 rfl h
theorem WD{x:Int}(h:x<1000):x<9223372036854775808:=eE (c1 x) (S V0) (k 9223372036854775808) (S V0) (k 1000) rfl h
theorem WE{x:Int}(h:x<1000):x≤1152921504606846975:=eE (c1 x) V0 (k 1152921504606846975) (S V0) (k 1000) rfl h
theorem WG{x:Int}(h:x<1000):x≤16777216:=eE (c1 x) V0 (k 16777216) (S V0) (k 1000) rfl h
theorem WH{x:Int}{y:Nat}(h:x<(↑y:Int))(i:y<1048576):x<2^63:=gK (c2 x (y:Int)) (S V0) (k (2^63)) (S V0) V1 (S V1) (k 1048576) rfl h (ic i)
theorem WJ(h:¬2*y+2<x):(↑x:Int)≤2*(↑y:Int)+1+1:=eE (c2 (x:Int) (y:Int)) V0 (a (a (m 2 V1) K1) K1) V0 (a (m 2 V1) (k 2)) rfl (ic (Nat.le_of_not_lt h))
theorem WK(h:¬2*y+1<x):(↑x:Int)≤2*(↑y:Int)+1:=eE (c2 (x:Int) (y:Int)) V0 (a (m 2 V1) K1) V0 (a (m 2 V1) K1) rfl (ic (Nat.le_of_not_lt h))
theorem WL(h:x<1048576):(↑x:Int)/2<2^40:=wQ 1 (gK (c2 (x:Int) ((x:Int)/2)) (m 2 (S V1)) (a (m 2 (k (2^40))) K1) (S V0) (k 1048576) (m 2 V1) V0 rfl (ic h) (En (x:Int) 1))
theorem WM{x y:Int}{z p:Nat}(h:z/2-0≤(p-1)/2)(i:0<p)(j:p<z):x≤y:=cG (OG (c (z:Int) (c ((z/2:Nat):Int) (c ((z/2-0:Nat):Int) (c (p:Int) (c ((p-1:Nat):Int) (c (((p-1)/2:Nat):Int) (c x (c y n)))))))) K1 K0 (m 2 V2) (m 2 V5) (S V3) V0 (S V0) (a (m 2 V1) (k 2)) (a (m 2 V1) (a (S V4) (m 2 V5))) (a (m 2 (a V2 K0)) (a V3 V4)) rfl (uC 2 (ic h)) (ic j) (ic (FY z 1)) (Int.add_le_add (uC 2 (ic (eO (z/2) 0))) (Int.add_le_add (ic (bU (a:=p) (b:=1) (Int.ofNat_le.mp (eE (c (z:Int) (c ((z/2:Nat):Int) (c ((z/2-0:Nat):Int) (c (p:Int) (c ((p-1:Nat):Int) (c (((p-1)/2:Nat):Int) (c x (c y n)))))))) K1 V3 (a K0 K1) V3 rfl (ic i))))) (ic (gQ (p-1) 2)))))
end
end
end
section
open PySem PySem.W
noncomputable def Lp.{u}{α:Type u}(as:Array α)(p:α→Bool)(start:Nat)(stop:Nat):Bool:=
 match Nat.beq start 0,Nat.beq stop as.toList.length with
 |true,true=>R.anyR as.toList p
 |aj,br=>Array.any as p start stop
theorem zu.{u}:@Array.any.{u}=@Lp.{u}:=by
 funext α as p start stop
 unfold Lp
 split
 ·rename_i h1 h2
  have h1:=Nat.eq_of_beq_eq_true h1;have h2:=Nat.eq_of_beq_eq_true h2;subst h1 h2;rw[←R.anyR_eq];exact Array.any_toList.symm
 ·rfl
noncomputable def HG:Builtin:=by
 refine(?k:(f:Builtin)→PySem.W.Fast.tw4202317264376624991=f→Builtin) ?f ?h
 rotate_right
 ·delta PySem.W.Fast.tw4202317264376624991
  rewrite[zu];exact rfl
 ·exact λf aj=>f
theorem Eo:Builtin.«type.__new__»=HG:=by
 rewrite[PySem.W.Fast.te4202317264376624991]
 delta PySem.W.Fast.tw4202317264376624991 HG
 rewrite[zu];exact rfl
noncomputable def WN(id:String):Option Builtin:=
 match Nat.beq (code id) (code "type.__new__")with
 |true=>some HG
 |false=>PySem.W.Fast.tw14364793385576792824 id
theorem HH:treeTable=WN:=by
 funext id
 unfold WN
 split
 ·rename_i h
  have h:=Nat.eq_of_beq_eq_true h;show entriesT.find (code id)=_;rw[h,←Eo]
  kernel_rfl!
 ·rw[PySem.W.Fast.te14364793385576792824]
end
section
set_option maxHeartbeats 4000000
open PySem PySem.W
theorem HJ{d:String→Str}(h:Str.ofString=d)(a:Str)(b:Arguments)(s:String)(k:Nat)(p q:Pos)(r:List Stmt):Stmt.FunctionDef a b (Stmt.Expr (Expr.Constant (Const.str (Str.ofString s)) k p) q::r)=Stmt.FunctionDef a b (Stmt.Expr (Expr.Constant (Const.str (d s)) k p) q::r):=by rw[h]
noncomputable def pL:(List Char→Str)→(String→Str)→Program:=by
 refine(?k:(f:(List Char→Str)→(String→Str)→Program)→(∀g d,(∀l,Str.ofString (String.ofList l)=g l)→Str.ofString=d→Challenge.pw_om0200_01=f g d)→((List Char→Str)→(String→Str)→Program)) ?f ?h
 rotate_right
 ·intro g d hg hd
  delta Challenge.pw_om0200_01
  repeat rewrite[HJ hd]
  repeat rewrite[hg]
  exact rfl
 ·exact λf aj=>f
noncomputable def ak(s:String):Str:=⟨⟨R.mapR Char.toNat (S.toListS s)⟩⟩
theorem Ep:Str.ofString=ak:=by
 funext s
 rw[Str.ofString_eq_byList];unfold Str.ofStringByList ak;rw[←R.mapR_eq,←S.toListS_eq]
noncomputable def Yv(l:List Char):Str:=⟨⟨R.mapR Char.toNat l⟩⟩
theorem HK:(λl=>Str.ofString (String.ofList l))=Yv:=by
 funext l
 rw[Fast.ofString_ofList,R.mapR_eq]
 rfl
noncomputable def pQ:Program:=pL Yv ak
theorem HL:Challenge.pw_om0200_01=pL (λl=>Str.ofString (String.ofList l)) Str.ofString:=by kernel_rfl!
theorem F3:Challenge.pw_om0200_01=pQ:=by
 rw[HL,HK,Ep];rfl
end
section
open PySem PySem.W
noncomputable def eF(i:Nat):Stmt:=pQ.main.body.getD i (.Pass default)
noncomputable def bP(i j:Nat):Stmt:=match eF i with
 | .ClassDef aj br dg body gM kD zw Jl Yw Yx zz9=>body.getD j (.Pass default)
 |s=>s
noncomputable def jo(st:Stmt)(t:Nat):Value:=match st with
 | .FunctionDef aj br body dg gM kD zw Jl Yw Yx=>(match docOf body with|some s=> .str s t|none=> .none)
 |_=> .none
noncomputable def WO(t:Nat):Value:=match eF 5 with
 | .ClassDef aj br dg body gM kD zw Jl Yw Yx zz9=>(match docOf body with|some s=> .str s t|none=> .none)
 |_=> .none
noncomputable def en(P:Params)(k:Str)(t:Nat)(v:Value):DictEntry:=⟨reduceHash (P.strHash k.cps), .str k t,v⟩
noncomputable def jF(st:Stmt)(q:Str)(dfl doc md:Value)(ann:Option Addr)(code:Value):Data:=match st with
 | .FunctionDef name args body aj br dg scope gM kD zw=> .func {name,qualname:=q,params:=args,body:= .stmts body,scope,globals:=3,closure:=[],defaults:=dfl,kwdefaults:= .none,doc,pyModule:=md,annotations:=ann,code,closureTuple:= .none,builtins:=0}
 |_=> .plain
noncomputable def kO2(P:Params):Obj:=⟨.none,none,.dict #[] 0,#[]⟩
noncomputable def Lq(P:Params):Obj:=⟨.type "dict",none,.dict #[en P (ak "__name__") 165 (.str (ak "law_om0200_01") 813),en P (ak "__doc__") 166 .none,en P (ak "__package__") 167 .none,en P (ak "__loader__") 168 (.builtin "__main__.__loader__#opaque"),en P (ak "__spec__") 169 .none,en P (ak "__annotations__") 170 (.ref 6),en P (ak "__builtins__") 171 (.ref 4),en P (ak "__file__") 173 (.str (ak "/claim/cut.py") 172),en P (ak "__cached__") 174 .none,en P (ak "_wall") 193 (.ref 21),en P (ak "_tuplegetter") 252 (.ref 60),en P (ak "Match") 380 (.ref 135),en P (ak "_calculate_ratio") 388 (.ref 145),en P (ak "SequenceMatcher") 574 (.ref 242),en P (ak "_NODE_OUT") 579 (.int (-1) 578),en P (ak "_NODE_DONE") 582 (.int (-2) 581),en P (ak "_NodeInfo") 619 (.ref 265),en P (ak "CycleError") 639 (.ref 280),en P (ak "TopologicalSorter") 765 (.ref 362),en P (ak "heappop") 777 (.ref 373),en P (ak "heapify") 787 (.ref 380),en P (ak "_siftdown") 799 (.ref 387),en P (ak "_siftup") 812 (.ref 394),en P (ak "_law_runs") 829 (.ref 401),en P (ak "_law_turned") 836 (.ref 408),en P (ak "_law_wholly_ahead") 845 (.ref 415),en P (ak "_law_worths") 855 (.ref 422),en P (ak "_law_named") 861 (.ref 427),en P (ak "_law_blocks") 867 (.ref 432),en P (ak "_law_longest") 879 (.ref 439),en P (ak "law") 885 (.ref 444)] 31,#[]⟩
noncomputable def kO7(P:Params):Obj:=⟨.type "tuple",none,.seq #[] 0,#[]⟩
noncomputable def Lr(P:Params):Obj:=⟨.type "code",none,.fields #[.str (ak "__new__") 274,.str (ak "Match.__new__") 275,.str (ak "/claim/cut.py") 276,.int (29) 0,.int (4) 0,.int (0) 0,.int (0) 0,.int (3) 0,.ref 76,.bool true,.int (181) 0,.ref 77, .none,.ref 78,.ref 79,.ref 80,.int (281) 0,.int (29) 0,.str (ak "/claim/cut.py") 282],#[]⟩
noncomputable def uD(P:Params):Obj:=⟨.type "function",none,jF (bP 3 4) (ak "Match.__new__") .none (jo (bP 3 4) 283) (.str (ak "cpy313.difflib") 194) none (.ref 81),#[]⟩
noncomputable def Ls(P:Params):Obj:=⟨.type "code",none,.fields #[.str (ak "_make") 285,.str (ak "Match._make") 286,.str (ak "/claim/cut.py") 287,.int (33) 0,.int (2) 0,.int (0) 0,.int (0) 0,.int (3) 0,.ref 83,.bool true,.int (181) 0,.ref 84, .none,.ref 85,.ref 86,.ref 87,.int (291) 0,.int (33) 0,.str (ak "/claim/cut.py") 292],#[]⟩
noncomputable def uE(P:Params):Obj:=⟨.type "function",none,jF (bP 3 5) (ak "Match._make") .none (jo (bP 3 5) 293) (.str (ak "cpy313.difflib") 194) (some 92) (.ref 88),#[]⟩
noncomputable def WQ(P:Params):Obj:=⟨.type "dict",none,.dict #[en P (ak "__module__") 295 (.str (ak "cpy313.difflib") 194),en P (ak "__name__") 298 (.str (ak "_make") 297),en P (ak "__qualname__") 301 (.str (ak "Match._make") 300),en P (ak "__doc__") 303 (.str (ak "Make a new Match object from a sequence or iterable") 293),en P (ak "__annotations__") 305 (.ref 92)] 5,#[]⟩
noncomputable def WR(P:Params):Obj:=⟨.type "classmethod",some 90,.fields #[.ref 89,.bool false],#[]⟩
noncomputable def WS(P:Params):Obj:=⟨.type "dict",none,.dict #[] 0,#[]⟩
noncomputable def Lu(P:Params):Obj:=⟨.type "dict",none,.dict #[en P (ak "__module__") 260 (.str (ak "cpy313.difflib") 194),en P (ak "__firstlineno__") 264 (.int (23) 263),en P (ak "__doc__") 266 (.str (ak "Match(a, b, size)") 265),en P (ak "__slots__") 268 (.ref 73),en P (ak "_fields") 272 (.ref 74),en P (ak "_field_defaults") 273 (.ref 75),en P (ak "__new__") 284 (.ref 136),en P (ak "_make") 306 (.ref 91),en P (ak "_replace") 317 (.ref 100),en P (ak "__replace__") 318 (.ref 100),en P (ak "__repr__") 326 (.ref 107),en P (ak "_asdict") 333 (.ref 114),en P (ak "__getnewargs__") 341 (.ref 121),en P (ak "__match_args__") 345 (.ref 122),en P (ak "a") 355 (.ref 124),en P (ak "b") 365 (.ref 127),en P (ak "size") 375 (.ref 130),en P (ak "__static_attributes__") 376 (.ref 132)] 2,#[]⟩
noncomputable def F4(P:Params):Obj:=⟨.type "type",none,.cls {name:=(ak "Match"),bases:=[.type "tuple"],mro:=[.ref 135,.type "tuple",.type "object"],ns:=134,qualname:=(ak "Match"),hasDict:=false,slotNames:=[],subclasses:=[],abstract:=false,collection:=none,hasDel:=false},#[some (.ref 65),none,some (.str (ak "Match") 253),some (.str (ak "Match") 261),some .none,some (.bool false)]⟩
noncomputable def Lv(P:Params):Obj:=⟨.type "staticmethod",none,.fields #[.ref 82],#[]⟩
noncomputable def Lw(P:Params):Obj:=⟨.type "tuple",none,.seq #[.none,.str (ak "") 404,.str (ak "") 405,.bool true] 0,#[]⟩
noncomputable def F5(P:Params):Obj:=⟨.type "code",none,.fields #[.str (ak "__init__") 406,.str (ak "SequenceMatcher.__init__") 407,.str (ak "/claim/cut.py") 408,.int (145) 0,.int (5) 0,.int (0) 0,.int (0) 0,.int (3) 0,.ref 154,.bool true,.int (181) 0,.ref 155, .none,.ref 156,.ref 157,.ref 158,.int (414) 0,.int (145) 0,.str (ak "/claim/cut.py") 415],#[]⟩
noncomputable def lD(P:Params):Obj:=⟨.type "function",none,jF (bP 5 1) (ak "SequenceMatcher.__init__") (.ref 153) (jo (bP 5 1) 416) (.str (ak "cpy313.difflib") 194) none (.ref 159),#[]⟩
noncomputable def F6(P:Params):Obj:=⟨.type "code",none,.fields #[.str (ak "set_seqs") 418,.str (ak "SequenceMatcher.set_seqs") 419,.str (ak "/claim/cut.py") 420,.int (173) 0,.int (3) 0,.int (0) 0,.int (0) 0,.int (3) 0,.ref 161,.bool true,.int (181) 0,.ref 162, .none,.ref 163,.ref 164,.ref 165,.int (424) 0,.int (173) 0,.str (ak "/claim/cut.py") 425],#[]⟩
noncomputable def lE(P:Params):Obj:=⟨.type "function",none,jF (bP 5 2) (ak "SequenceMatcher.set_seqs") .none (jo (bP 5 2) 426) (.str (ak "cpy313.difflib") 194) none (.ref 166),#[]⟩
noncomputable def F7(P:Params):Obj:=⟨.type "code",none,.fields #[.str (ak "set_seq1") 428,.str (ak "SequenceMatcher.set_seq1") 429,.str (ak "/claim/cut.py") 430,.int (184) 0,.int (2) 0,.int (0) 0,.int (0) 0,.int (3) 0,.ref 168,.bool true,.int (181) 0,.ref 169, .none,.ref 170,.ref 171,.ref 172,.int (433) 0,.int (184) 0,.str (ak "/claim/cut.py") 434],#[]⟩
noncomputable def lF(P:Params):Obj:=⟨.type "function",none,jF (bP 5 3) (ak "SequenceMatcher.set_seq1") .none (jo (bP 5 3) 435) (.str (ak "cpy313.difflib") 194) none (.ref 173),#[]⟩
noncomputable def F8(P:Params):Obj:=⟨.type "code",none,.fields #[.str (ak "set_seq2") 437,.str (ak "SequenceMatcher.set_seq2") 438,.str (ak "/claim/cut.py") 439,.int (209) 0,.int (2) 0,.int (0) 0,.int (0) 0,.int (3) 0,.ref 175,.bool true,.int (181) 0,.ref 176, .none,.ref 177,.ref 178,.ref 179,.int (442) 0,.int (209) 0,.str (ak "/claim/cut.py") 443],#[]⟩
noncomputable def lG(P:Params):Obj:=⟨.type "function",none,jF (bP 5 4) (ak "SequenceMatcher.set_seq2") .none (jo (bP 5 4) 444) (.str (ak "cpy313.difflib") 194) none (.ref 180),#[]⟩
noncomputable def F9(P:Params):Obj:=⟨.type "code",none,.fields #[.str (ak "__chain_b") 446,.str (ak "SequenceMatcher.__chain_b") 447,.str (ak "/claim/cut.py") 448,.int (236) 0,.int (1) 0,.int (0) 0,.int (0) 0,.int (3) 0,.ref 182,.bool true,.int (181) 0,.ref 183, .none,.ref 184,.ref 185,.ref 186,.int (461) 0,.int (236) 0,.str (ak "/claim/cut.py") 462],#[]⟩
noncomputable def lH(P:Params):Obj:=⟨.type "function",none,jF (bP 5 5) (ak "SequenceMatcher.__chain_b") .none .none (.str (ak "cpy313.difflib") 194) none (.ref 187),#[]⟩
noncomputable def Lx(P:Params):Obj:=⟨.type "tuple",none,.seq #[.int (0) 464, .none,.int (0) 465, .none] 0,#[]⟩
noncomputable def Ga(P:Params):Obj:=⟨.type "code",none,.fields #[.str (ak "find_longest_match") 466,.str (ak "SequenceMatcher.find_longest_match") 467,.str (ak "/claim/cut.py") 468,.int (260) 0,.int (5) 0,.int (0) 0,.int (0) 0,.int (3) 0,.ref 190,.bool true,.int (181) 0,.ref 191, .none,.ref 192,.ref 193,.ref 194,.int (488) 0,.int (260) 0,.str (ak "/claim/cut.py") 489],#[]⟩
noncomputable def lJ(P:Params):Obj:=⟨.type "function",none,jF (bP 5 6) (ak "SequenceMatcher.find_longest_match") (.ref 189) (jo (bP 5 6) 490) (.str (ak "cpy313.difflib") 194) none (.ref 195),#[]⟩
noncomputable def Gb(P:Params):Obj:=⟨.type "code",none,.fields #[.str (ak "get_matching_blocks") 492,.str (ak "SequenceMatcher.get_matching_blocks") 493,.str (ak "/claim/cut.py") 494,.int (335) 0,.int (1) 0,.int (0) 0,.int (0) 0,.int (3) 0,.ref 197,.bool true,.int (181) 0,.ref 198, .none,.ref 199,.ref 200,.ref 201,.int (515) 0,.int (335) 0,.str (ak "/claim/cut.py") 516],#[]⟩
noncomputable def lK(P:Params):Obj:=⟨.type "function",none,jF (bP 5 7) (ak "SequenceMatcher.get_matching_blocks") .none (jo (bP 5 7) 517) (.str (ak "cpy313.difflib") 194) none (.ref 202),#[]⟩
noncomputable def Ly(P:Params):Obj:=⟨.type "dict",none,.dict #[en P (ak "__module__") 396 (.str (ak "cpy313.difflib") 194),en P (ak "__firstlineno__") 400 (.int (70) 399),en P (ak "__doc__") 402 (WO 401),en P (ak "__init__") 417 (.ref 160),en P (ak "set_seqs") 427 (.ref 167),en P (ak "set_seq1") 436 (.ref 174),en P (ak "set_seq2") 445 (.ref 181),en P (ak "_SequenceMatcher__chain_b") 463 (.ref 188),en P (ak "find_longest_match") 491 (.ref 196),en P (ak "get_matching_blocks") 518 (.ref 203),en P (ak "get_opcodes") 525 (.ref 210),en P (ak "get_grouped_opcodes") 534 (.ref 218),en P (ak "ratio") 543 (.ref 225),en P (ak "quick_ratio") 550 (.ref 232),en P (ak "real_quick_ratio") 557 (.ref 239),en P (ak "__static_attributes__") 568 (.ref 240),en P (ak "__dict__") 570 (.ref 243),en P (ak "__weakref__") 572 (.ref 244)] 3,#[]⟩
noncomputable def Lz(P:Params):Obj:=⟨.type "type",none,.cls {name:=(ak "SequenceMatcher"),bases:=[.type "object"],mro:=[.ref 242,.type "object"],ns:=241,qualname:=(ak "SequenceMatcher"),hasDict:=true,slotNames:=[],subclasses:=[],abstract:=false,collection:=none,hasDel:=false},#[none,none,some (.str (ak "SequenceMatcher") 389),some (.str (ak "SequenceMatcher") 397),some (.builtin "object.__new__"),some (.bool true)]⟩
noncomputable def Gd(P:Params):Obj:=⟨.type "code",none,.fields #[.str (ak "__init__") 599,.str (ak "_NodeInfo.__init__") 600,.str (ak "/claim/cut.py") 601,.int (424) 0,.int (2) 0,.int (0) 0,.int (0) 0,.int (3) 0,.ref 255,.bool true,.int (181) 0,.ref 256, .none,.ref 257,.ref 258,.ref 259,.int (604) 0,.int (424) 0,.str (ak "/claim/cut.py") 605],#[]⟩
noncomputable def lM(P:Params):Obj:=⟨.type "function",none,jF (bP 9 1) (ak "_NodeInfo.__init__") .none .none (.str (ak "cpy313.graphlib") 575) none (.ref 260),#[]⟩
noncomputable def LA(P:Params):Obj:=⟨.type "dict",none,.dict #[en P (ak "__module__") 590 (.str (ak "cpy313.graphlib") 575),en P (ak "__firstlineno__") 594 (.int (421) 593),en P (ak "__slots__") 598 (.ref 254),en P (ak "__init__") 606 (.ref 261),en P (ak "__static_attributes__") 610 (.ref 262),en P (ak "node") 612 (.ref 266),en P (ak "npredecessors") 614 (.ref 267),en P (ak "successors") 616 (.ref 268),en P (ak "__doc__") 617 .none] 5,#[]⟩
noncomputable def LB(P:Params):Obj:=⟨.type "type",none,.cls {name:=(ak "_NodeInfo"),bases:=[.type "object"],mro:=[.ref 265,.type "object"],ns:=264,qualname:=(ak "_NodeInfo"),hasDict:=false,slotNames:=[ak "node",ak "npredecessors",ak "successors"],subclasses:=[],abstract:=false,collection:=none,hasDel:=false},#[none,none,some (.str (ak "_NodeInfo") 583),some (.str (ak "_NodeInfo") 591),some (.builtin "object.__new__"),some (.bool false)]⟩
noncomputable def LD(P:Params):Obj:=⟨.type "member_descriptor",none,.fields #[.str (ak "node") 611,.ref 265,.builtin "proto.slot",.builtin "proto.slot#set",.int (2) 0],#[]⟩
noncomputable def LF(P:Params):Obj:=⟨.type "member_descriptor",none,.fields #[.str (ak "npredecessors") 613,.ref 265,.builtin "proto.slot",.builtin "proto.slot#set",.int (1) 0],#[]⟩
noncomputable def LG(P:Params):Obj:=⟨.type "member_descriptor",none,.fields #[.str (ak "successors") 615,.ref 265,.builtin "proto.slot",.builtin "proto.slot#set",.int (0) 0],#[]⟩
noncomputable def LH(P:Params):Obj:=⟨.type "tuple",none,.seq #[.none] 0,#[]⟩
noncomputable def Ge(P:Params):Obj:=⟨.type "code",none,.fields #[.str (ak "__init__") 655,.str (ak "TopologicalSorter.__init__") 656,.str (ak "/claim/cut.py") 657,.int (443) 0,.int (2) 0,.int (0) 0,.int (0) 0,.int (3) 0,.ref 292,.bool true,.int (181) 0,.ref 293, .none,.ref 294,.ref 295,.ref 296,.int (662) 0,.int (443) 0,.str (ak "/claim/cut.py") 663],#[]⟩
noncomputable def lN(P:Params):Obj:=⟨.type "function",none,jF (bP 11 1) (ak "TopologicalSorter.__init__") (.ref 291) .none (.str (ak "cpy313.graphlib") 575) none (.ref 297),#[]⟩
noncomputable def Gf(P:Params):Obj:=⟨.type "code",none,.fields #[.str (ak "_get_nodeinfo") 665,.str (ak "TopologicalSorter._get_nodeinfo") 666,.str (ak "/claim/cut.py") 667,.int (452) 0,.int (2) 0,.int (0) 0,.int (0) 0,.int (3) 0,.ref 299,.bool true,.int (181) 0,.ref 300, .none,.ref 301,.ref 302,.ref 303,.int (671) 0,.int (452) 0,.str (ak "/claim/cut.py") 672],#[]⟩
noncomputable def lO(P:Params):Obj:=⟨.type "function",none,jF (bP 11 2) (ak "TopologicalSorter._get_nodeinfo") .none .none (.str (ak "cpy313.graphlib") 575) none (.ref 304),#[]⟩
noncomputable def Gg(P:Params):Obj:=⟨.type "code",none,.fields #[.str (ak "add") 674,.str (ak "TopologicalSorter.add") 675,.str (ak "/claim/cut.py") 676,.int (457) 0,.int (2) 0,.int (0) 0,.int (0) 0,.int (7) 0,.ref 306,.bool true,.int (181) 0,.ref 307, .none,.ref 308,.ref 309,.ref 310,.int (683) 0,.int (457) 0,.str (ak "/claim/cut.py") 684],#[]⟩
noncomputable def jI(P:Params):Obj:=⟨.type "function",none,jF (bP 11 3) (ak "TopologicalSorter.add") .none (jo (bP 11 3) 685) (.str (ak "cpy313.graphlib") 575) none (.ref 311),#[]⟩
noncomputable def Gh(P:Params):Obj:=⟨.type "code",none,.fields #[.str (ak "prepare") 687,.str (ak "TopologicalSorter.prepare") 688,.str (ak "/claim/cut.py") 689,.int (480) 0,.int (1) 0,.int (0) 0,.int (0) 0,.int (3) 0,.ref 313,.bool true,.int (181) 0,.ref 314, .none, .none, .none,.ref 315,.int (690) 0,.int (480) 0,.str (ak "/claim/cut.py") 691],#[]⟩
noncomputable def lP(P:Params):Obj:=⟨.type "function",none,jF (bP 11 4) (ak "TopologicalSorter.prepare") .none (jo (bP 11 4) 692) (.str (ak "cpy313.graphlib") 575) none (.ref 316),#[]⟩
noncomputable def Gi(P:Params):Obj:=⟨.type "code",none,.fields #[.str (ak "get_ready") 694,.str (ak "TopologicalSorter.get_ready") 695,.str (ak "/claim/cut.py") 696,.int (495) 0,.int (1) 0,.int (0) 0,.int (0) 0,.int (3) 0,.ref 318,.bool true,.int (181) 0,.ref 319, .none,.ref 320,.ref 321,.ref 322,.int (701) 0,.int (495) 0,.str (ak "/claim/cut.py") 702],#[]⟩
noncomputable def lQ(P:Params):Obj:=⟨.type "function",none,jF (bP 11 5) (ak "TopologicalSorter.get_ready") .none (jo (bP 11 5) 703) (.str (ak "cpy313.graphlib") 575) none (.ref 323),#[]⟩
noncomputable def Gj(P:Params):Obj:=⟨.type "code",none,.fields #[.str (ak "is_active") 705,.str (ak "TopologicalSorter.is_active") 706,.str (ak "/claim/cut.py") 707,.int (515) 0,.int (1) 0,.int (0) 0,.int (0) 0,.int (3) 0,.ref 325,.bool true,.int (181) 0,.ref 326, .none,.ref 327,.ref 328,.ref 329,.int (709) 0,.int (515) 0,.str (ak "/claim/cut.py") 710],#[]⟩
noncomputable def lR(P:Params):Obj:=⟨.type "function",none,jF (bP 11 6) (ak "TopologicalSorter.is_active") .none (jo (bP 11 6) 711) (.str (ak "cpy313.graphlib") 575) none (.ref 330),#[]⟩
noncomputable def Gk(P:Params):Obj:=⟨.type "code",none,.fields #[.str (ak "done") 720,.str (ak "TopologicalSorter.done") 721,.str (ak "/claim/cut.py") 722,.int (532) 0,.int (1) 0,.int (0) 0,.int (0) 0,.int (7) 0,.ref 339,.bool true,.int (181) 0,.ref 340, .none,.ref 341,.ref 342,.ref 343,.int (731) 0,.int (532) 0,.str (ak "/claim/cut.py") 732],#[]⟩
noncomputable def jJ(P:Params):Obj:=⟨.type "function",none,jF (bP 11 8) (ak "TopologicalSorter.done") .none (jo (bP 11 8) 733) (.str (ak "cpy313.graphlib") 575) none (.ref 344),#[]⟩
noncomputable def Gl(P:Params):Obj:=⟨.type "code",none,.fields #[.str (ak "_find_cycle") 735,.str (ak "TopologicalSorter._find_cycle") 736,.str (ak "/claim/cut.py") 737,.int (565) 0,.int (1) 0,.int (0) 0,.int (0) 0,.int (3) 0,.ref 346,.bool true,.int (181) 0,.ref 347, .none,.ref 348,.ref 349,.ref 350,.int (745) 0,.int (565) 0,.str (ak "/claim/cut.py") 746],#[]⟩
noncomputable def lS(P:Params):Obj:=⟨.type "function",none,jF (bP 11 9) (ak "TopologicalSorter._find_cycle") .none .none (.str (ak "cpy313.graphlib") 575) none (.ref 351),#[]⟩
noncomputable def LI(P:Params):Obj:=⟨.type "dict",none,.dict #[en P (ak "__module__") 647 (.str (ak "cpy313.graphlib") 575),en P (ak "__firstlineno__") 651 (.int (440) 650),en P (ak "__doc__") 653 (.str (ak "Provides functionality to topologically sort a graph of hashable nodes") 652),en P (ak "__init__") 664 (.ref 298),en P (ak "_get_nodeinfo") 673 (.ref 305),en P (ak "add") 686 (.ref 312),en P (ak "prepare") 693 (.ref 317),en P (ak "get_ready") 704 (.ref 324),en P (ak "is_active") 712 (.ref 331),en P (ak "__bool__") 719 (.ref 338),en P (ak "done") 734 (.ref 345),en P (ak "_find_cycle") 747 (.ref 352),en P (ak "static_order") 754 (.ref 359),en P (ak "__static_attributes__") 759 (.ref 360),en P (ak "__dict__") 761 (.ref 363),en P (ak "__weakref__") 763 (.ref 364)] 3,#[]⟩
noncomputable def LJ(P:Params):Obj:=⟨.type "type",none,.cls {name:=(ak "TopologicalSorter"),bases:=[.type "object"],mro:=[.ref 362,.type "object"],ns:=361,qualname:=(ak "TopologicalSorter"),hasDict:=true,slotNames:=[],subclasses:=[],abstract:=false,collection:=none,hasDel:=false},#[none,none,some (.str (ak "TopologicalSorter") 640),some (.str (ak "TopologicalSorter") 648),some (.builtin "object.__new__"),some (.bool true)]⟩
noncomputable def Gm(P:Params):Obj:=⟨.type "code",none,.fields #[.str (ak "heappop") 768,.str (ak "heappop") 769,.str (ak "/claim/cut.py") 770,.int (597) 0,.int (1) 0,.int (0) 0,.int (0) 0,.int (3) 0,.ref 367,.bool true,.int (181) 0,.ref 368, .none,.ref 369,.ref 370,.ref 371,.int (774) 0,.int (597) 0,.str (ak "/claim/cut.py") 775],#[]⟩
noncomputable def lT(P:Params):Obj:=⟨.type "function",none,jF (eF 13) (ak "heappop") .none (jo (eF 13) 776) (.str (ak "cpy313.heapq") 766) none (.ref 372),#[]⟩
noncomputable def Gn(P:Params):Obj:=⟨.type "code",none,.fields #[.str (ak "heapify") 778,.str (ak "heapify") 779,.str (ak "/claim/cut.py") 780,.int (606) 0,.int (1) 0,.int (0) 0,.int (0) 0,.int (3) 0,.ref 374,.bool true,.int (181) 0,.ref 375, .none,.ref 376,.ref 377,.ref 378,.int (784) 0,.int (606) 0,.str (ak "/claim/cut.py") 785],#[]⟩
noncomputable def lU(P:Params):Obj:=⟨.type "function",none,jF (eF 14) (ak "heapify") .none (jo (eF 14) 786) (.str (ak "cpy313.heapq") 766) none (.ref 379),#[]⟩
noncomputable def Gp(P:Params):Obj:=⟨.type "code",none,.fields #[.str (ak "_siftdown") 788,.str (ak "_siftdown") 789,.str (ak "/claim/cut.py") 790,.int (611) 0,.int (3) 0,.int (0) 0,.int (0) 0,.int (3) 0,.ref 381,.bool true,.int (181) 0,.ref 382, .none,.ref 383,.ref 384,.ref 385,.int (797) 0,.int (611) 0,.str (ak "/claim/cut.py") 798],#[]⟩
noncomputable def lV(P:Params):Obj:=⟨.type "function",none,jF (eF 15) (ak "_siftdown") .none .none (.str (ak "cpy313.heapq") 766) none (.ref 386),#[]⟩
noncomputable def Gq(P:Params):Obj:=⟨.type "code",none,.fields #[.str (ak "_siftup") 800,.str (ak "_siftup") 801,.str (ak "/claim/cut.py") 802,.int (622) 0,.int (2) 0,.int (0) 0,.int (0) 0,.int (3) 0,.ref 388,.bool true,.int (181) 0,.ref 389, .none,.ref 390,.ref 391,.ref 392,.int (810) 0,.int (622) 0,.str (ak "/claim/cut.py") 811],#[]⟩
noncomputable def lW(P:Params):Obj:=⟨.type "function",none,jF (eF 16) (ak "_siftup") .none .none (.str (ak "cpy313.heapq") 766) none (.ref 393),#[]⟩
noncomputable def Gr(P:Params):Obj:=⟨.type "code",none,.fields #[.str (ak "_law_runs") 815,.str (ak "_law_runs") 816,.str (ak "/claim/cut.py") 817,.int (637) 0,.int (2) 0,.int (0) 0,.int (0) 0,.int (3) 0,.ref 395,.bool true,.int (181) 0,.ref 396, .none,.ref 397,.ref 398,.ref 399,.int (827) 0,.int (637) 0,.str (ak "/claim/cut.py") 828],#[]⟩
noncomputable def lX(P:Params):Obj:=⟨.type "function",none,jF (eF 18) (ak "_law_runs") .none .none (.str (ak "law_om0200_01") 813) none (.ref 400),#[]⟩
noncomputable def Gu(P:Params):Obj:=⟨.type "code",none,.fields #[.str (ak "_law_turned") 830,.str (ak "_law_turned") 831,.str (ak "/claim/cut.py") 832,.int (653) 0,.int (1) 0,.int (0) 0,.int (0) 0,.int (3) 0,.ref 402,.bool true,.int (181) 0,.ref 403, .none,.ref 404,.ref 405,.ref 406,.int (834) 0,.int (653) 0,.str (ak "/claim/cut.py") 835],#[]⟩
noncomputable def lY(P:Params):Obj:=⟨.type "function",none,jF (eF 19) (ak "_law_turned") .none .none (.str (ak "law_om0200_01") 813) none (.ref 407),#[]⟩
noncomputable def Gv(P:Params):Obj:=⟨.type "code",none,.fields #[.str (ak "_law_wholly_ahead") 837,.str (ak "_law_wholly_ahead") 838,.str (ak "/claim/cut.py") 839,.int (655) 0,.int (2) 0,.int (0) 0,.int (0) 0,.int (3) 0,.ref 409,.bool true,.int (181) 0,.ref 410, .none,.ref 411,.ref 412,.ref 413,.int (843) 0,.int (655) 0,.str (ak "/claim/cut.py") 844],#[]⟩
noncomputable def lZ(P:Params):Obj:=⟨.type "function",none,jF (eF 20) (ak "_law_wholly_ahead") .none .none (.str (ak "law_om0200_01") 813) none (.ref 414),#[]⟩
noncomputable def Gw(P:Params):Obj:=⟨.type "code",none,.fields #[.str (ak "_law_worths") 846,.str (ak "_law_worths") 847,.str (ak "/claim/cut.py") 848,.int (658) 0,.int (1) 0,.int (0) 0,.int (0) 0,.int (3) 0,.ref 416,.bool true,.int (181) 0,.ref 417, .none,.ref 418,.ref 419,.ref 420,.int (853) 0,.int (658) 0,.str (ak "/claim/cut.py") 854],#[]⟩
noncomputable def l0(P:Params):Obj:=⟨.type "function",none,jF (eF 21) (ak "_law_worths") .none .none (.str (ak "law_om0200_01") 813) none (.ref 421),#[]⟩
noncomputable def Gx(P:Params):Obj:=⟨.type "code",none,.fields #[.str (ak "_law_named") 856,.str (ak "_law_named") 857,.str (ak "/claim/cut.py") 858,.int (667) 0,.int (2) 0,.int (0) 0,.int (0) 0,.int (3) 0,.ref 423,.bool true,.int (181) 0,.ref 424, .none, .none, .none,.ref 425,.int (859) 0,.int (667) 0,.str (ak "/claim/cut.py") 860],#[]⟩
noncomputable def l5(P:Params):Obj:=⟨.type "function",none,jF (eF 22) (ak "_law_named") .none .none (.str (ak "law_om0200_01") 813) none (.ref 426),#[]⟩
noncomputable def Gy(P:Params):Obj:=⟨.type "code",none,.fields #[.str (ak "_law_blocks") 862,.str (ak "_law_blocks") 863,.str (ak "/claim/cut.py") 864,.int (669) 0,.int (2) 0,.int (0) 0,.int (0) 0,.int (3) 0,.ref 428,.bool true,.int (181) 0,.ref 429, .none, .none, .none,.ref 430,.int (865) 0,.int (669) 0,.str (ak "/claim/cut.py") 866],#[]⟩
noncomputable def l6(P:Params):Obj:=⟨.type "function",none,jF (eF 23) (ak "_law_blocks") .none .none (.str (ak "law_om0200_01") 813) none (.ref 431),#[]⟩
noncomputable def Gz(P:Params):Obj:=⟨.type "code",none,.fields #[.str (ak "_law_longest") 868,.str (ak "_law_longest") 869,.str (ak "/claim/cut.py") 870,.int (671) 0,.int (2) 0,.int (0) 0,.int (0) 0,.int (3) 0,.ref 433,.bool true,.int (181) 0,.ref 434, .none,.ref 435,.ref 436,.ref 437,.int (877) 0,.int (671) 0,.str (ak "/claim/cut.py") 878],#[]⟩
noncomputable def l7(P:Params):Obj:=⟨.type "function",none,jF (eF 24) (ak "_law_longest") .none .none (.str (ak "law_om0200_01") 813) none (.ref 438),#[]⟩
noncomputable def GA(P:Params):Obj:=⟨.type "code",none,.fields #[.str (ak "law") 880,.str (ak "law") 881,.str (ak "/claim/cut.py") 882,.int (682) 0,.int (1) 0,.int (0) 0,.int (0) 0,.int (3) 0,.ref 440,.bool true,.int (181) 0,.ref 441, .none, .none, .none,.ref 442,.int (883) 0,.int (682) 0,.str (ak "/claim/cut.py") 884],#[]⟩
noncomputable def l9(P:Params):Obj:=⟨.type "function",none,jF (eF 25) (ak "law") .none .none (.str (ak "law_om0200_01") 813) none (.ref 443),#[]⟩
noncomputable def KF(P:Params):Frag:=[(0,boot_o_0 P),(2,kO2 P),(3,Lq P),(7,kO7 P),(81,Lr P),(82,uD P),(88,Ls P),(89,uE P),(90,WQ P),(91,WR P),(92,WS P),(134,Lu P),(135,F4 P),(136,Lv P),(153,Lw P),(159,F5 P),(160,lD P),(166,F6 P),(167,lE P),(173,F7 P),(174,lF P),(180,F8 P),(181,lG P),(187,F9 P),(188,lH P),(189,Lx P),(195,Ga P),(196,lJ P),(202,Gb P),(203,lK P),(241,Ly P),(242,Lz P),(260,Gd P),(261,lM P),(264,LA P),(265,LB P),(266,LD P),(267,LF P),(268,LG P),(291,LH P),(297,Ge P),(298,lN P),(304,Gf P),(305,lO P),(311,Gg P),(312,jI P),(316,Gh P),(317,lP P),(323,Gi P),(324,lQ P),(330,Gj P),(331,lR P),(344,Gk P),(345,jJ P),(351,Gl P),(352,lS P),(361,LI P),(362,LJ P),(372,Gm P),(373,lT P),(379,Gn P),(380,lU P),(386,Gp P),(387,lV P),(393,Gq P),(394,lW P),(400,Gr P),(401,lX P),(407,Gu P),(408,lY P),(414,Gv P),(415,lZ P),(421,Gw P),(422,l0 P),(426,Gx P),(427,l5 P),(431,Gy P),(432,l6 P),(438,Gz P),(439,l7 P),(443,GA P),(444,l9 P)]
noncomputable def Ag(ok:Thread→Bool)(st:SharedT→Thread→Option (SharedT×Thread)):Nat→SharedT→Thread→Option SharedT
 |0,aj,br=>none
 |n+1,s,t=>match through t with
  |true=>some s
  |false=>match ok t with
   |false=>none
   |true=>match st s t with
    |some (s',t')=>Ag ok st n s' t'
    |none=>none
theorem WT{ok:Thread→Bool}{st:SharedT→Thread→Option (SharedT×Thread)}{n s t}:Ag ok st (n+1) s t=match through t with
 |true=>some s
 |false=>match ok t with
  |false=>none
  |true=>match st s t with
   |some (s',t')=>Ag ok st n s' t'
   |none=>none:=rfl
noncomputable def Yy(m0:Nat)(ann:Option Value):=PySem.W.Fast.tw6613529449190102663 m0 ann
noncomputable def Yz(p:Program)(w:World):=PySem.W.Fast.tw10156331382660048174 (PySem.W.Fast.tw11892475500146522536 WN) p w
noncomputable def bt0(P:Params):BT:=[boot_o_0 P,boot_o_1 P,boot_o_2 P,boot_o_3 P,boot_o_4 P,boot_o_5 P,boot_o_6 P,boot_o_7 P,boot_o_8 P,boot_o_9 P,boot_o_10 P].zipIdx.foldl (λt x=>t.ins x.2 x.1) .nil
noncomputable def s0(w:World)(os:OsState):SharedT:=⟨bt0 w.params,11,{},#[],boot_drawn,boot_toks,os⟩
noncomputable def Er(n:Nat)(w:World)(os:OsState):Option SharedT:=Ag (Yy 11 ((boot_heap w.params).nsMap mainGlobals "__annotations__")) (Yz pQ w) n (s0 w os) (topStub pQ)
end
section
open PySem PySem.W PySem.Calls PyProof.Rows
noncomputable def qV:Program:={pQ with main:={pQ.main with body:=pQ.main.body.drop 25}}
noncomputable def kF:List Str:=[⟨⟨[95,119,97,108,108]⟩⟩,⟨⟨[95,116,117,112,108,101,103,101,116,116,101,114]⟩⟩,⟨⟨[77,97,116,99,104]⟩⟩,⟨⟨[95,99,97,108,99,117,108,97,116,101,95,114,97,116,105,111]⟩⟩,⟨⟨[83,101,113,117,101,110,99,101,77,97,116,99,104,101,114]⟩⟩,⟨⟨[95,78,79,68,69,95,79,85,84]⟩⟩,⟨⟨[95,78,79,68,69,95,68,79,78,69]⟩⟩,⟨⟨[95,78,111,100,101,73,110,102,111]⟩⟩,⟨⟨[67,121,99,108,101,69,114,114,111,114]⟩⟩,⟨⟨[84,111,112,111,108,111,103,105,99,97,108,83,111,114,116,101,114]⟩⟩,⟨⟨[104,101,97,112,112,111,112]⟩⟩,⟨⟨[104,101,97,112,105,102,121]⟩⟩,⟨⟨[95,115,105,102,116,100,111,119,110]⟩⟩,⟨⟨[95,115,105,102,116,117,112]⟩⟩,⟨⟨[95,108,97,119,95,114,117,110,115]⟩⟩,⟨⟨[95,108,97,119,95,116,117,114,110,101,100]⟩⟩,⟨⟨[95,108,97,119,95,119,104,111,108,108,121,95,97,104,101,97,100]⟩⟩,⟨⟨[95,108,97,119,95,119,111,114,116,104,115]⟩⟩,⟨⟨[95,108,97,119,95,110,97,109,101,100]⟩⟩,⟨⟨[95,108,97,119,95,98,108,111,99,107,115]⟩⟩,⟨⟨[95,108,97,119,95,108,111,110,103,101,115,116]⟩⟩]
noncomputable def WU(s:Shared):Bool:=xlAt qV [] s&&recOk [] s
noncomputable def rB:List Addr:=[0,2,3,7,81,82,88,89,90,91,92,134,135,136,153,159,160,166,167,173,174,180,181,187,188,189,195,196,202,203,241,242,260,261,264,265,266,267,268,291,297,298,304,305,311,312,316,317,323,324,330,331,344,345,351,352,361,362,372,373,379,380,386,387,393,394,400,401,407,408,414,415,421,422,426,427,431,432,438,439,443,444]
theorem B8(P:Params):rB=(KF P).map (·.1):=rfl
theorem LK:∀(w:World) (os:OsState),(Er 3600 w os).map (λs=>(staticsOk (importedModules pQ.main.body) (boot_heap w.params) s.abs.heap&&namesBound pQ s.abs.heap&&gensDone s.abs&&laidKept (boot_heap w.params) s.abs.heap,
  openSeen qV kF (importedModules pQ.main.body) WU true s.abs,rB.map s.abs.heap.get?))=some (true,openGood qV kF,(KF w.params).map λp=>some p.2):=λw os=>by kernel_rfl!
theorem rC{tb:String→Option Builtin}{p:Program}{w:World}{m0:Nat}{ann:Option Value}:∀(n:Nat) (s:SharedT) (t:Thread) (s':SharedT),
  Ag (stepOk m0 ann) (stepT (denote tb) p w) n s t=some s'→topRun tb p w m0 ann n s.abs t=some s'.abs
 |0,aj,br,dg,h=>by cases h
 |n+1,s,t,s',h=>by
  rw[WT]at h;unfold topRun;cases ht:through t with
  |true=>rw[ht]at h;cases h;rfl
  |false=>
   rw[ht]at h;cases hk:stepOk m0 ann t with
   |false=>rw[hk]at h;cases h
   |true=>
    rw[hk]at h;cases hs:stepT (denote tb) p w s t with
    |none=>rw[hs]at h;cases h
    |some r=>
     obtain⟨s₂,t₂⟩:=r;rw[hs]at h;dsimp only at h ⊢;rw[stepT_spec hs];exact rC n s₂ t₂ s' h
theorem Es(n:Nat)(w:World)(os:OsState):Er n w os=Ag (stepOk 11 ((boot_heap w.params).nsMap mainGlobals "__annotations__")) (stepT (denote treeTable) pQ w) n (s0 w os) (topStub pQ):=by
 unfold Er Yy Yz;rw[←PySem.W.Fast.te6613529449190102663,←PySem.W.Fast.te10156331382660048174,←PySem.W.Fast.te11892475500146522536,←HH]
theorem HM(w:World)(os:OsState):(s0 w os).abs=⟨boot_heap w.params,#[],boot_drawn,boot_toks,os⟩:=by kernel_rfl!
theorem HN:opening Challenge.pw_om0200_01=plainProg Challenge.pw_om0200_01.main.scope.names:=by kernel_rfl!
theorem HO(s:Shared):fenceModules? Challenge.pw_om0200_01 s=some s:=by kernel_rfl!
theorem HP(w:World):(fencedOpening treeTable Challenge.pw_om0200_01 w 3600).map (λs=>(s.heap,s.gens,s.drawn,s.toks))=some (boot_heap w.params,⟨[]⟩,boot_drawn,boot_toks):=
 boot_open (p:=Challenge.pw_om0200_01) (N:=3600) HN (by decide) HO w
theorem HQ(w:World):(fencedOpening treeTable pQ w 3600).map (λs=>(s.heap,s.gens,s.drawn,s.toks))=some (boot_heap w.params,⟨[]⟩,boot_drawn,boot_toks):=by
 have h:=HP w;rw[F3]at h;exact h
theorem HR(w:World):((boot_heap w.params).isNs mainGlobals&&(⟨[]⟩:Array GenState).size==0)=true:=by kernel_rfl!
theorem HS(w:World):(boot_heap w.params).objs.size=11:=rfl
theorem B9{p q:Program}{loose:List Str}{Xt:Shared→Bool}{α:Type}{Yf:Shared→α}{Ya:World→α}{N:Nat}
  (boot:∀w:World,(fencedOpening treeTable p w N).map (λs=>(s.heap,s.gens,s.drawn,s.toks))=some (boot_heap w.params,⟨[]⟩,boot_drawn,boot_toks))
  (run:∀(w:World) (os:OsState),∃s,topRun treeTable p w 11 ((boot_heap w.params).nsMap mainGlobals "__annotations__") N ⟨boot_heap w.params,⟨[]⟩,boot_drawn,boot_toks,os⟩ (topStub p)=some s∧
   (staticsOk (importedModules p.main.body) (boot_heap w.params) s.heap&&namesBound p s.heap&&gensDone s&&laidKept (boot_heap w.params) s.heap)=true∧
   openSeen q loose (importedModules p.main.body) Xt true s=openGood q loose∧Yf s=Ya w):LeftO p q loose Xt Yf Ya N:=λw=>by
 obtain⟨⟨h,gs,d,k,os⟩,e,e'⟩:=Option.map_eq_some_iff.mp (boot w);obtain⟨rfl,rfl,rfl,rfl⟩:h=boot_heap w.params∧gs=⟨[]⟩∧d=boot_drawn∧k=boot_toks:=by simpa using e'
 obtain⟨s,r,hl,hS,hY⟩:=run w os;have t:topFrom treeTable p w N ⟨boot_heap w.params,⟨[]⟩,boot_drawn,boot_toks,os⟩=some s:=by
  unfold topFrom;dsimp only;rw[HR w,HS w,r];show (match staticsOk (importedModules p.main.body) (boot_heap w.params) s.heap&&namesBound p s.heap&&gensDone s&&laidKept (boot_heap w.params) s.heap with|true=>some s|false=>none)=_;rw[hl]
 unfold openEnds;rw[e];show (topFrom treeTable p w N _).map _=_;rw[t];show some (openSeen q loose (importedModules p.main.body) Xt true s,Yf s)=_;rw[hS,hY]
theorem LN{N:Nat}{w:World}{os:OsState}{P:SharedT→Prop}(h:∃sT,Er N w os=some sT∧P sT):
  ∃sT:SharedT,topRun treeTable pQ w 11 ((boot_heap w.params).nsMap mainGlobals "__annotations__") N ⟨boot_heap w.params,⟨[]⟩,boot_drawn,boot_toks,os⟩ (topStub pQ)=some sT.abs∧P sT:=by
 obtain⟨sT,h1,h2⟩:=h;rw[Es]at h1;have r:=rC _ _ _ _ h1;rw[HM]at r;exact⟨sT,r,h2⟩
theorem Ai{α β γ δ:Type}{o:Option α}{f:α→β}{g:α→γ}{k:α→δ}{x:β}{y:γ}{z:δ}(h:o.map (λs=>(f s,g s,k s))=some (x,y,z)):∃s,o=some s∧f s=x∧g s=y∧k s=z:=by
 obtain⟨s,h1,h2⟩:=Option.map_eq_some_iff.mp h;simp only[Prod.mk.injEq]at h2;exact⟨s,h1,h2⟩
theorem HT:LeftO pQ qV kF WU (λs=>rB.map s.heap.get?) (λw=>(KF w.params).map λp=>some p.2) 3600:=
 B9 HQ λw os=>by
  obtain⟨sT,h1,h2,h3,h4⟩:=LN (Ai (LK w os));exact⟨sT.abs,h1,h2,h3,h4⟩
end
section
open PySem PySem.W PySem.W.X PySem.Calls PyProof.Rows
noncomputable def qm:OpenLaw:={prog:=pQ,name:=(PySem.Str.ofString "law"),about:=[PySem.Str.ofString "SequenceMatcher",PySem.Str.ofString "get_matching_blocks"],foot:=8,most:=some 63,bound:=none,writes:=false}
theorem LP:Challenge.rw_om0200_01=qm:=congrArg (λp=>({prog:=p,name:=(PySem.Str.ofString "law"),about:=[PySem.Str.ofString "SequenceMatcher",PySem.Str.ofString "get_matching_blocks"],foot:=8,most:=some 63,bound:=none,writes:=false}:OpenLaw)) F3
noncomputable def dR:DefRec:=match eF 25 with
 | .FunctionDef name args body aj br dg scope gM kD pos=>⟨name,args,body,scope,pos⟩
 |_=>⟨default,default,[],default,default⟩
theorem LQ:defOf qV qm.row.name=some (dR,[]):=by kernel_rfl!
theorem hp_:qm.row.prog.theDef qm.row.name=some (dR.params,dR.body,dR.scope):=by
 kernel_rfl!
theorem hk_:kwWritten? dR.params.kwonlyargs dR.params.kw_defaults=some []:=by kernel_rfl!
theorem ok_:(chainsOk qV&&opensWell qm.row.prog&&(frees qm.row.toRowW&&qm.row.within.isEmpty))=true:=by decide+kernel
theorem head(walk:WalkX qV kF (XL qV []) (λs=>rB.map s.heap.get?) (λw=>(KF w.params).map λp=>some p.2) qm.row.toRowW dR [] (λf vs=>PySem.call f vs)):qm.Holds:=by
 w_on;o_law
 refine holds_openX (r:=qm.row) (q:=qV) (loose:=kF) (Xt:=WU) (XP:=XL qV []) (N:=3600) HT (λs e=>xl_of s (Bool.and_eq_true_iff.mp e).1) XL.keeps LQ hp_ hk_ (λs e=>recFacts_of (Bool.and_eq_true_iff.mp e).2) rfl (by assumption) ok_ ⟨rfl,rfl,rfl,rfl,rfl,by decide+kernel⟩ ?hw walk
 case hw=>exact⟨[.list []],by decide+kernel,by decide+kernel⟩
theorem Ca{args:List WData}(h:qm.row.toRowW.claim.pre args=true):∃ns:List Int,args=[.list (ns.map .int)]∧ns.length≤63:=by
 obtain⟨h1,h2⟩:=pre_splitW h;have e1:qm.row.toRowW.args=[.list .int]:=rfl;rw[e1]at h1;obtain⟨d,r',rfl,h3,h4⟩:=hasAllW_cons h1;obtain rfl:=hasAllW_nil h4;obtain⟨xs,rfl,h5⟩:=hasW_list h3;obtain⟨ns,rfl⟩:=items_int h5;refine⟨ns,rfl,?_⟩;have e2:qm.row.toRowW.pre= .and (.not (.lt (.lit (.int 63)) (.len (.arg 0)))) (.lit (.bool true)):=rfl;rw[e2]at h2;generalize qm.row.toRowW.records=R at h2
 by_cases q:ns.length≤63
 ·exact q
 ·exfalso
  have e3:less? (WData.int 63) (WData.int ns.length)=some true:=by
   show some (decide ((63:Int)<(ns.length:Int)))=some true;rw[decide_eq_true (Wh q)]
  simp[WTm.holds,WTm.value,e3]at h2
theorem Cb{ns:List Int}:qm.row.toRowW.claim.post [.list (ns.map .int)] (.bool true) [.list (ns.map .int)]=true:=by
 have e1:qm.row.toRowW.returns= .bool:=rfl;have e2:qm.row.toRowW.post= .eq .res (.lit (.bool true)):=rfl;refine postW_of (X:=true) ?_ ?_ rfl
 ·rw[e1];rfl
 ·rw[e2]
  generalize qm.row.toRowW.records=R;simp[WTm.value,same]
theorem HU(P:Params){es:Array DictEntry}{ep:Nat}(h:(Lq P).data= .dict es ep):nsFind es dR.name=some (.ref 444):=by
 have e:nsFind (match (Lq P).data with| .dict es aj=>es|_=>#[]) dR.name=some (.ref 444):=by kernel_rfl!
 rw[h]at e;exact e
theorem kf_in{P:Params}{h:Heap}(Y:rB.map h.get?=(KF P).map λp=>some p.2):(KF P).In h:=Frag.in_of (B8 P) Y
end
section
open PySem PySem.W PyProof.Rows
structure V where
 ix:Fin 94
 deriving DecidableEq
noncomputable def V.one:V:=⟨0⟩
noncomputable def V.other:V:=⟨1⟩
noncomputable def V.runs:V:=⟨2⟩
noncomputable def V.before:V:=⟨3⟩
noncomputable def V.j:V:=⟨4⟩
noncomputable def V.here:V:=⟨5⟩
noncomputable def V.fresh:V:=⟨6⟩
noncomputable def V.i:V:=⟨7⟩
noncomputable def V.size:V:=⟨8⟩
noncomputable def V.t:V:=⟨9⟩
noncomputable def V.u:V:=⟨10⟩
noncomputable def V.heap:V:=⟨11⟩
noncomputable def V.worths:V:=⟨12⟩
noncomputable def V.left:V:=⟨13⟩
noncomputable def V.total:V:=⟨14⟩
noncomputable def V.b:V:=⟨15⟩
noncomputable def V.row:V:=⟨16⟩
noncomputable def V.x:V:=⟨17⟩
noncomputable def V.script:V:=⟨18⟩
noncomputable def V.letters:V:=⟨19⟩
noncomputable def V.k:V:=⟨20⟩
noncomputable def V.turned_worths:V:=⟨21⟩
noncomputable def V.ahead:V:=⟨22⟩
noncomputable def V.sorter:V:=⟨23⟩
noncomputable def V.best:V:=⟨24⟩
noncomputable def V.turned_best:V:=⟨25⟩
noncomputable def V.rounds:V:=⟨26⟩
noncomputable def V.ready:V:=⟨27⟩
noncomputable def V.named:V:=⟨28⟩
noncomputable def V.lastelt:V:=⟨29⟩
noncomputable def V.returnitem:V:=⟨30⟩
noncomputable def V.n:V:=⟨31⟩
noncomputable def V.startpos:V:=⟨32⟩
noncomputable def V.pos:V:=⟨33⟩
noncomputable def V.newitem:V:=⟨34⟩
noncomputable def V.parentpos:V:=⟨35⟩
noncomputable def V.parent:V:=⟨36⟩
noncomputable def V.endpos:V:=⟨37⟩
noncomputable def V.childpos:V:=⟨38⟩
noncomputable def V.rightpos:V:=⟨39⟩
noncomputable def V.self:V:=⟨40⟩
noncomputable def V.isjunk:V:=⟨41⟩
noncomputable def V.a:V:=⟨42⟩
noncomputable def V.autojunk:V:=⟨43⟩
noncomputable def V.b2j:V:=⟨44⟩
noncomputable def V.elt:V:=⟨45⟩
noncomputable def V.indices:V:=⟨46⟩
noncomputable def V.junk:V:=⟨47⟩
noncomputable def V.popular:V:=⟨48⟩
noncomputable def V.alo:V:=⟨49⟩
noncomputable def V.ahi:V:=⟨50⟩
noncomputable def V.blo:V:=⟨51⟩
noncomputable def V.bhi:V:=⟨52⟩
noncomputable def V.isbjunk:V:=⟨53⟩
noncomputable def V.besti:V:=⟨54⟩
noncomputable def V.bestj:V:=⟨55⟩
noncomputable def V.bestsize:V:=⟨56⟩
noncomputable def V.j2len:V:=⟨57⟩
noncomputable def V.nothing:V:=⟨58⟩
noncomputable def V.j2lenget:V:=⟨59⟩
noncomputable def V.newj2len:V:=⟨60⟩
noncomputable def V.la:V:=⟨61⟩
noncomputable def V.lb:V:=⟨62⟩
noncomputable def V.queue:V:=⟨63⟩
noncomputable def V.matching_blocks:V:=⟨64⟩
noncomputable def V.i1:V:=⟨65⟩
noncomputable def V.j1:V:=⟨66⟩
noncomputable def V.k1:V:=⟨67⟩
noncomputable def V.non_adjacent:V:=⟨68⟩
noncomputable def V.i2:V:=⟨69⟩
noncomputable def V.j2:V:=⟨70⟩
noncomputable def V.k2:V:=⟨71⟩
noncomputable def V.graph:V:=⟨72⟩
noncomputable def V.node:V:=⟨73⟩
noncomputable def V.predecessors:V:=⟨74⟩
noncomputable def V.nodeinfo:V:=⟨75⟩
noncomputable def V.pred:V:=⟨76⟩
noncomputable def V.pred_info:V:=⟨77⟩
noncomputable def V.result:V:=⟨78⟩
noncomputable def V.cycle:V:=⟨79⟩
noncomputable def V.n2i:V:=⟨80⟩
noncomputable def V.nodes:V:=⟨81⟩
noncomputable def V.stat:V:=⟨82⟩
noncomputable def V.successor:V:=⟨83⟩
noncomputable def V.successor_info:V:=⟨84⟩
noncomputable def V.stack:V:=⟨85⟩
noncomputable def V.itstack:V:=⟨86⟩
noncomputable def V.seen:V:=⟨87⟩
noncomputable def V.node2stacki:V:=⟨88⟩
noncomputable def V.Et:V:=⟨89⟩
noncomputable def V.cls:V:=⟨90⟩
noncomputable def V.iterable:V:=⟨91⟩
noncomputable def V.str(v:V):String:=["one","other","runs","before","j","here","fresh","i","size","t","u","heap","worths","left","total","b","row","x","script","letters","k","turned_worths","ahead","sorter","best","turned_best","rounds","ready","named","lastelt","returnitem","n","startpos","pos","newitem","parentpos","parent","endpos","childpos","rightpos","self","isjunk","a","autojunk","b2j","elt","indices","junk","popular","alo","ahi","blo","bhi","isbjunk","besti","bestj","bestsize","j2len","nothing","j2lenget","newj2len","la","lb","queue","matching_blocks","i1","j1","k1","non_adjacent","i2","j2","k2","graph","node","predecessors","nodeinfo","pred","pred_info","result","cycle","n2i","nodes","stat","successor","successor_info","stack","itstack","seen","node2stacki","_cls","cls","iterable","ntest","idxs"].getD v.ix.val ""
noncomputable def V.codes(v:V):List Nat:=v.str.toList.map Char.toNat
noncomputable def V.name(v:V):Str:=⟨v.codes.toArray⟩
noncomputable def V.all:List V:=(List.finRange 94).map V.mk
theorem V.eX(v:V):v∈V.all:=List.mem_map_of_mem (List.mem_finRange v.ix)
theorem V.check{p:V→Bool}(h:V.all.all p=true)(v:V):p v=true:=List.all_eq_true.mp h v (V.eX v)
theorem V.gT:(V.all.map V.codes).Nodup:=by decide+kernel
theorem fO{α β:Type}{f:α→β}:∀{l:List α},(l.map f).Nodup→∀p∈l,∀q∈l,f p=f q→p=q
 |[],aj,p,hp,br,dg,gM=>nomatch hp
 |z::l,h,p,hp,q,hq,e=>by
  rw[List.map_cons,List.nodup_cons]at h;cases hp with
  |head=>
   cases hq with
   |head=>rfl
   |tail aj hq=>exact absurd (by rw[e];exact List.mem_map_of_mem hq) h.1
  |tail aj hp=>
   cases hq with
   |head=>exact absurd (by rw[←e];exact List.mem_map_of_mem hp) h.1
   |tail aj hq=>exact fO h.2 p hp q hq e
theorem V.dK{v v':V}(h:v.name=v'.name):v=v':=by
 have h1:v.codes=v'.codes:=by
  have:=congrArg (λs=>s.cps.toList) h
  simpa[V.name]using this
 exact fO V.gT v (V.eX v) v' (V.eX v') h1
set_option genCtorIdx false in
inductive BI where
 |len (u:Unit:=())|sorted|max|iter|wR|nE|lextend|nQ|sA|aO|iR|uF|dM|dN
noncomputable def BI.ctorIdx(t:BI):Nat:=@BI.rec (λaj=>Nat) (λaj=>0) 1 2 3 4 5 6 7 8 9 10 11 12 13 t
noncomputable def BI.id:BI→String
 | .len=>"len"| .sorted=>"sorted"| .max=>"max"| .iter=>"iter"| .wR=>"list.pop"| .nE=>"list.append"| .lextend=>"list.extend"| .nQ=>"list.sort"| .sA=>"list.clear"
 | .aO=>"dict.get"| .iR=>"dict.setdefault"| .uF=>"set.add"| .dM=>"set.__contains__"| .dN=>"list_iterator.__next__"
set_option genCtorIdx false in
inductive TY where
 |range (u:Unit:=())|reversed|list|enumerate|set|map|bool|tuple|stop
noncomputable def TY.id:TY→String
 | .range=>"range"| .reversed=>"reversed"| .list=>"list"| .enumerate=>"enumerate"| .set=>"set"| .map=>"map"| .bool=>"bool"| .tuple=>"tuple"| .stop=>"StopIteration"
set_option genCtorIdx false in
inductive af where
 |none|bool (b:Bool)|int (i:Int)|ref (a:Addr)|builtin (b:BI)|type (t:TY)
noncomputable def af.ctorIdx(t:af):Nat:=@af.rec (λaj=>Nat) 0 (λaj=>1) (λaj=>2) (λaj=>3) (λaj=>4) (λaj=>5) t
def VR:Value→af→Prop
 |v, .none=>v= .none
 |v, .bool b=>v= .bool b
 |v, .int i=>∃t,v= .int i t
 |v, .ref a=>v= .ref a
 |v, .builtin b=>v= .builtin b.id
 |v, .type t=>v= .type t.id
def jg(o:Option Value):Option af→Prop
 | .none=>True
 | .some x=>∃v,o=some v∧VR v x
set_option genCtorIdx false in
inductive At where
 |isjunk (u:Unit:=())|a|b|autojunk|matching_blocks|opcodes|fullbcount|b2j|bjunk|bpopular|bV|aG|cA|cD|node|npredecessors|successors
noncomputable def At.ctorIdx(t:At):Nat:=@At.rec (λaj=>Nat) (λaj=>0) 1 2 3 4 5 6 7 8 9 10 11 12 13 14 15 16 t
noncomputable def At.all:List At:=[.isjunk, .a, .b, .autojunk, .matching_blocks, .opcodes, .fullbcount, .b2j, .bjunk, .bpopular, .bV, .aG, .cA, .cD, .node, .npredecessors, .successors]
theorem At.YA(t:At):At.all[t.ctorIdx]?=some t:=by cases t<;>rfl
noncomputable instance:DecidableEq At:=λa b=>@decidable_of_decidable_of_iff (a.ctorIdx=b.ctorIdx) (a=b) (Nat.decEq _ _) ⟨λh=>Option.some.inj (a.YA.symm.trans (h▸b.YA)),congrArg _⟩
set_option genCtorIdx false in
inductive bI where
 |list (xs:List af)
 |tup (xs:List af)
 |cZ (xs:List af)
 |dict (ep:Nat) (es:List (Int×af))
 |set (n:Nat) (S:Int→Bool)
 |inst (C d:Addr)
 |node (d:Addr) (m:At→Option af)
 |ns (k:Nat) (m:At→Option af)
 |d9 (l:Addr) (i:Nat)
 |bound (b:BI) (self:Addr)
 |junk
noncomputable def bI.ctorIdx(t:bI):Nat:=@bI.rec (λaj=>Nat) (λaj=>0) (λaj=>1) (λaj=>2) (λaj aj=>3) (λaj aj=>4) (λaj aj=>5) (λaj aj=>6) (λaj aj=>7) (λaj aj=>8) (λaj aj=>9) 10 t
noncomputable abbrev aa:=Addr→Option bI
noncomputable def aa.set(Ω:aa)(a:Addr)(o:bI):aa:=λb=>if b=a then some o else Ω b
noncomputable abbrev eS:=V→Option af
noncomputable def eS.set(m:eS)(v:V)(x:af):eS:=λv'=>if v'=v then some x else m v'
noncomputable def ef.set(m:At→Option af)(t:At)(x:af):At→Option af:=λt'=>if t'=t then some x else m t'
structure St where
 m:eS
 Ω:aa
def aP:List Value→List af→Prop
 |[],[]=>True
 |v::vs,x::xs=>VR v x∧aP vs xs
 |aj,br=>False
theorem aP.length:∀{vs xs},aP vs xs→vs.length=xs.length
 |[],[],aj=>rfl
 |aj::br,dg::gM,h=>congrArg (·+1) (aP.length h.2)
 |[],aj::br,h=>h.elim
 |aj::br,[],h=>h.elim
theorem aP.get:∀{vs xs} {i:Nat} {x},aP vs xs→xs[i]?=some x→∃v,vs[i]?=some v∧VR v x
 |v::vs,y::xs,0,x,h,e=>by cases e;exact⟨v,rfl,h.1⟩
 |v::vs,y::xs,i+1,x,h,e=>by
  rw[List.getElem?_cons_succ]at e ⊢;exact aP.get h.2 e
 |[],[],i,x,aj,e=>by simp at e
 |[],aj::br,dg,gM,h,kD=>h.elim
 |aj::br,[],dg,gM,h,kD=>h.elim
theorem aP.jK{vs xs}{i:Nat}(h:aP vs xs)(e:xs[i]?=none):vs[i]?=none:=by
 rw[List.getElem?_eq_none_iff]at e ⊢;rw[h.length];exact e
theorem aP.append:∀{vs xs us ys},aP vs xs→aP us ys→aP (vs++us) (xs++ys)
 |[],[],aj,br,dg,h=>h
 |aj::br,dg::gM,kD,zw,h,h'=>⟨h.1,aP.append h.2 h'⟩
 |[],aj::br,dg,gM,h,kD=>h.elim
 |aj::br,[],dg,gM,h,kD=>h.elim
theorem aP.take:∀{vs xs} (n:Nat),aP vs xs→aP (vs.take n) (xs.take n)
 |[],[],n,aj=>by rw[List.take_nil,List.take_nil];trivial
 |v::vs,x::xs,0,aj=>trivial
 |v::vs,x::xs,n+1,h=>⟨h.1,aP.take n h.2⟩
 |[],aj::br,dg,h=>h.elim
 |aj::br,[],dg,h=>h.elim
theorem aP.set:∀{vs xs} (n:Nat) {v x},aP vs xs→VR v x→aP (vs.set n v) (xs.set n x)
 |[],[],n,aj,br,dg,gM=>trivial
 |aj::vs,br::xs,0,v,x,h,h'=>⟨h',h.2⟩
 |aj::vs,br::xs,n+1,v,x,h,h'=>⟨h.1,aP.set n h.2 h'⟩
 |[],aj::br,dg,gM,kD,h,zw=>h.elim
 |aj::br,[],dg,gM,kD,h,zw=>h.elim
noncomputable def At.str:At→String
 | .isjunk=>"isjunk"| .a=>"a"| .b=>"b"| .autojunk=>"autojunk"| .matching_blocks=>"matching_blocks"| .opcodes=>"opcodes"| .fullbcount=>"fullbcount"| .b2j=>"b2j"| .bjunk=>"bjunk"| .bpopular=>"bpopular"| .bV=>"_node2info"| .aG=>"_ready_nodes"| .cA=>"_npassedout"| .cD=>"_nfinished"| .node=>"node"| .npredecessors=>"npredecessors"| .successors=>"successors"
noncomputable def At.codes(v:At):List Nat:=v.str.toList.map Char.toNat
noncomputable def At.name(v:At):Str:=⟨v.codes.toArray⟩
theorem At.eX(v:At):v∈At.all:=List.mem_of_getElem? (i:=v.ctorIdx) (by cases v<;>exact Eq.refl (some _))
theorem At.gT:(At.all.map At.codes).Nodup:=by decide+kernel
theorem At.dK{v v':At}(h:v.name=v'.name):v=v':=by
 have h1:v.codes=v'.codes:=by
  have:=congrArg (λs=>s.cps.toList) h
  simpa[At.name]using this
 exact fO At.gT v (At.eX v) v' (At.eX v') h1
noncomputable def dO:At→Option Nat
 | .successors=>some 2| .npredecessors=>some 1| .node=>some 0|_=>none
@[elab_as_elim] theorem nF{M:At→Nat→Prop}{t:At}{i:Nat}(h:dO t=some i)(a:M .node 0)(b:M .npredecessors 1)(c:M .successors 2):M t i:=by
 cases t<;>first|(cases h;assumption)|(cases h;done)
noncomputable def wU:Addr:=135
section
variable(prog:Program)(w:World)
def gU:List (Int×Value)→List (Int×af)→Prop
 |[],[]=>True
 |p::ps,q::qs=>p.1=q.1∧VR p.2 q.2∧gU ps qs
 |aj,br=>False
def wV(es:List DictEntry)(m:At→Option af):Prop:=
 (∀t x,m t=some x→∃v,getL t.name es=some (some v)∧VR v x)∧∀nm,(∀t,m t≠none→t.name≠nm)→getL nm es=some none
noncomputable def BI.cls:BI→String
 | .dN=>"method-wrapper"
 |_=>"builtin_function_or_method"
def OO:bI→Obj→Prop
 | .list xs,o=>∃items n,o={cls:= .type "list",data:= .seq items n}∧aP items.toList xs
 | .tup xs,o=>∃items n,o={cls:= .type "tuple",data:= .seq items n}∧aP items.toList xs
 | .cZ xs,o=>∃items n d,o={cls:= .ref wU,dict:=d,data:= .seq items n}∧aP items.toList xs
 | .dict ep es,o=>o.ExactDict∧∃Eu kvs,o.data= .dict Eu ep∧KeysOf (intKind prog w) Eu∧Pairs (intKind prog w) Eu.toList kvs∧(kvs.map (·.1)).Nodup∧gU kvs es
 | .set n S,o=>o.ExactSet∧∃es ep t,o.data= .set es ep t∧ElemsOf (intKind prog w) es.toList∧(∀k,S k=true↔∃e∈es.toList,(intKind prog w).is k e.2=true)
  ∧es.size<scanBound∧t.fits es.size=true∧es.size=n
 | .inst C d,o=>o=instObj C d
 | .node d m,o=>∃Aj,o={cls:= .ref 265,dict:=some d,data:= .plain,slots:=Aj}∧∀t i x,dO t=some i→m t=some x→∃v,(Aj[i]?).join=some v∧VR v x
 | .ns k m,o=>∃es n,o=dictOf es n∧es.length≤k∧wV es m
 | .d9 l i,o=>o.cls= .type "list_iterator"∧o.dict=none∧o.data= .fields #[.ref l, .int i 0]
 | .bound b a,o=>o.cls= .type b.cls∧o.data= .fields #[.builtin b.id, .ref a]
 | .junk,o=>∀x,o.data≠ .cell x
structure Oz where
 o:OsState
 F:Addr→Prop
structure Cx where
 K:Addr→Option Obj
 env:Env
 os:Oz
def Loc(env:Env)(m:eS)(h:Heap):Prop:=
 (∃ml,h.Ns env.locals ml∧∀v,env.kindOf v.name=some .local→jg (ml v.name) (m v))∧
 (∀v c,(env.kindOf v.name=some .cell∨env.kindOf v.name=some .free)→env.cells.lookup v.name=some c→∃x,h.IsCell c x∧jg x (m v))
def Kp(F:Addr→Prop)(a:Addr)(o o':Obj):Prop:=(∃sl,o'={o with slots:=sl})∧(¬F a→o'=o)
theorem Kp.refl{F:Addr→Prop}{a:Addr}(o:Obj):Kp F a o o:=⟨⟨o.slots,rfl⟩,λaj=>rfl⟩
theorem Kp.trans{F:Addr→Prop}{a:Addr}{o o' YB:Obj}(h:Kp F a o o')(h':Kp F a o' YB):Kp F a o YB:=by
 obtain⟨⟨sl,rfl⟩,h2⟩:=h;obtain⟨⟨YC,rfl⟩,h4⟩:=h';refine⟨⟨YC,rfl⟩,λhc=>?_⟩;rw[h4 hc];exact h2 hc
theorem Kp.data{F:Addr→Prop}{a:Addr}{o o':Obj}(h:Kp F a o o'):o'.data=o.data:=by obtain⟨⟨sl,rfl⟩,_⟩:=h;rfl
theorem Kp.mono{F F':Addr→Prop}{a:Addr}{o o':Obj}(h:Kp F a o o')(hF:F a→F' a):Kp F' a o o':=⟨h.1,λn=>h.2 λx=>n (hF x)⟩
theorem Kp.eq{F:Addr→Prop}{a:Addr}{o o':Obj}(h:Kp F a o o')(hc:¬F a):o'=o:=h.2 hc
inductive wW(F:Addr→Prop)(h:Heap)(a:Addr)(o:Obj):Prop
 |mk (o':Obj) (e:h.get? a=some o') (k:Kp F a o o'):wW F h a o
inductive LU(s:Shared)(a:Addr)(o:bI):Prop
 |mk (ob:Obj) (h:s.heap.get? a=some ob) (k:OO prog w o ob):LU s a o
structure aA(K:Addr→Option Obj)(oz:Oz)(Ω:aa)(s:Shared):Prop where
 gens:s.gens=#[]
 os:s.os=oz.o
 kept:∀a o,K a=some o→wW oz.F s.heap a o
 objs:∀a o,Ω a=some o→LU prog w s a o
 apart:∀a,Ω a≠none→K a=none
 two:∃a o,1<a∧K a=some o
 sys:Ω sysModules=none
 nG:∀a,oz.F a→∃o,K a=some o
structure Rep(C:Cx)(st:St)(s:Shared):Prop where
 H:aA prog w C.K C.os st.Ω s
 loc:Loc C.env st.m s.heap
 lk:C.K C.env.locals=none
 qn:st.Ω C.env.locals=none
end
section
variable{prog:Program}{w:World}{C:Cx}{st:St}{s:Shared}{K:Addr→Option Obj}{os:Oz}{Ω:aa}
theorem Loc.ext{env:Env}{m:eS}{h h':Heap}(L:Loc env m h)(k:∀b o,h.get? b=some o→h'.get? b=some o):Loc env m h':=by
 obtain⟨⟨ml,hn,hl⟩,hc⟩:=L;exact⟨⟨ml,hn.keeps k,hl⟩,λv c hk hx=>by
  obtain⟨x,hi,hx⟩:=hc v c hk hx;exact⟨x,hi.keeps k,hx⟩⟩
theorem Loc.lt{env:Env}{m:eS}{h:Heap}(L:Loc env m h):env.locals<h.objs.size:=by
 obtain⟨⟨ml,hn,_⟩,_⟩:=L;exact hn.lt
theorem aA.ext(R:aA prog w K os Ω s){h':Heap}{t:Nat}(k:∀b o,s.heap.get? b=some o→h'.get? b=some o):aA prog w K os Ω {s with heap:=h',toks:=t}:=
 ⟨R.gens,R.os,λa o e=>let ⟨o',h1,h2⟩:=R.kept a o e;⟨o',k a o' h1,h2⟩,λa o e=>let ⟨ob,h1,h2⟩:=R.objs a o e;⟨ob,k a ob h1,h2⟩,R.apart,R.two,R.sys,R.nG⟩
theorem Rep.ext(R:Rep prog w C st s){h':Heap}{t:Nat}(k:∀b o,s.heap.get? b=some o→h'.get? b=some o):Rep prog w C st {s with heap:=h',toks:=t}:=
 ⟨R.H.ext k,R.loc.ext k,R.lk,R.qn⟩
theorem aA.toks(R:aA prog w K os Ω s){t:Nat}:aA prog w K os Ω {s with toks:=t}:=R.ext λaj aj e=>e
theorem Rep.toks(R:Rep prog w C st s){t:Nat}:Rep prog w C st {s with toks:=t}:=R.ext λaj aj e=>e
theorem aA.push(R:aA prog w K os Ω s)(ob:Obj){t:Nat}:aA prog w K os Ω {s with heap:=s.heap.push ob,toks:=t}:=R.ext λaj aj e=>Heap.get?_push_of_some _ e
theorem Rep.push(R:Rep prog w C st s)(ob:Obj){t:Nat}:Rep prog w C st {s with heap:=s.heap.push ob,toks:=t}:=R.ext λaj aj e=>Heap.get?_push_of_some _ e
theorem aA.lt(R:aA prog w K os Ω s){a:Addr}(h:Ω a≠none):a<s.heap.objs.size:=by
 cases e:Ω a with
 |none=>exact absurd e h
 |some o=>obtain⟨ob,h1,_⟩:=R.objs a o e;exact Heap.lt_size h1
theorem aA.big(R:aA prog w K os Ω s):s.heap.objs.size≠sysModules:=by
 obtain⟨a,o,h1,h2⟩:=R.two;obtain⟨o',h3,_⟩:=R.kept a o h2;have:=Heap.lt_size h3;intro q;rw[q]at this;exact Nat.lt_asymm h1 this
theorem aA.bE(R:aA prog w K os Ω s):Ω s.heap.objs.size=none:=by
 cases e:Ω s.heap.objs.size with
 |none=>rfl
 |some o=>exact absurd (R.lt (by rw[e];simp)) (Nat.lt_irrefl _)
theorem aA.eT(R:aA prog w K os Ω s):K s.heap.objs.size=none:=by
 cases e:K s.heap.objs.size with
 |none=>rfl
 |some o=>obtain⟨o',h3,_⟩:=R.kept _ _ e;exact absurd (Heap.lt_size h3) (Nat.lt_irrefl _)
theorem aa.set_same{Ω:aa}{a:Addr}{o:bI}:Ω.set a o a=some o:=if_pos rfl
theorem aa.ai{Ω:aa}{a b:Addr}{o:bI}(h:b≠a):Ω.set a o b=Ω b:=if_neg h
theorem aA.make(R:aA prog w K os Ω s){ob:Obj}{o:bI}(hf:ob.isFreed=false)(ho:OO prog w o ob){t:Nat}:
  aA prog w K os (Ω.set s.heap.objs.size o) {s with heap:=s.heap.push ob,toks:=t}:=by
 have R':=R.push (t:=t) ob;refine⟨R'.gens,R'.os,R'.kept,λa o' e=>?_,λa e=>?_,R.two,by rw[aa.ai (Ne.symm R.big)];exact R.sys,R.nG⟩
 ·by_cases h:a=s.heap.objs.size
  ·subst h
   rw[aa.set_same]at e;cases e;exact⟨ob,Heap.get?_push_size _ hf,ho⟩
  ·rw[aa.ai h]at e
   exact R'.objs a o' e
 ·by_cases h:a=s.heap.objs.size
  ·subst h
   exact R.eT
  ·rw[aa.ai h]at e
   exact R.apart a e
theorem Rep.make(R:Rep prog w C st s){ob:Obj}{o:bI}(hf:ob.isFreed=false)(ho:OO prog w o ob){t:Nat}:
  Rep prog w C {st with Ω:=st.Ω.set s.heap.objs.size o} {s with heap:=s.heap.push ob,toks:=t}:=
 ⟨R.H.make hf ho,(R.push ob (t:=t)).loc,R.lk,by
  show st.Ω.set _ o C.env.locals=none;rw[aa.ai (Nat.ne_of_lt R.loc.lt)];exact R.qn⟩
theorem Loc.sameBut{env:Env}{m:eS}{h h':Heap}{a:Addr}(L:Loc env m h)(hs:Heap.SameBut a h h')(hl:env.locals≠a)(hc:∀c x,h.IsCell c x→c≠a):Loc env m h':=by
 obtain⟨⟨ml,hn,hv⟩,hcs⟩:=L;refine⟨⟨ml,hn.sameBut hs hl,hv⟩,λv c hk hx=>?_⟩;obtain⟨x,hi,hx'⟩:=hcs v c hk hx;have:=hc c x hi;obtain⟨o,ho,hd⟩:=hi;exact⟨x,⟨o,(hs.2 c this).trans ho,hd⟩,hx'⟩
theorem OO.dP{o:bI}{ob:Obj}(h:OO prog w o ob)(x:Option Value):ob.data≠ .cell x:=by
 cases o
 ·obtain⟨items,n,e,_⟩:=h;rw[e];exact λh=>by cases h
 ·obtain⟨items,n,e,_⟩:=h;rw[e];exact λh=>by cases h
 ·obtain⟨items,n,d,e,_⟩:=h;rw[e];exact λh=>by cases h
 ·obtain⟨_,Eu,kvs,e,_⟩:=h;rw[e];exact λh=>by cases h
 ·obtain⟨_,es,ep,t,e,_⟩:=h;rw[e];exact λh=>by cases h
 ·rw[h];exact λh=>by cases h
 ·obtain⟨Aj,e,_⟩:=h;rw[e];exact λh=>by cases h
 ·obtain⟨es,n,e,_⟩:=h;rw[e];exact λh=>by cases h
 ·rw[h.2.2];exact λh=>by cases h
 ·rw[h.2];exact λh=>by cases h
 ·exact h x
theorem aA.dP(R:aA prog w K os Ω s){a:Addr}{x:Option Value}(h:s.heap.IsCell a x):Ω a=none:=by
 cases e:Ω a with
 |none=>rfl
 |some o=>
  obtain⟨ob,h1,h2⟩:=R.objs a o e;obtain⟨oc,h3,h4⟩:=h;rw[h1]at h3;cases h3;exact absurd h4 (h2.dP x)
theorem aA.upd(R:aA prog w K os Ω s){a:Addr}{o o':bI}{Jm:Obj}{h':Heap}(ha:Ω a=some o)(hs:Heap.SameBut a s.heap h')(hg:h'.get? a=some Jm)(ho:OO prog w o' Jm){t:Nat}:
  aA prog w K os (Ω.set a o') {s with heap:=h',toks:=t}:=by
 have ap:=R.apart a (by rw[ha];simp);refine⟨R.gens,R.os,λb ob e=>?_,λb o₁ e=>?_,λb e=>?_,R.two,?_,R.nG⟩
 rotate_right
 ·have:sysModules≠a:=λq=>by have:=R.sys;rw[q,ha]at this;cases this
  rw[aa.ai this];exact R.sys
 ·have:b≠a:=λq=>by rw[q,ap]at e;cases e
  obtain⟨o',h3,h4⟩:=R.kept b ob e;exact⟨o',(hs.2 b this).trans h3,h4⟩
 ·by_cases h:b=a
  ·subst h;rw[aa.set_same]at e;cases e;exact⟨Jm,hg,ho⟩
  ·rw[aa.ai h]at e
   obtain⟨ob,h1,h2⟩:=R.objs b o₁ e;exact⟨ob,(hs.2 b h).trans h1,h2⟩
 ·by_cases h:b=a
  ·subst h;exact ap
  ·rw[aa.ai h]at e;exact R.apart b e
theorem Rep.upd(R:Rep prog w C st s){a:Addr}{o o':bI}{Jm:Obj}{h':Heap}(ha:st.Ω a=some o)(hs:Heap.SameBut a s.heap h')(hg:h'.get? a=some Jm)(ho:OO prog w o' Jm){t:Nat}:
  Rep prog w C {st with Ω:=st.Ω.set a o'} {s with heap:=h',toks:=t}:=by
 have hl:C.env.locals≠a:=λq=>by have:=R.qn;rw[q,ha]at this;cases this
 refine⟨R.H.upd ha hs hg ho,R.loc.sameBut hs hl (λc x hc q=>?_),R.lk,?_⟩
 ·have:=R.H.dP hc;rw[q,ha]at this;cases this
 ·show st.Ω.set a o' C.env.locals=none
  rw[aa.ai hl];exact R.qn
theorem Rep.wX(R:Rep prog w C st s){a:Addr}{h':Heap}{t:Nat}(hK:C.K a=none)(jb:st.Ω a=none)(hL:C.env.locals≠a)(hc:∀x,¬s.heap.IsCell a x)
  (k:∀b o,b≠a→s.heap.get? b=some o→h'.get? b=some o):Rep prog w C st {s with heap:=h',toks:=t}:=by
 refine⟨⟨R.H.gens,R.H.os,λb o e=>let ⟨o',h1,h2⟩:=R.H.kept b o e;⟨o',k b o' (λq=>by rw[q,hK]at e;cases e) h1,h2⟩,λb o e=>?_,R.H.apart,R.H.two,R.H.sys,R.H.nG⟩,?_,R.lk,R.qn⟩
 ·obtain⟨ob,h1,h2⟩:=R.H.objs b o e
  exact⟨ob,k b ob (λq=>by rw[q,jb]at e;cases e) h1,h2⟩
 ·obtain⟨⟨ml,⟨o,es,ep,ho,r⟩,hl⟩,hcs⟩:=R.loc
  refine⟨⟨ml,⟨o,es,ep,k _ _ hL ho,r⟩,hl⟩,λv c h1 h2=>?_⟩;obtain⟨x,hi,hx⟩:=hcs v c h1 h2;have hca:c≠a:=λq=>hc x (q▸hi)
  obtain⟨oc,ho,hd⟩:=hi;exact⟨x,⟨oc,k _ _ hca ho,hd⟩,hx⟩
noncomputable def Cx.hold(C:Cx)(a:Addr)(o:Obj):Cx:={C with K:=λb=>if b=a then some o else C.K b}
theorem Rep.hold(R:Rep prog w C st s){a:Addr}{o:Obj}(hKa:C.K a=none)(ho:s.heap.get? a=some o)(jb:st.Ω a=none)(hL:C.env.locals≠a):Rep prog w (C.hold a o) st s:=by
 have h1:∀b ob,(C.hold a o).K b=some ob→wW C.os.F s.heap b ob:=λb ob e=>by
  dsimp only[Cx.hold]at e
  by_cases q:b=a
  ·rw[if_pos q]at e;cases e;rw[q];exact⟨_,ho,Kp.refl _⟩
  ·rw[if_neg q]at e;exact R.H.kept b ob e
 have h2:∀b,st.Ω b≠none→(C.hold a o).K b=none:=λb e=>by
  dsimp only[Cx.hold]
  by_cases q:b=a
  ·rw[q]at e;exact absurd jb e
  ·rw[if_neg q];exact R.H.apart b e
 have h3:∃c oc,1<c∧(C.hold a o).K c=some oc:=by
  obtain⟨c,oc,h1,h2⟩:=R.H.two;refine⟨c,oc,h1,?_⟩;dsimp only[Cx.hold];rw[if_neg (λq=>by rw[q,hKa]at h2;cases h2)];exact h2
 have h4:∀b,C.os.F b→∃ob,(C.hold a o).K b=some ob:=λb hb=>by
  obtain⟨ob,h1⟩:=R.H.nG b hb
  by_cases q:b=a
  ·exact⟨o,if_pos q⟩
  ·exact⟨ob,(if_neg q).trans h1⟩
 refine⟨⟨R.H.gens,R.H.os,h1,R.H.objs,h2,h3,R.H.sys,h4⟩,R.loc,?_,R.qn⟩;show (if C.env.locals=a then some o else C.K C.env.locals)=none;rw[if_neg hL];exact R.lk
theorem Rep.gV{a:Addr}{o:Obj}(R:Rep prog w (C.hold a o) st s)(hnf:¬C.os.F a)(hK:C.K a=none)(WV:∃a o,1<a∧C.K a=some o):Rep prog w C st s∧s.heap.get? a=some o∧st.Ω a=none:=by
 have hg:s.heap.get? a=some o:=by
  obtain⟨o',h1,h2⟩:=R.H.kept a o (if_pos rfl);rw[h1,h2.eq hnf]
 have jb:st.Ω a=none:=by
  cases q:st.Ω a with
  |none=>rfl
  |some x=>have:=R.H.apart a (by rw[q];simp);dsimp only[Cx.hold]at this;rw[if_pos rfl]at this;cases this
 have LV:C.env.locals≠a:=λq=>by have:=R.lk;dsimp only[Cx.hold]at this;rw[if_pos q]at this;cases this
 refine⟨⟨⟨R.H.gens,R.H.os,λb ob e=>R.H.kept b ob ?_,R.H.objs,λb e=>?_,WV,R.H.sys,λb hb=>?_⟩,R.loc,?_,R.qn⟩,hg,jb⟩
 ·dsimp only[Cx.hold];rw[if_neg (λq=>by rw[q,hK]at e;cases e)];exact e
 ·have:=R.H.apart b e
  dsimp only[Cx.hold]at this
  by_cases q:b=a
  ·rw[q];exact hK
  ·rw[if_neg q]at this;exact this
 ·obtain⟨ob,h1⟩:=R.H.nG b hb
  refine⟨ob,?_⟩;dsimp only[Cx.hold]at h1;have hne:b≠a:=λq=>hnf (by rw[←q];exact hb)
  rw[if_neg hne]at h1;exact h1
 ·have:=R.lk
  dsimp only[Cx.hold]at this;rw[if_neg LV]at this;exact this
noncomputable def bG(Ω:aa)(h:Heap):Addr→Option Obj:=λa=>match Ω a with|none=>h.get? a|some aj=>none
theorem aA.enter(R:aA prog w K os Ω s):aA prog w (bG Ω s.heap) os Ω s:=by
 refine⟨R.gens,R.os,λa o e=>?_,R.objs,λa h=>?_,?_,R.sys,λa ha=>?_⟩
 rotate_right
 ·obtain⟨o,h1⟩:=R.nG a ha
  obtain⟨o',h2,_⟩:=R.kept a o h1;refine⟨o',?_⟩;have jb:Ω a=none:=by
   cases q:Ω a with
   |none=>rfl
   |some x=>have:=R.apart a (by rw[q];simp);rw[this]at h1;cases h1
  unfold bG;rw[jb];exact h2
 rotate_right
 ·obtain⟨a,o,h1,h2⟩:=R.two
  suffices h:∃o,1<a∧bG Ω s.heap a=some o from let ⟨o,p,q⟩:=h;⟨a,o,p,q⟩
  have jb:Ω a=none:=by
   cases q:Ω a with
   |none=>rfl
   |some x=>have:=R.apart a (by rw[q];simp);rw[this]at h2;cases h2
  unfold bG;obtain⟨o',h3,h4⟩:=R.kept a o h2;exact⟨o',h1,by rw[jb];exact h3⟩
 ·unfold bG at e
  split at e
  ·exact⟨o,e,Kp.refl o⟩
  ·cases e
 ·unfold bG
  split
  ·rename_i q;exact absurd q h
  ·rfl
theorem aA.gh(R:aA prog w K os Ω s){a:Addr}{o:Obj}(e:K a=some o):Ω a=none:=by
 cases q:Ω a with
 |none=>rfl
 |some x=>have:=R.apart a (by rw[q];simp);rw[this]at e;cases e
noncomputable def Cx.qk(C:Cx):Oz:=⟨C.os.o,λa=>C.os.F a∨a=C.env.locals⟩
theorem aA.kG(R:aA prog w K os Ω s){os':Oz}(ho:os'.o=os.o)(hF:∀a o,K a=some o→os'.F a→os.F a){az:aa}{s':Shared}(R':aA prog w (bG Ω s.heap) os' az s'):aA prog w K os az s':=by
 refine⟨R'.gens,R'.os.trans ho,λa o e=>?_,R'.objs,λa h=>?_,R.two,R'.sys,R.nG⟩
 ·obtain⟨o1,h1,h2⟩:=R.kept a o e
  obtain⟨o2,h3,h4⟩:=R'.kept a o1 (by unfold bG;rw[R.gh e];exact h1);exact⟨o2,h3,h2.trans (h4.mono (hF a o e))⟩
 ·have:=R'.apart a h
  unfold bG at this
  (set_option tactic.hygienic true in split at this)
  ·cases q:K a with
   |none=>rfl
   |some o=>obtain⟨o1,h1,_⟩:=R.kept a o q;rw[h1]at this;cases this
  ·rename_i x q;exact R.apart a (by rw[q];simp)
theorem aA.leave(R:aA prog w K os Ω s){az:aa}{s':Shared}(R':aA prog w (bG Ω s.heap) os az s'):aA prog w K os az s':=R.kG rfl (λaj aj aj h=>h) R'
theorem Loc.upTo{env:Env}{m:eS}{h h':Heap}{F:Addr→Prop}(L:Loc env m h)(hl:∀o,h.get? env.locals=some o→wW F h' env.locals o)(hc:∀c x o,h.IsCell c x→h.get? c=some o→wW F h' c o):Loc env m h':=by
 obtain⟨⟨ml,⟨o,es,ep,ho,hd,r⟩,hv⟩,hcs⟩:=L;refine⟨⟨ml,?_,hv⟩,λv c h1 h2=>?_⟩
 ·obtain⟨o',h1,h2⟩:=hl o ho
  exact⟨o',es,ep,h1,h2.data.trans hd,r⟩
 ·obtain⟨x,hi,hx⟩:=hcs v c h1 h2
  obtain⟨oc,ho,hd⟩:=id hi;obtain⟨o',h3,h4⟩:=hc c x oc hi ho;exact⟨x,⟨o',h3,h4.data.trans hd⟩,hx⟩
theorem Rep.kG(R:Rep prog w C st s){os':Oz}(ho:os'.o=C.os.o)(hF:∀a o,C.K a=some o→os'.F a→C.os.F a){az:aa}{s':Shared}(R':aA prog w (bG st.Ω s.heap) os' az s'):Rep prog w C {st with Ω:=az} s':=by
 have hk:∀a o,st.Ω a=none→s.heap.get? a=some o→wW os'.F s'.heap a o:=λa o h1 h2=>R'.kept a o (by unfold bG;rw[h1];exact h2)
 refine⟨R.H.kG ho hF R',R.loc.upTo (λo ho=>hk _ o R.qn ho) (λc x o hi ho=>hk c o (R.H.dP hi) ho),R.lk,?_⟩;cases q:az C.env.locals with
 |none=>exact q
 |some x=>
  exfalso;have h1:=R'.apart C.env.locals (by rw[q];simp);unfold bG at h1;rw[R.qn]at h1;obtain⟨⟨ml,⟨o,es,ep,ho,_⟩,_⟩,_⟩:=R.loc;dsimp only at h1;rw[ho]at h1;cases h1
theorem Rep.sC(R:Rep prog w C st s):∀a,C.qk.F a→∃o,bG st.Ω s.heap a=some o:=λa ha=>by
 rcases ha with ha|rfl
 ·exact R.H.enter.nG a ha
 ·obtain⟨⟨ml,⟨o,es,ep,ho,_⟩,_⟩,_⟩:=R.loc
  exact⟨o,by unfold bG;rw[R.qn];exact ho⟩
theorem aA.N3(R:aA prog w K os Ω s){os':Oz}(ho:os'.o=os.o)(hF:∀a,os.F a→os'.F a)(hF':∀a,os'.F a→∃o,K a=some o):aA prog w K os' Ω s:=
 ⟨R.gens,R.os.trans ho.symm,λa o e=>let ⟨o',h1,h2⟩:=R.kept a o e;⟨o',h1,h2.mono (hF a)⟩,R.objs,R.apart,R.two,R.sys,hF'⟩
theorem V.nH(v:V):(v.name==("__debug__":Str))=false:=by simpa using V.check (p:=λv=> !(v.name==("__debug__":Str))) (by decide+kernel) v
theorem V.uG(v:V):(v.name==("__classdict__":Str))=false:=by simpa using V.check (p:=λv=> !(v.name==("__classdict__":Str))) (by decide+kernel) v
noncomputable def cE:Option NameKind→Bool
 |some .local|some .cell|some .free=>true
 |_=>false
theorem eval_var{A:Around}{E:Value→Shared→Prop}{v:V}{x:af}{pos:Pos}(R:Rep prog w C st s)(hk:C.env.scope.kind= .function)(hv:cE (C.env.kindOf v.name)=true)
  (hcell:C.env.kindOf v.name≠some .local→(C.env.cells.lookup v.name).isSome=true) (hx:st.m v=some x):
  wpAny (model prog w) A (eval (.Name v.name pos) C.env) (λr s'=>VR r x∧s'=s) E s:=by
 refine wpAny_Name ?_ (V.nH v);obtain⟨⟨ml,hn,hl⟩,hc⟩:=R.loc;cases e:C.env.kindOf v.name with
 |none=>rw[e]at hv;cases hv
 |some k=>
  cases k with
  |«local»=>
   have:=hl v e;rw[hx]at this;obtain⟨r,h1,h2⟩:=this;exact wpAny_loadName_local hk e hn h1 ⟨h2,rfl⟩
  |cell=>
   obtain⟨c,hcl⟩:=Option.isSome_iff_exists.mp (hcell (by rw[e];simp));obtain⟨y,h1,h2⟩:=hc v c (.inl e) hcl;rw[hx]at h2;obtain⟨r,h3,h4⟩:=h2;subst h3;exact wpAny_loadName_cell hk e hcl h1 ⟨h4,rfl⟩
  |free=>
   obtain⟨c,hcl⟩:=Option.isSome_iff_exists.mp (hcell (by rw[e];simp));obtain⟨y,h1,h2⟩:=hc v c (.inr e) hcl;rw[hx]at h2;obtain⟨r,h3,h4⟩:=h2;subst h3;exact wpAny_loadName_free hk e hcl h1 ⟨h4,rfl⟩ (V.uG v)
  |globalExplicit=>rw[e]at hv;cases hv
  |globalImplicit=>rw[e]at hv;cases hv
end
set_option genCtorIdx false in
inductive G where
 |len (u:Unit:=())|range|reversed|list|sorted|max|enumerate|set|map|iter|bool|tuple|StopIteration
 |gW|iS|nR|Match|SequenceMatcher|TopologicalSorter
 |heappop|heapify|jL|sD|nS|eg|cQ|gk|e9|dw|fF
noncomputable def G.ctorIdx(t:G):Nat:=@G.rec (λaj=>Nat) (λaj=>0) 1 2 3 4 5 6 7 8 9 10 11 12 13 14 15 16 17 18 19 20 21 22 23 24 25 26 27 28 29 t
noncomputable def G.str:G→String
 | .len=>"len"| .range=>"range"| .reversed=>"reversed"| .list=>"list"| .sorted=>"sorted"| .max=>"max"| .enumerate=>"enumerate"| .set=>"set"| .map=>"map"| .iter=>"iter"| .bool=>"bool"| .tuple=>"tuple"| .StopIteration=>"StopIteration"
 | .gW=>"_NODE_OUT"| .iS=>"_NODE_DONE"| .nR=>"_NodeInfo"| .Match=>"Match"| .SequenceMatcher=>"SequenceMatcher"| .TopologicalSorter=>"TopologicalSorter"
 | .heappop=>"heappop"| .heapify=>"heapify"| .jL=>"_siftdown"| .sD=>"_siftup"| .nS=>"_law_runs"| .eg=>"_law_turned"| .cQ=>"_law_wholly_ahead"| .gk=>"_law_worths"| .e9=>"_law_named"| .dw=>"_law_blocks"| .fF=>"_law_longest"
noncomputable def G.codes(g:G):List Nat:=g.str.toList.map Char.toNat
noncomputable def G.name(g:G):Str:=⟨g.codes.toArray⟩
noncomputable def G.val:G→af
 | .len=> .builtin .len| .range=> .type .range| .reversed=> .type .reversed| .list=> .type .list| .sorted=> .builtin .sorted| .max=> .builtin .max| .enumerate=> .type .enumerate| .set=> .type .set| .map=> .type .map| .iter=> .builtin .iter| .bool=> .type .bool| .tuple=> .type .tuple| .StopIteration=> .type .stop
 | .gW=> .int (-1)| .iS=> .int (-2)| .nR=> .ref 265| .Match=> .ref 135| .SequenceMatcher=> .ref 242| .TopologicalSorter=> .ref 362
 | .heappop=> .ref 373| .heapify=> .ref 380| .jL=> .ref 387| .sD=> .ref 394| .nS=> .ref 401| .eg=> .ref 408| .cQ=> .ref 415| .gk=> .ref 422| .e9=> .ref 427| .dw=> .ref 432| .fF=> .ref 439
set_option genCtorIdx false in
inductive bl where
 |next|brk|cont|ret (x:af)
noncomputable def bl.ctorIdx(t:bl):Nat:=@bl.rec (λaj=>Nat) 0 1 2 (λaj=>3) t
def FR:Flow→bl→Prop
 |f, .next=>f= .next
 |f, .brk=>f= .brk
 |f, .cont=>f= .cont
 |f, .ret x=>∃v,f= .ret v∧VR v x
def qo(l:Nat)(A:Around):Prop:=A.handled=none∧A.depth≤310+10*l∧A.units≤100+100*l∧A.frames.isSome=true∧l≤60
def nT(l:Nat)(A:Around):Prop:=A.handled=none∧A.depth≤315+10*l∧A.units≤150+100*l∧A.frames.isSome=true∧l≤60
theorem qo.depth{l:Nat}{A:Around}(h:qo l A):A.depth<recursionLimit:=by
 have:=h.2.1;have:=h.2.2.2.2;show A.depth<1000;exact Tj (by assumption) this
def qp(K:Addr→Option Obj)(os:Oz)(A:Around):Prop:=∃l,A.frames=some l∧∀e∈l,e.scope.kind≠ .module∧∃L o,e.frame=some L∧os.F L∧K L=some o∧∀vs,o.data≠ .fields vs
inductive PH(prog:Program)(w:World)(K:Addr→Option Obj)(os:Oz)(Q:af→aa→Prop)(v:Value)(s':Shared):Prop
 |mk (x:af) (az:aa) (h:VR v x) (R:aA prog w K os az s') (q:Q x az):PH prog w K os Q v s'
section
variable(prog:Program)(w:World)(B:Addr→Option Obj)
def aF(l:Nat)(f:af)(xs:List af)(Q:af→aa→Prop)(Ω:aa):Prop:=
 ∀K os A s fv vs,(∀a o,B a=some o→K a=some o∧¬os.F a)→qp K os A→qo l A→VR fv f→aP vs xs→aA prog w K os Ω s→
  codeAny (model prog w) A (.call fv ⟨vs,[]⟩) (wants (PH prog w K os Q) (λaj aj=>False)) s
end
set_option genCtorIdx false in
inductive MN where
 |pop (u:Unit:=())|append|extend|sort|clear|get|setdefault|add
 |set_seqs|set_seq1|set_seq2|jM|find_longest_match|get_matching_blocks
 |cR|prepare|get_ready|is_active|done|fm
noncomputable def MN.ctorIdx(t:MN):Nat:=@MN.rec (λaj=>Nat) (λaj=>0) 1 2 3 4 5 6 7 8 9 10 11 12 13 14 15 16 17 18 19 t
noncomputable def MN.str:MN→String
 | .pop=>"pop"| .append=>"append"| .extend=>"extend"| .sort=>"sort"| .clear=>"clear"| .get=>"get"| .setdefault=>"setdefault"| .add=>"add"
 | .set_seqs=>"set_seqs"| .set_seq1=>"set_seq1"| .set_seq2=>"set_seq2"| .jM=>"_SequenceMatcher__chain_b"| .find_longest_match=>"find_longest_match"| .get_matching_blocks=>"get_matching_blocks"
 | .cR=>"_get_nodeinfo"| .prepare=>"prepare"| .get_ready=>"get_ready"| .is_active=>"is_active"| .done=>"done"| .fm=>"_find_cycle"
noncomputable def MN.name(m:MN):Str:=⟨(m.str.toList.map Char.toNat).toArray⟩
noncomputable def jq(C:Addr)(m:MN):Option Addr:=
 if C=242 then(match m with
  | .set_seqs=>some 167| .set_seq1=>some 174| .set_seq2=>some 181| .jM=>some 188| .find_longest_match=>some 196| .get_matching_blocks=>some 203|_=>none)
 else if C=362 then(match m with
  | .cR=>some 305| .add=>some 312| .prepare=>some 317| .get_ready=>some 324| .is_active=>some 331| .done=>some 345| .fm=>some 352|_=>none)
 else none
@[elab_as_elim] theorem zx{M:Addr→MN→Addr→Prop}{C f:Addr}{m:MN}(h:jq C m=some f)(k0:M 242 .set_seqs 167)(k1:M 242 .set_seq1 174)(k2:M 242 .set_seq2 181)(k3:M 242 .jM 188)(k4:M 242 .find_longest_match 196)(k5:M 242 .get_matching_blocks 203)(k6:M 362 .cR 305)(k7:M 362 .add 312)(k8:M 362 .prepare 317)(k9:M 362 .get_ready 324)(k10:M 362 .is_active 331)(k11:M 362 .done 345)(k12:M 362 .fm 352):M C m f:=by
 unfold jq at h
 by_cases q:C=242
 ·rw[if_pos q]at h;subst q
  cases m<;>first|(cases h;assumption)|(cases h;done)
 ·rw[if_neg q]at h
  by_cases q:C=362
  ·rw[if_pos q]at h;subst q
   cases m<;>first|(cases h;assumption)|(cases h;done)
  ·rw[if_neg q]at h;cases h
noncomputable def jN:List Addr:=[135,242,265,362,373,380,387,394,401,408,415,422,427,432,439,167,174,181,188,196,203,305,312,317,324,331,345,352]
noncomputable def aO(es:List (Int×af))(k:Int):Option af:=(es.find? λe=>decide (e.1=k)).map (·.2)
noncomputable def dput(es:List (Int×af))(k:Int)(x:af):List (Int×af):=if (es.any λe=>decide (e.1=k))=true then es.map (λe=>if e.1=k then(e.1,x)else e)else es++[(k,x)]
noncomputable def qq(es:List (Int×af))(k:Int):List (Int×af):=es.filter λe=>decide (e.1≠k)
noncomputable def av(is:List Int):List af:=is.map .int
noncomputable def lim:Nat:=1048576
noncomputable def dz(x y:Int×Int×Int):Bool:=decide (x.1<y.1)||(decide (x.1=y.1)&&(decide (x.2.1<y.2.1)||(decide (x.2.1=y.2.1)&&decide (x.2.2<y.2.2))))
inductive qt(Q:af→aa→Prop)(Ω:aa):Operator→af→af→Prop
 |add {a b:Int} (h:Q (.int (a+b)) Ω):qt Q Ω .Add (.int a) (.int b)
 |sub {a b:Int} (h:Q (.int (a-b)) Ω):qt Q Ω .Sub (.int a) (.int b)
 |mul {a b:Int} (h1:a.natAbs<2^31) (h2:b.natAbs<2^31) (h:Q (.int (a*b)) Ω):qt Q Ω .Mult (.int a) (.int b)
 |div {a b:Int} (h1:0<b) (h2:b<2^30) (h:Q (.int (a/b)) Ω):qt Q Ω .FloorDiv (.int a) (.int b)
 |mod {a b:Int} (h1:0<b) (h2:b<2^30) (h:Q (.int (a%b)) Ω):qt Q Ω .Mod (.int a) (.int b)
 |pow {b:Int} (h1:0≤b) (h2:b≤63) (h:Q (.int (2^b.toNat)) Ω):qt Q Ω .Pow (.int 2) (.int b)
 |shr {a:Int} (h1:0≤a) (h:Q (.int (a/2)) Ω):qt Q Ω .RShift (.int a) (.int 1)
 |cat {p q:Addr} {xs ys:List af} (hp:Ω p=some (.list xs)) (hq:Ω q=some (.list ys)) (h1:xs.length<lim) (h2:ys.length<lim) (h:∀r,Ω r=none→Q (.ref r) (Ω.set r (.list (xs++ys)))):qt Q Ω .Add (.ref p) (.ref q)
 |rep {p:Addr} {n:Int} {x:af} (hp:Ω p=some (.list [x])) (h1:0≤n) (h2:n<1000) (h:∀r,Ω r=none→Q (.ref r) (Ω.set r (.list (List.replicate n.toNat x)))):qt Q Ω .Mult (.ref p) (.int n)
noncomputable abbrev nU(op:Operator)(x y:af)(Q:af→aa→Prop)(Ω:aa):Prop:=qt Q Ω op x y
inductive HV(Q:af→Prop):Operator→af→af→Prop
 |add {a b:Int} (h:Q (.int (a+b))):HV Q .Add (.int a) (.int b)
 |sub {a b:Int} (h:Q (.int (a-b))):HV Q .Sub (.int a) (.int b)
noncomputable abbrev Ak(op:Operator)(x y:af)(Q:af→Prop):Prop:=HV Q op x y
def sE(Ω:aa)(ps:List af)(ts:List (List Int)):Prop:=∃as:List Addr,ps=as.map .ref∧as.length=ts.length∧∀(i:Nat) a t,as[i]?=some a→ts[i]?=some t→Ω a=some (.tup (av t))
structure HW(Ω:aa)(p q:Addr)(ps qs:List af)(ts us:List (List Int)):Prop where
 ne:p≠q
 hp:Ω p=some (.list ps)
 hq:Ω q=some (.list qs)
 tp:sE Ω ps ts
 tq:sE Ω qs us
 l3:∀t∈ts,t.length=3
 l3':∀t∈us,t.length=3
 lt:ts.length<lim
 lt':us.length<lim
 ap:∀a, .ref a∈ps→ .ref a∉qs
inductive gX(Q:Bool→Prop)(Ω:aa):CmpOp→af→af→Prop
 |lt {a b:Int} (h:Q (decide (a<b))):gX Q Ω .Lt (.int a) (.int b)
 |le {a b:Int} (h:Q (decide (a≤b))):gX Q Ω .LtE (.int a) (.int b)
 |gt {a b:Int} (h:Q (decide (a>b))):gX Q Ω .Gt (.int a) (.int b)
 |ge {a b:Int} (h:Q (decide (a≥b))):gX Q Ω .GtE (.int a) (.int b)
 |eq {a b:Int} (h:Q (a==b)):gX Q Ω .Eq (.int a) (.int b)
 |ne {a b:Int} (h:Q (a !=b)):gX Q Ω .NotEq (.int a) (.int b)
 |YD (h:Q true):gX Q Ω .Is .none .none
 |YE {p:Addr} (h:Q false):gX Q Ω .Is (.ref p) .none
 |YF {i:Int} (h:Q false):gX Q Ω .Is (.int i) .none
 |LW (h:Q false):gX Q Ω .IsNot .none .none
 |notR {p:Addr} (h:Q true):gX Q Ω .IsNot (.ref p) .none
 |notI {i:Int} (h:Q true):gX Q Ω .IsNot (.int i) .none
 |YG {k:Int} {p:Addr} {n:Nat} {S:Int→Bool} (hp:Ω p=some (.set n S)) (h:Q (S k)):gX Q Ω .In (.int k) (.ref p)
 |inD {k:Int} {p:Addr} {ep:Nat} {es:List (Int×af)} (hp:Ω p=some (.dict ep es)) (h:Q (aO es k).isSome):gX Q Ω .In (.int k) (.ref p)
 |YH {p q:Addr} {ps qs:List af} {ts us:List (List Int)} (e:HW Ω p q ps qs ts us) (h:Q (ts==us)):gX Q Ω .Eq (.ref p) (.ref q)
 |YI {p q:Addr} {ps qs:List af} {ts us:List (List Int)} (e:HW Ω p q ps qs ts us) (h:Q (ts !=us)):gX Q Ω .NotEq (.ref p) (.ref q)
noncomputable abbrev gm(op:CmpOp)(x y:af)(Q:Bool→Prop)(Ω:aa):Prop:=gX Q Ω op x y
inductive gY(Q:Bool→Prop)(Ω:aa):af→Prop
 |none (h:Q false):gY Q Ω .none
 |bool {b:Bool} (h:Q b):gY Q Ω (.bool b)
 |int {i:Int} (h:Q (i !=0)):gY Q Ω (.int i)
 |list {p:Addr} {xs:List af} (hp:Ω p=some (.list xs)) (hl:xs.length<lim) (h:Q (!xs.isEmpty)):gY Q Ω (.ref p)
noncomputable abbrev cW(x:af)(Q:Bool→Prop)(Ω:aa):Prop:=gY Q Ω x
inductive Cc(Q:af→Prop)(Ω:aa):af→af→Prop
 |list {p:Addr} {k:Int} {xs:List af} {v:af} (hp:Ω p=some (.list xs)) (h0:0≤k) (h1:k<2^62) (hv:xs[k.toNat]?=some v) (h:Q v):Cc Q Ω (.ref p) (.int k)
 |last {p:Addr} {xs:List af} {v:af} (hp:Ω p=some (.list xs)) (hv:xs.getLast?=some v) (hl:xs.length<lim) (h:Q v):Cc Q Ω (.ref p) (.int (-1))
 |cZ {p:Addr} {k:Int} {xs:List af} {v:af} (hp:Ω p=some (.cZ xs)) (h0:0≤k) (h1:k<2^62) (hv:xs[k.toNat]?=some v) (h:Q v):Cc Q Ω (.ref p) (.int k)
 |dict {p:Addr} {k:Int} {ep:Nat} {es:List (Int×af)} {v:af} (hp:Ω p=some (.dict ep es)) (hv:aO es k=some v) (h:Q v):Cc Q Ω (.ref p) (.int k)
noncomputable abbrev Al(x i:af)(Q:af→Prop)(Ω:aa):Prop:=Cc Q Ω x i
inductive sF(v:af)(Q:aa→Prop)(Ω:aa):af→af→Prop
 |list {p:Addr} {k:Int} {xs:List af} (hp:Ω p=some (.list xs)) (h0:0≤k) (h1:k<xs.length) (hl:xs.length<lim) (h:Q (Ω.set p (.list (xs.set k.toNat v)))):sF v Q Ω (.ref p) (.int k)
 |dict {p:Addr} {k:Int} {ep:Nat} {es:List (Int×af)} (hp:Ω p=some (.dict ep es)) (hl:es.length<lim) (h:∀cK,Q (Ω.set p (.dict cK (dput es k v)))):sF v Q Ω (.ref p) (.int k)
noncomputable abbrev jO(x i v:af)(Q:aa→Prop)(Ω:aa):Prop:=sF v Q Ω x i
inductive Cd(t:At)(Q:af→Prop)(Ω:aa):af→Prop
 |inst {a C d:Addr} {k:Nat} {m:At→Option af} {v:af} (ha:Ω a=some (.inst C d)) (hC:C=242∨C=362) (hd:Ω d=some (.ns k m)) (hv:m t=some v) (h:Q v):Cd t Q Ω (.ref a)
 |node {a d:Addr} {k:Nat} {m m':At→Option af} {v:af} (ha:Ω a=some (.node d m)) (ht:dO t≠ .none) (hd:Ω d=some (.ns k m')) (hv:m t=some v) (h:Q v):Cd t Q Ω (.ref a)
noncomputable abbrev rD(x:af)(t:At)(Q:af→Prop)(Ω:aa):Prop:=Cd t Q Ω x
inductive nV(t:At)(v:af)(Q:aa→Prop)(Ω:aa):af→Prop
 |inst {a C d:Addr} {k:Nat} {m:At→Option af} (ha:Ω a=some (.inst C d)) (hC:C=242∨C=362) (ht:dO t= .none) (hd:Ω d=some (.ns k m)) (hk:k<900) (h:Q (Ω.set d (.ns (k+1) (ef.set m t v)))):nV t v Q Ω (.ref a)
 |node {a d:Addr} {k:Nat} {m m':At→Option af} (ha:Ω a=some (.node d m)) (ht:dO t≠ .none) (hd:Ω d=some (.ns k m')) (h:Q (Ω.set a (.node d (ef.set m t v)))):nV t v Q Ω (.ref a)
noncomputable abbrev fq(x:af)(t:At)(v:af)(Q:aa→Prop)(Ω:aa):Prop:=nV t v Q Ω x
def bk(mk:List af→bI)(Ω:aa)(zs:List (Addr×Int×Int×Int)):Prop:=∀z∈zs,Ω z.1=some (mk [.int z.2.1, .int z.2.2.1, .int z.2.2.2])
noncomputable def refsOf(zs:List (Addr×Int×Int×Int)):List af:=zs.map λz=> .ref z.1
def dQ(zs:List (Addr×Int×Int×Int)):Prop:=zs.Pairwise λx y=>dz y.2 x.2=false
inductive qu(Q:af→aa→Prop)(Ω:aa):BI→List af→Prop
 |LX {p:Addr} {ys:List af} (hp:Ω p=some (.list ys)) (hl:ys.length<lim) (h:Q (.int ys.length) Ω):qu Q Ω .len [.ref p]
 |LY {p:Addr} {ys:List af} (hp:Ω p=some (.tup ys)) (hl:ys.length<lim) (h:Q (.int ys.length) Ω):qu Q Ω .len [.ref p]
 |LZ {p:Addr} {ys:List af} (hp:Ω p=some (.cZ ys)) (hl:ys.length<lim) (h:Q (.int ys.length) Ω):qu Q Ω .len [.ref p]
 |L4 {p:Addr} {ep:Nat} {es:List (Int×af)} (hp:Ω p=some (.dict ep es)) (hl:es.length<lim) (h:Q (.int es.length) Ω):qu Q Ω .len [.ref p]
 |sorted {p:Addr} {zs:List (Addr×Int×Int×Int)} (hp:Ω p=some (.list (refsOf zs))) (ht:bk .tup Ω zs) (hl:zs.length<64) (h:∀zs',zs'.Perm zs→dQ zs'→∀r,Ω r=none→Q (.ref r) (Ω.set r (.list (refsOf zs')))):qu Q Ω .sorted [.ref p]
 |nQ {p:Addr} {zs:List (Addr×Int×Int×Int)} (hp:Ω p=some (.list (refsOf zs))) (ht:bk .cZ Ω zs) (hl:zs.length<64) (h:∀zs',zs'.Perm zs→dQ zs'→Q .none (Ω.set p (.list (refsOf zs')))):qu Q Ω .nQ [.ref p]
 |max2 {a b:Int} (h:Q (.int (max a b)) Ω):qu Q Ω .max [.int a, .int b]
 |L5 {p:Addr} {ns:List Int} (hp:Ω p=some (.list (av ns))) (h0:ns≠[]) (h:∀M,M∈ns→(∀a∈ns,a≤M)→Q (.int M) Ω):qu Q Ω .max [.ref p]
 |iter {p:Addr} {ys:List af} (hp:Ω p=some (.list ys)) (h:∀r,Ω r=none→Q (.ref r) (Ω.set r (.d9 p 0))):qu Q Ω .iter [.ref p]
 |pop {p:Addr} {ys:List af} {y:af} (hp:Ω p=some (.list (ys++[y]))) (hl:ys.length+1<lim) (h:Q y (Ω.set p (.list ys))):qu Q Ω .wR [.ref p]
 |append {p:Addr} {ys:List af} {x:af} (hp:Ω p=some (.list ys)) (hl:ys.length<lim) (h:Q .none (Ω.set p (.list (ys++[x])))):qu Q Ω .nE [.ref p,x]
 |extend {p q:Addr} {ys zs:List af} (hne:p≠q) (hp:Ω p=some (.list ys)) (hq:Ω q=some (.list zs)) (hl:ys.length<lim) (hl':zs.length<lim) (h:Q .none (Ω.set p (.list (ys++zs)))):qu Q Ω .lextend [.ref p, .ref q]
 |clear {p:Addr} {ys:List af} (hp:Ω p=some (.list ys)) (hl:ys.length<lim) (h:Q .none (Ω.set p (.list []))):qu Q Ω .sA [.ref p]
 |L6 {p:Addr} {k:Int} {ep:Nat} {es:List (Int×af)} (hp:Ω p=some (.dict ep es)) (h:Q ((aO es k).getD .none) Ω):qu Q Ω .aO [.ref p, .int k]
 |get3 {p:Addr} {k:Int} {x:af} {ep:Nat} {es:List (Int×af)} (hp:Ω p=some (.dict ep es)) (h:Q ((aO es k).getD x) Ω):qu Q Ω .aO [.ref p, .int k,x]
 |Ce {p:Addr} {k:Int} {x y:af} {ep:Nat} {es:List (Int×af)} (hp:Ω p=some (.dict ep es)) (hl:es.length<lim) (hy:aO es k=some y) (h:Q y Ω):qu Q Ω .iR [.ref p, .int k,x]
 |Cf {p:Addr} {k:Int} {x:af} {ep:Nat} {es:List (Int×af)} (hp:Ω p=some (.dict ep es)) (hl:es.length<lim) (hy:aO es k=none) (h:∀cK,Q x (Ω.set p (.dict cK (dput es k x)))):qu Q Ω .iR [.ref p, .int k,x]
 |uF {p:Addr} {k:Int} {n:Nat} {S:Int→Bool} (hp:Ω p=some (.set n S)) (hn:n<4000) (h:Q .none (Ω.set p (.set (if S k then n else n+1) (λj=>S j||decide (j=k))))):qu Q Ω .uF [.ref p, .int k]
 |dM {p:Addr} {k:Int} {n:Nat} {S:Int→Bool} (hp:Ω p=some (.set n S)) (h:Q (.bool (S k)) Ω):qu Q Ω .dM [.ref p, .int k]
noncomputable abbrev biA(b:BI)(xs:List af)(Q:af→aa→Prop)(Ω:aa):Prop:=qu Q Ω b xs
inductive Jo(Q:af→aa→Prop)(Ω:aa):TY→List af→Prop
 |list {p:Addr} {ys:List af} (hp:Ω p=some (.list ys)) (hl:ys.length<lim) (h:∀r,Ω r=none→Q (.ref r) (Ω.set r (.list ys))):Jo Q Ω .list [.ref p]
 |tuple {p:Addr} {ys:List af} (hp:Ω p=some (.list ys)) (hl:ys.length<lim) (h:∀r,Ω r=none→Q (.ref r) (Ω.set r (.tup ys))):Jo Q Ω .tuple [.ref p]
 |set (h:∀r,Ω r=none→Q (.ref r) (Ω.set r (.set 0 λaj=>false))):Jo Q Ω .set []
 |bool {p:Addr} {ys:List af} (hp:Ω p=some (.list ys)) (hl:ys.length<lim) (h:Q (.bool (!ys.isEmpty)) Ω):Jo Q Ω .bool [.ref p]
noncomputable abbrev tyA(t:TY)(xs:List af)(Q:af→aa→Prop)(Ω:aa):Prop:=Jo Q Ω t xs
noncomputable def Cg:MN→Option BI
 | .pop=>some .wR| .append=>some .nE| .extend=>some .lextend| .sort=>some .nQ| .clear=>some .sA|_=>none
noncomputable def Ci:MN→Option BI
 | .get=>some .aO| .setdefault=>some .iR|_=>none
inductive fG(Ω:aa)(m:MN):af→af→Prop
 |list {p:Addr} {ys:List af} {b:BI} (hp:Ω p=some (.list ys)) (hm:Cg m=some b):fG Ω m (.ref p) (.builtin b)
 |dict {p:Addr} {ep:Nat} {es:List (Int×af)} {b:BI} (hp:Ω p=some (.dict ep es)) (hm:Ci m=some b):fG Ω m (.ref p) (.builtin b)
 |set {p:Addr} {n:Nat} {S:Int→Bool} (hp:Ω p=some (.set n S)) (hm:m= .add):fG Ω m (.ref p) (.builtin .uF)
 |own {p C d f:Addr} {k:Nat} {ms:At→Option af} (hp:Ω p=some (.inst C d)) (hd:Ω d=some (.ns k ms)) (hm:jq C m=some f):fG Ω m (.ref p) (.ref f)
inductive rE(Ω:aa)(m:MN)(x:af)(K:af→Prop):Prop
 |mk (f:af) (h:fG Ω m x f) (q:K f):rE Ω m x K
section
variable(prog:Program)(w:World)(B:Addr→Option Obj)(l:Nat)
inductive rF(Q:af→aa→Prop)(Ω:aa):af→List af→Prop
 |bi {b:BI} {xs:List af} (h:qu Q Ω b xs):rF Q Ω (.builtin b) xs
 |ty {t:TY} {xs:List af} (h:Jo Q Ω t xs):rF Q Ω (.type t) xs
 |get {a p:Addr} {k:Int} {x:af} {ep:Nat} {es:List (Int×af)} (ha:Ω a=some (.bound .aO p)) (hp:Ω p=some (.dict ep es)) (h:Q ((aO es k).getD x) Ω):rF Q Ω (.ref a) [.int k,x]
 |cont {a p:Addr} {k:Int} {n:Nat} {S:Int→Bool} (ha:Ω a=some (.bound .dM p)) (hp:Ω p=some (.set n S)) (h:Q (.bool (S k)) Ω):rF Q Ω (.ref a) [.int k]
 |fn {a:Addr} {xs:List af} (ha:a∈jN) (hl:l<60) (h:aF prog w B (l+1) (.ref a) xs Q Ω):rF Q Ω (.ref a) xs
noncomputable abbrev aZ(f:af)(xs:List af)(Q:af→aa→Prop)(Ω:aa):Prop:=rF prog w B l Q Ω f xs
end
set_option genCtorIdx false in
inductive IK where
 |wY (u:Unit:=())|Am|nX|rev|ex|vals
set_option genCtorIdx false in
inductive ME where
 |var (v:V)|glob (g:G)|int (i:Int)|none|bool (b:Bool)
 |bin (op:Operator) (a b:ME)|neg (i:Int)
 |cmp (op:CmpOp) (a b:ME)
 |not (a:ME)|gZ (a b:ME)|ie (a b c d:ME)|Ej (a b:ME)
 |idx (a i:ME)|upto (a n:ME)
 |jP (f:ME)|bH (f a:ME)|call2 (f a b:ME)|ig (f a b c:ME)|uH (f a b c d:ME)
 |bX (o:ME) (m:MN)|fH (o:ME) (m:MN) (a:ME)|mh (o:ME) (m:MN) (a b:ME)|rG (o:ME) (m:MN) (a b c d:ME)
 |kH (o:ME) (m:MN) (e:ME)|kI (o:ME) (m:MN) (a e:ME)
 |attr (o:ME) (t:At)|iu (o:ME) (b:BI)
 |kJ|fP (a:ME)|An (is:List Int)|wZ (a b:ME)|dI (a b c:ME)|nj (a b c d:ME)|fJ
 |Jp (v:V) (e:ME)
 |comp (elt:ME) (v:V) (k:IK) (a b:ME)|fQ (elt:ME) (v:V) (k:IK) (a b:ME) (c:ME)
 |eG (v:V)|kK (c e:ME)
set_option genCtorIdx false in
inductive It where
 |nk (x left step:Int)
 |lst (l:Addr) (i:Nat)
 |tup (t:Addr) (i:Nat)
 |keys (d:Addr) (ep n i:Nat)
 |vals (d:Addr) (ep n i:Nat)
noncomputable def Ew{α:Type}(o:Option (List α))(i:Nat)(f:α→af×It):Option (Option (af×It)):=match o with
 |some xs=>some (xs[i]?.map f)
 |none=>none
theorem zy{α:Type}{o:Option (List α)}{i:Nat}{f:α→af×It}{r:Option (af×It)}(h:Ew o i f=some r):∃xs,o=some xs∧xs[i]?.map f=r:=by
 cases o with
 |none=>cases h
 |some xs=>exact⟨xs,rfl,Option.some.inj h⟩
noncomputable def Cj(o:Option bI):Option (List af):=match o with
 |some (.list xs)=>some xs
 |_=>none
noncomputable def Ck(o:Option bI):Option (List af):=match o with
 |some (.tup xs)=>some xs
 |_=>none
noncomputable def Ao(ep n:Nat)(o:Option bI):Option (List (Int×af)):=match o with
 |some (.dict cK es)=>if cK=ep∧es.length=n then some es else none
 |_=>none
theorem bI.e3{M:bI→Prop}(x:bI)(a:∀xs,M (.list xs))(b:∀xs,M (.tup xs))(c:∀ep es,M (.dict ep es))(d:∀y,Cj (some y)=none→Ck (some y)=none→(∀ep n,Ao ep n (some y)=none)→M y):M x:=by
 cases x with
 |list xs=>exact a xs
 |tup xs=>exact b xs
 |dict ep es=>exact c ep es
 |_=>exact d _ rfl rfl λaj aj=>rfl
theorem HX{o:Option bI}{xs:List af}(h:Cj o=some xs):o=some (.list xs):=by
 cases o with
 |none=>cases h
 |some x=>exact bI.e3 (M:=λx=>Cj (some x)=some xs→some x=some (.list xs)) x (λys h=>congrArg (λys=>some (bI.list ys)) (Option.some.inj h)) (λys h=>by cases h) (λep es h=>by cases h) (λy q aj aj h=>by cases q.symm.trans h) h
theorem HY{o:Option bI}{xs:List af}(h:Ck o=some xs):o=some (.tup xs):=by
 cases o with
 |none=>cases h
 |some x=>exact bI.e3 (M:=λx=>Ck (some x)=some xs→some x=some (.tup xs)) x (λys h=>by cases h) (λys h=>congrArg (λys=>some (bI.tup ys)) (Option.some.inj h)) (λep es h=>by cases h) (λy aj q aj h=>by cases q.symm.trans h) h
theorem Cm{ep n:Nat}{o:Option bI}{es:List (Int×af)}(h:Ao ep n o=some es):o=some (.dict ep es)∧es.length=n:=by
 cases o with
 |none=>cases h
 |some x=>
  exact bI.e3 (M:=λx=>Ao ep n (some x)=some es→some x=some (.dict ep es)∧es.length=n) x (λys h=>by cases h) (λys h=>by cases h) (λcK es' h=>by
   have h:(if cK=ep∧es'.length=n then some es' else none)=some es:=h
   by_cases q:cK=ep∧es'.length=n
   ·rw[if_pos q]at h;cases h;exact⟨q.1▸rfl,q.2⟩
   ·rw[if_neg q]at h;cases h) (λy aj aj q h=>by cases (q ep n).symm.trans h) h
noncomputable def BZ(it:It)(Ω:aa):Option (Option (af×It)):=match it with
 | .nk x left step=>if 0<left then some (some (.int x, .nk (x+step) (left-1) step))else some none
 | .lst l i=>Ew (Cj (Ω l)) i λx=>(x, .lst l (i+1))
 | .tup l i=>Ew (Ck (Ω l)) i λx=>(x, .tup l (i+1))
 | .keys d ep n i=>Ew (Ao ep n (Ω d)) i λe=>(.int e.1, .keys d ep n (i+1))
 | .vals d ep n i=>Ew (Ao ep n (Ω d)) i λe=>(e.2, .vals d ep n (i+1))
inductive GB(Q:It→St→Prop)(st:St):af→Prop
 |mk {n:Int} (h1:-2^40<n) (h2:n<2^40) (q:Q (.nk 0 (max n 0) 1) st):GB Q st (.int n)
inductive L7(Q:It→St→Prop)(st:St):af→Prop
 |mk {n:Int} (h1:0≤n) (h2:n<2^40) (q:Q (.nk (n-1) n (-1)) st):L7 Q st (.int n)
inductive Cn(Q:It→St→Prop)(st:St):af→af→Prop
 |mk {p q:Int} (h1:-2^40<p) (h2:p<2^40) (h3:-2^40<q) (h4:q<2^40) (h:Q (.nk p (max (q-p) 0) 1) st):Cn Q st (.int p) (.int q)
inductive GC(Q:It→St→Prop)(st:St):af→af→Prop
 |mk {p q:Int} (h1:0≤p) (h2:p≤q) (h3:q<2^40) (h:Q (.nk p ((q-p+1)/2) 2) st):GC Q st (.int p) (.int q)
inductive rH(Q:It→St→Prop)(st:St):af→Prop
 |list {p:Addr} {xs:List af} (hp:st.Ω p=some (.list xs)) (q:Q (.lst p 0) st):rH Q st (.ref p)
 |tup {p:Addr} {xs:List af} (hp:st.Ω p=some (.tup xs)) (q:Q (.tup p 0) st):rH Q st (.ref p)
 |dict {p:Addr} {ep:Nat} {es:List (Int×af)} (hp:st.Ω p=some (.dict ep es)) (q:Q (.keys p ep es.length 0) st):rH Q st (.ref p)
inductive Co(Q:It→St→Prop)(st:St):af→Prop
 |mk {p:Addr} {ep:Nat} {es:List (Int×af)} (hp:st.Ω p=some (.dict ep es)) (q:Q (.vals p ep es.length 0) st):Co Q st (.ref p)
def w6(k:IK)(ea eb:(af→St→Prop)→St→Prop)(Q:It→St→Prop)(st:St):Prop:=match k with
 | .wY=>ea (λx s1=>GB Q s1 x) st
 | .rev=>ea (λx s1=>L7 Q s1 x) st
 | .Am=>ea (λx s1=>eb (λy s2=>Cn Q s2 x y) s1) st
 | .nX=>ea (λx s1=>eb (λy s2=>GC Q s2 x y) s1) st
 | .ex=>ea (λx s1=>rH Q s1 x) st
 | .vals=>ea (λx s1=>Co Q s1 x) st
def nY(o:Option (Option (af×It)))(z:Prop)(s:af→It→Prop):Prop:=match o with
 |none=>False
 |some none=>z
 |some (some (x,i))=>s x i
theorem zz{o:Option (Option (af×It))}{z:Prop}{s:af→It→Prop}{P:Prop}(h:nY o z s)(a:o=some none→z→P)(b:∀x i,o=some (some (x,i))→s x i→P):P:=by
 cases o with
 |none=>exact h.elim
 |some q=>
  cases q with
  |none=>exact a rfl h
  |some y=>exact b y.1 y.2 rfl h
def Ex(o:Option af)(z:Prop)(s:af→Prop):Prop:=match o with
 |none=>z
 |some x=>s x
def Ey(o:Option bI)(i:Nat)(z:Prop)(s:af→Prop):Prop:=match o with
 |some (.list xs)=>Ex xs[i]? z s
 |_=>False
theorem HZ{o:Option bI}{i:Nat}{z:Prop}{s:af→Prop}{P:Prop}(h:Ey o i z s)(a:∀xs,o=some (.list xs)→xs[i]?=none→z→P)(b:∀xs x,o=some (.list xs)→xs[i]?=some x→s x→P):P:=by
 cases o with
 |none=>exact h.elim
 |some q=>
  cases q with
  |list xs=>
   have h:Ex xs[i]? z s:=h;cases e:xs[i]? with
   |none=>rw[e]at h;exact a xs rfl e h
   |some x=>rw[e]at h;exact b xs x rfl e h
  |_=>exact h.elim
def eH(elt:(af→St→Prop)→St→Prop)(c:(Bool→St→Prop)→St→Prop)(v:V)(Q:List af→St→Prop):Nat→It→List af→St→Prop
 |0,aj,br,dg=>False
 |n+1,it,ys,st=>nY (BZ it st.Ω) (Q ys st) λx it'=>c (λt s1=>if t then elt (λy s2=>ys.length<lim∧eH elt c v Q n it' (ys++[y]) s2) s1 else eH elt c v Q n it' ys s1) {st with m:=st.m.set v x}
theorem Ez{ee:(af→St→Prop)→St→Prop}{cc:(Bool→St→Prop)→St→Prop}{v:V}{Q:List af→St→Prop}{P:Prop}{n:Nat}{it:It}{ys:List af}{st:St}(h:eH ee cc v Q n it ys st)(z:BZ it st.Ω=some none→Q ys st→P)
  (s:∀k x it',k<n→BZ it st.Ω=some (some (x,it'))→cc (λt s1=>if t then ee (λy s2=>ys.length<lim∧eH ee cc v Q k it' (ys++[y]) s2) s1 else eH ee cc v Q k it' ys s1) {st with m:=st.m.set v x}→P):P:=by
 cases n with
 |zero=>exact h.elim
 |succ k=>
  exact zz h z λx i=>s k x i (Nat.lt_succ_self k)
noncomputable def eS.unset(m:eS)(v:V):eS:=λv'=>if v'=v then none else m v'
section
variable(prog:Program)(w:World)(B:Addr→Option Obj)(l:Nat)
def L8(zs:List (Addr×Int×Int×Int)):Prop:=∀z∈zs,∀az:aa,az z.1=some (.tup [.int z.2.1, .int z.2.2.1, .int z.2.2.2])→
 aF prog w B (l+1) (.ref 89) [.ref 135, .ref z.1] (λx nZ=>∃a,x= .ref a∧az a=none∧nZ a=some (.cZ [.int z.2.1, .int z.2.2.1, .int z.2.2.2])∧∀b o,az b=some o→nZ b=some o) az
inductive H7(v:V)(Q:af→St→Prop)(st:St):Prop
 |mk (x:af) (h:st.m v=some x) (q:Q x st):H7 v Q st
inductive Cp(Q:af→St→Prop)(st:St):af→af→Prop
 |here {p:Addr} {k:Int} {xs:List af} (hp:st.Ω p=some (.list xs)) (h0:0≤k) (h1:k<2^40) (hl:xs.length<lim) (q:∀r,st.Ω r=none→Q (.ref r) {st with Ω:=st.Ω.set r (.list (xs.take k.toNat))}):Cp Q st (.ref p) (.int k)
 |base {p:Addr} {k:Int} {o:Obj} {items:Array Value} {c:Nat} {xs:List af} (hp:st.Ω p=none) (h0:0≤k) (h1:k<2^40) (hB:B p=some o) (hc:o.cls= .type "list") (hd:o.data= .seq items c) (hv:aP items.toList xs) (hl:xs.length<lim) (q:∀r,st.Ω r=none→Q (.ref r) {st with Ω:=st.Ω.set r (.list (xs.take k.toNat))}):Cp Q st (.ref p) (.int k)
inductive uI(K:List af→Prop)(Ω:aa):af→Prop
 |list {p:Addr} {ys:List af} (hp:Ω p=some (.list ys)) (hl:ys.length<lim) (q:K ys):uI K Ω (.ref p)
 |tup {p:Addr} {ys:List af} (hp:Ω p=some (.tup ys)) (hl:ys.length<lim) (q:K ys):uI K Ω (.ref p)
inductive sG(Q:af→St→Prop)(st:St):BI→af→Prop
 |get {p:Addr} {ep:Nat} {es:List (Int×af)} (hp:st.Ω p=some (.dict ep es)) (q:∀r,st.Ω r=none→Q (.ref r) {st with Ω:=st.Ω.set r (.bound .aO p)}):sG Q st .aO (.ref p)
 |cont {p:Addr} {n:Nat} {S:Int→Bool} (hp:st.Ω p=some (.set n S)) (q:∀r,st.Ω r=none→Q (.ref r) {st with Ω:=st.Ω.set r (.bound .dM p)}):sG Q st .dM (.ref p)
 |next {p li:Addr} {i:Nat} (hp:st.Ω p=some (.d9 li i)) (q:∀r,st.Ω r=none→Q (.ref r) {st with Ω:=st.Ω.set r (.bound .dN p)}):sG Q st .dN (.ref p)
inductive zA(Q:af→St→Prop)(st:St):af→af→Prop
 |mk {p:Addr} {ys:List af} (hp:st.Ω p=some (.tup ys)) (hl:ys.length<lim) (q:∀r,st.Ω r=none→Q (.ref r) {st with Ω:=st.Ω.set r (.cZ ys)}):zA Q st (.ref 135) (.ref p)
inductive rI(v:V)(Q:af→St→Prop)(st:St):Prop
 |mk (p:Addr) (zs:List (Addr×Int×Int×Int)) (hm:st.m v=some (.ref p)) (hp:st.Ω p=some (.list (refsOf zs))) (ht:bk .tup st.Ω zs) (hlen:zs.length<lim) (hl:l<55) (YJ:L8 prog w B l zs)
  (q:∀zs' az,zs'.map (·.2)=zs.map (·.2)→bk .cZ az zs'→(∀z∈zs',st.Ω z.1=none)→(∀a,st.Ω a≠none→az a=st.Ω a)→∀r,az r=none→st.Ω r=none→Q (.ref r) {st with Ω:=az.set r (.list (refsOf zs'))}):rI v Q st
def ev:ME→(af→St→Prop)→St→Prop
 | .var v,Q,st=>H7 v Q st
 | .glob g,Q,st=>Q g.val st
 | .int i,Q,st=>Q (.int i) st
 | .none,Q,st=>Q .none st
 | .bool b,Q,st=>Q (.bool b) st
 | .neg i,Q,st=>Q (.int (-i)) st
 | .bin op a b,Q,st=>ev a (λx s1=>ev b (λy s2=>nU op x y (λr Ω=>Q r {s2 with Ω}) s2.Ω) s1) st
 | .cmp op a b,Q,st=>ev a (λx s1=>ev b (λy s2=>gm op x y (λr=>Q (.bool r) s2) s2.Ω) s1) st
 | .not a,Q,st=>ev a (λx s1=>cW x (λt=>Q (.bool (!t)) s1) s1.Ω) st
 | .gZ a b,Q,st=>ev a (λx s1=>cW x (λt=>if t then ev b Q s1 else Q x s1) s1.Ω) st
 | .ie a b c d,Q,st=>ev a (λx s1=>cW x (λt=>if t then ev b (λx s1=>cW x (λt=>if t then ev c (λx s1=>cW x (λt=>if t then ev d Q s1 else Q x s1) s1.Ω) s1 else Q x s1) s1.Ω) s1 else Q x s1) s1.Ω) st
 | .Ej a b,Q,st=>ev a (λx s1=>cW x (λt=>if t then Q x s1 else ev b Q s1) s1.Ω) st
 | .idx a i,Q,st=>ev a (λx s1=>ev i (λy s2=>Al x y (λr=>Q r s2) s2.Ω) s1) st
 | .upto a n,Q,st=>ev a (λx s1=>ev n (λy s2=>Cp B Q s2 x y) s1) st
 | .kJ,Q,st=>∀r,st.Ω r=none→Q (.ref r) {st with Ω:=st.Ω.set r (.list [])}
 | .fJ,Q,st=>∀r,st.Ω r=none→Q (.ref r) {st with Ω:=st.Ω.set r (.dict 0 [])}
 | .fP a,Q,st=>ev a (λx s1=>∀r,s1.Ω r=none→Q (.ref r) {s1 with Ω:=s1.Ω.set r (.list [x])}) st
 | .An is,Q,st=>∀r,st.Ω r=none→Q (.ref r) {st with Ω:=st.Ω.set r (.list (av is))}
 | .wZ a b,Q,st=>ev a (λx s1=>ev b (λy s2=>∀r,s2.Ω r=none→Q (.ref r) {s2 with Ω:=s2.Ω.set r (.tup [x,y])}) s1) st
 | .dI a b c,Q,st=>ev a (λx s1=>ev b (λy s2=>ev c (λz s3=>∀r,s3.Ω r=none→Q (.ref r) {s3 with Ω:=s3.Ω.set r (.tup [x,y,z])}) s2) s1) st
 | .nj a b c d,Q,st=>ev a (λx s1=>ev b (λy s2=>ev c (λz s3=>ev d (λu s4=>∀r,s4.Ω r=none→Q (.ref r) {s4 with Ω:=s4.Ω.set r (.tup [x,y,z,u])}) s3) s2) s1) st
 | .jP f,Q,st=>ev f (λg s1=>aZ prog w B l g [] (λr Ω=>Q r {s1 with Ω}) s1.Ω) st
 | .bH f a,Q,st=>ev f (λg s0=>ev a (λx s1=>aZ prog w B l g [x] (λr Ω=>Q r {s1 with Ω}) s1.Ω) s0) st
 | .call2 f a b,Q,st=>ev f (λg s0=>ev a (λx s1=>ev b (λy s2=>aZ prog w B l g [x,y] (λr Ω=>Q r {s2 with Ω}) s2.Ω) s1) s0) st
 | .ig f a b c,Q,st=>ev f (λg s0=>ev a (λx s1=>ev b (λy s2=>ev c (λz s3=>aZ prog w B l g [x,y,z] (λr Ω=>Q r {s3 with Ω}) s3.Ω) s2) s1) s0) st
 | .uH f a b c d,Q,st=>ev f (λg s0=>ev a (λx s1=>ev b (λy s2=>ev c (λz s3=>ev d (λu s4=>aZ prog w B l g [x,y,z,u] (λr Ω=>Q r {s4 with Ω}) s4.Ω) s3) s2) s1) s0) st
 | .bX o m,Q,st=>ev o (λx s1=>rE s1.Ω m x λf=>aZ prog w B l f [x] (λr Ω=>Q r {s1 with Ω}) s1.Ω) st
 | .fH o m a,Q,st=>ev o (λx s1=>rE s1.Ω m x λf=>ev a (λy s2=>aZ prog w B l f [x,y] (λr Ω=>Q r {s2 with Ω}) s2.Ω) s1) st
 | .mh o m a b,Q,st=>ev o (λx s1=>rE s1.Ω m x λf=>ev a (λy s2=>ev b (λz s3=>aZ prog w B l f [x,y,z] (λr Ω=>Q r {s3 with Ω}) s3.Ω) s2) s1) st
 | .rG o m a b c d,Q,st=>ev o (λx s1=>rE s1.Ω m x λf=>ev a (λy s2=>ev b (λz s3=>ev c (λt s4=>ev d (λu s5=>aZ prog w B l f [x,y,z,t,u] (λr Ω=>Q r {s5 with Ω}) s5.Ω) s4) s3) s2) s1) st
 | .kH o m e,Q,st=>ev o (λx s1=>∃f,fG s1.Ω m x (.ref f)∧ev e (λy s2=>uI (λys=>l<60∧aF prog w B (l+1) (.ref f) (x::ys) (λr Ω=>Q r {s2 with Ω}) s2.Ω) s2.Ω y) s1) st
 | .kI o m a e,Q,st=>ev o (λx s1=>∃f,fG s1.Ω m x (.ref f)∧ev a (λz s2=>ev e (λy s3=>uI (λys=>l<60∧aF prog w B (l+1) (.ref f) (x::z::ys) (λr Ω=>Q r {s3 with Ω}) s3.Ω) s3.Ω y) s2) s1) st
 | .attr o t,Q,st=>ev o (λx s1=>rD x t (λr=>Q r s1) s1.Ω) st
 | .iu o b,Q,st=>ev o (λx s1=>sG Q s1 b x) st
 | .Jp v e,Q,st=>ev e (λx s1=>Q x {s1 with m:=s1.m.set v x}) st
 | .comp elt v k a b,Q,st=>w6 k (ev a) (ev b) (λI s1=>∃n,eH (ev elt) (λq s=>q true s) v (λys s2=>∀r,s2.Ω r=none→Q (.ref r) ⟨s1.m,s2.Ω.set r (.list ys)⟩) n I [] ⟨s1.m.unset v,s1.Ω⟩) st
 | .fQ elt v k a b c,Q,st=>w6 k (ev a) (ev b) (λI s1=>∃n,eH (ev elt) (λq s=>ev c (λx s'=>cW x (λt=>q t s') s'.Ω) s) v (λys s2=>∀r,s2.Ω r=none→Q (.ref r) ⟨s1.m,s2.Ω.set r (.list ys)⟩) n I [] ⟨s1.m.unset v,s1.Ω⟩) st
 | .eG v,Q,st=>rI prog w B l v Q st
 | .kK c e,Q,st=>ev c (λx s1=>ev e (λy s2=>zA Q s2 x y) s1) st
def uJ:ME→(Bool→St→Prop)→St→Prop
 | .not a,Q,st=>uJ a (λt s1=>Q (!t) s1) st
 | .gZ a b,Q,st=>uJ a (λt s1=>if t then uJ b Q s1 else Q false s1) st
 | .ie a b c d,Q,st=>uJ a (λt s1=>if t then uJ b (λt s1=>if t then uJ c (λt s1=>if t then uJ d Q s1 else Q false s1) s1 else Q false s1) s1 else Q false s1) st
 | .Ej a b,Q,st=>uJ a (λt s1=>if t then Q true s1 else uJ b Q s1) st
 | .cmp op a b,Q,st=>ev prog w B l a (λx s1=>ev prog w B l b (λy s2=>gm op x y (λr=>Q r s2) s2.Ω) s1) st
 |e,Q,st=>ev prog w B l e (λx s1=>cW x (λt=>Q t s1) s1.Ω) st
end
structure MI where
 k:IK
 a:ME
 b:ME:= .none
set_option genCtorIdx false in
inductive MT where
 |var (v:V)|at (o:ME) (t:At)|idx (a i:ME)|tup (vs:List V)
set_option genCtorIdx false in
inductive MS where
 |nil
 |asg (ts:List MT) (e:ME) (k:MS)
 |Cq (v:V) (e:ME) (k:MS)
 |jQ (vs:List V) (e:ME) (k:MS)
 |aug (v:V) (op:Operator) (e:ME) (k:MS)
 |mq (o:ME) (t:At) (op:Operator) (e:ME) (k:MS)
 |ifs (c:ME) (a b:MS) (k:MS)
 |oh (c:ME) (b o:MS) (k:MS)
 |ret (e:ME)|Aq
 |exp (e:ME) (k:MS)
 |brk|cont|pass (k:MS)
 |fR (v:V) (it:MI) (b k:MS)
 |Cr (vs:List V) (it:MI) (b k:MS)
 |Cs (vi vx:V) (e:ME) (b k:MS)
 |er (v its d xs:V) (k:MS)
 |dead
def cC(rec:St→Prop)(Q:bl→St→Prop)(fl:bl)(st:St):Prop:=match fl with
 | .next=>rec st
 | .cont=>rec st
 | .brk=>Q .next st
 | .ret x=>Q (.ret x) st
def gO(k:St→Prop)(Q:bl→St→Prop)(fl:bl)(st:St):Prop:=match fl with
 | .next=>k st
 | .cont=>Q .cont st
 | .brk=>Q .brk st
 | .ret x=>Q (.ret x) st
def fT(c:(Bool→St→Prop)→St→Prop)(b o:(bl→St→Prop)→St→Prop)(Q:bl→St→Prop):Nat→St→Prop
 |0,aj=>False
 |n+1,st=>c (λt s1=>if t then b (cC (fT c b o Q n) Q) s1 else o Q s1) st
noncomputable def fU(m:eS):List V→List af→eS
 |v::vs,x::xs=>fU (m.set v x) vs xs
 |aj,br=>m
inductive H8(n:Nat)(Q:List af→Prop)(Ω:aa):af→Prop
 |tup {p:Addr} {ys:List af} (hp:Ω p=some (.tup ys)) (hn:ys.length=n) (h:Q ys):H8 n Q Ω (.ref p)
 |cZ {p:Addr} {ys:List af} (hp:Ω p=some (.cZ ys)) (hn:ys.length=n) (h:Q ys):H8 n Q Ω (.ref p)
noncomputable abbrev uK(x:af)(n:Nat)(Q:List af→Prop)(Ω:aa):Prop:=H8 n Q Ω x
inductive Ct(v its d xs:V)(Q:bl→St→Prop)(K:St→Prop)(st:St):Prop
 |item {pi cs it li:Addr} {ys zs:List af} {i:Nat} {x:af} (h1:st.m its=some (.ref pi)) (h2:st.Ω pi=some (.list (ys++[.ref cs]))) (h3:ys.length+1<lim) (h4:st.Ω cs=some (.bound .dN it)) (h5:st.Ω it=some (.d9 li i)) (h6:st.Ω li=some (.list zs))
  (hx:zs[i]?=some x) (q:Q .brk ⟨st.m.set v x,st.Ω.set it (.d9 li (i+1))⟩):Ct v its d xs Q K st
 |done {pi cs it li pd px:Addr} {ys zs us:List af} {i ep:Nat} {es:List (Int×af)} {k0:Int} (h1:st.m its=some (.ref pi)) (h2:st.Ω pi=some (.list (ys++[.ref cs]))) (h3:ys.length+1<lim) (h4:st.Ω cs=some (.bound .dN it)) (h5:st.Ω it=some (.d9 li i)) (h6:st.Ω li=some (.list zs))
  (hx:zs[i]?=none) (d1:st.m d=some (.ref pd)) (d2:st.m xs=some (.ref px)) (d3:st.Ω pd=some (.dict ep es)) (d4:es.length<lim) (d5:st.Ω px=some (.list (us++[.int k0]))) (d6:us.length+1<lim) (d7:(aO es k0).isSome=true) (d8:pi≠px)
  (q:∀cK,K ⟨st.m,(((st.Ω.set it .junk).set px (.list us)).set pd (.dict cK (qq es k0))).set pi (.list ys)⟩):Ct v its d xs Q K st
def jr(mu:af→(St→Prop)→St→Prop)(b:(bl→St→Prop)→St→Prop)(Q:bl→St→Prop):Nat→It→St→Prop
 |0,aj,br=>False
 |n+1,it,st=>nY (BZ it st.Ω) (Q .next st) λx it'=>mu x (b (cC (jr mu b Q n it') Q)) st
theorem H9{mu:af→(St→Prop)→St→Prop}{b:(bl→St→Prop)→St→Prop}{Q:bl→St→Prop}{P:Prop}{n:Nat}{it:It}{st:St}(h:jr mu b Q n it st)(z:BZ it st.Ω=some none→Q .next st→P)
  (s:∀k x it',k<n→BZ it st.Ω=some (some (x,it'))→mu x (b (cC (jr mu b Q k it') Q)) st→P):P:=by
 cases n with
 |zero=>exact h.elim
 |succ k=>
  exact zz h z λx i=>s k x i (Nat.lt_succ_self k)
def mw(l:Addr)(vi vx:V)(b:(bl→St→Prop)→St→Prop)(Q:bl→St→Prop):Nat→Nat→St→Prop
 |0,aj,br=>False
 |n+1,i,st=>Ey (st.Ω l) i (Q .next st) λx=>b (cC (mw l vi vx b Q n (i+1)) Q) {st with m:=(st.m.set vi (.int i)).set vx x}
theorem zB{l:Addr}{vi vx:V}{b:(bl→St→Prop)→St→Prop}{Q:bl→St→Prop}{P:Prop}{n i:Nat}{st:St}(h:mw l vi vx b Q n i st)(z:∀xs,st.Ω l=some (.list xs)→xs[i]?=none→Q .next st→P)
  (s:∀k xs x,k<n→st.Ω l=some (.list xs)→xs[i]?=some x→b (cC (mw l vi vx b Q k (i+1)) Q) {st with m:=(st.m.set vi (.int i)).set vx x}→P):P:=by
 cases n with
 |zero=>exact h.elim
 |succ k=>
  exact HZ h z λxs x=>s k xs x (Nat.lt_succ_self k)
section
variable(prog:Program)(w:World)(B:Addr→Option Obj)(l:Nat)
def Ma:MT→af→(St→Prop)→St→Prop
 | .var v,x,k,st=>k {st with m:=st.m.set v x}
 | .at o t,x,k,st=>ev prog w B l o (λy s1=>fq y t x (λΩ=>k {s1 with Ω}) s1.Ω) st
 | .idx a i,x,k,st=>ev prog w B l a (λy s1=>ev prog w B l i (λz s2=>jO y z x (λΩ=>k {s2 with Ω}) s2.Ω) s1) st
 | .tup vs,x,k,st=>uK x vs.length (λys=>k {st with m:=fU st.m vs ys}) st.Ω
def zC:List MT→af→(St→Prop)→St→Prop
 |[],aj,k,st=>k st
 |t::ts,x,k,st=>Ma prog w B l t x (zC ts x k) st
def exs:MS→(bl→St→Prop)→St→Prop
 | .nil,Q,st=>Q .next st
 | .asg ts e k,Q,st=>ev prog w B l e (λx s1=>zC prog w B l ts x (exs k Q) s1) st
 | .Cq v e k,Q,st=>ev prog w B l e (λx s1=>exs k Q {s1 with m:=s1.m.set v x}) st
 | .jQ vs e k,Q,st=>ev prog w B l e (λx s1=>uK x vs.length (λys=>exs k Q {s1 with m:=fU s1.m vs ys}) s1.Ω) st
 | .aug v op e k,Q,st=>H7 v (λx st=>ev prog w B l e (λy s1=>Ak op x y (λr=>exs k Q {s1 with m:=s1.m.set v r})) st) st
 | .mq o t op e k,Q,st=>ev prog w B l o (λov s1=>rD ov t (λold=>ev prog w B l e (λy s2=>Ak op old y (λr=>fq ov t r (λaz=>exs k Q {s2 with Ω:=az}) s2.Ω)) s1) s1.Ω) st
 | .ifs c a b k,Q,st=>uJ prog w B l c (λt s1=>if t then exs a (gO (exs k Q) Q) s1 else exs b (gO (exs k Q) Q) s1) st
 | .oh c b o k,Q,st=>∃n,fT (uJ prog w B l c) (exs b) (exs o) (gO (exs k Q) Q) n st
 | .ret e,Q,st=>ev prog w B l e (λx s1=>Q (.ret x) s1) st
 | .Aq,Q,st=>Q (.ret .none) st
 | .exp e k,Q,st=>ev prog w B l e (λaj s1=>exs k Q s1) st
 | .brk,Q,st=>Q .brk st
 | .cont,Q,st=>Q .cont st
 | .pass k,Q,st=>exs k Q st
 | .fR v it b k,Q,st=>w6 it.k (ev prog w B l it.a) (ev prog w B l it.b) (λI s1=>∃n,jr (λx k st=>k {st with m:=st.m.set v x}) (exs b) (gO (exs k Q) Q) n I s1) st
 | .Cr vs it b k,Q,st=>w6 it.k (ev prog w B l it.a) (ev prog w B l it.b) (λI s1=>∃n,jr (λx k st=>uK x vs.length (λys=>k {st with m:=fU st.m vs ys}) st.Ω) (exs b) (gO (exs k Q) Q) n I s1) st
 | .Cs vi vx e b k,Q,st=>ev prog w B l e (λx s1=>match x with
  | .ref p=>∃n,mw p vi vx (exs b) (gO (exs k Q) Q) n 0 s1
  |_=>False) st
 | .er v its d xs k,Q,st=>Ct v its d xs Q (exs k Q) st
 | .dead,Q,st=>False
end
end
section
open PySem PySem.W PyProof.Rows PySem.Calls
inductive PE(prog:Program)(w:World)(C:Cx)(Q:af→St→Prop)(v:Value)(s':Shared):Prop
 |mk (x:af) (st':St) (h:VR v x) (R:Rep prog w C st' s') (q:Q x st'):PE prog w C Q v s'
def bS:Value→Shared→Prop:=λaj aj=>False
inductive PB(prog:Program)(w:World)(C:Cx)(Q:Bool→St→Prop)(t:Bool)(s':Shared):Prop
 |mk (st':St) (R:Rep prog w C st' s') (q:Q t st'):PB prog w C Q t s'
theorem VR.mkInt{i:Int}{t:Tok}:VR (.int i t) (.int i):=⟨t,rfl⟩
@[elab_as_elim] theorem VR.bC{P:Value→Prop}{v:Value}{i:Int}(h:VR v (.int i))(k:∀t,P (.int i t)):P v:=by obtain⟨t,rfl⟩:=h;exact k t
@[elab_as_elim] theorem VR.bg{P:Value→Prop}{v:Value}{a:Addr}(h:VR v (.ref a))(k:P (.ref a)):P v:=by cases h;exact k
@[elab_as_elim] theorem VR.jR{P:Value→Prop}{v:Value}(h:VR v .none)(k:P .none):P v:=by cases h;exact k
section
variable{prog:Program}{w:World}{B:Addr→Option Obj}{l:Nat}{C:Cx}{A:Around}{K:Addr→Option Obj}{os:Oz}{Ω:aa}{s:Shared}
theorem ay{α:Type}{A:Around}{t:Sem α}{Q Q':α→Shared→Prop}{s:Shared}(h:wpAny (model prog w) A t Q bS s)(hQ:∀a s,Q a s→Q' a s):wpAny (model prog w) A t Q' bS s:=wpAny_mono h hQ λaj aj x=>x
theorem ck{α:Type}{A:Around}{t:Sem α}{Q Q':α→Shared→Prop}{E:Value→Shared→Prop}{s:Shared}(h:wpAny (model prog w) A t Q bS s)(hQ:∀a s,Q a s→Q' a s):wpAny (model prog w) A t Q' E s:=wpAny_mono h hQ λaj aj x=>x.elim
theorem OO.uL{items:Array Value}{n:Nat}{xs:List af}(h:aP items.toList xs):OO prog w (.list xs) {cls:= .type "list",data:= .seq items n}:=⟨items,n,rfl,h⟩
theorem OO.N4{items:Array Value}{n:Nat}{xs:List af}(h:aP items.toList xs):OO prog w (.tup xs) {cls:= .type "tuple",data:= .seq items n}:=⟨items,n,rfl,h⟩
theorem OO.mkM{items:Array Value}{n:Nat}{d:Option Addr}{xs:List af}(h:aP items.toList xs):OO prog w (.cZ xs) {cls:= .ref wU,dict:=d,data:= .seq items n}:=⟨items,n,d,rfl,h⟩
inductive LstAt(s:Shared)(T:String)(a:Addr)(xs:List af):Prop
 |mk (items:Array Value) (n:Nat) (h:s.heap.get? a=some {cls:= .type T,data:= .seq items n}) (v:aP items.toList xs) (z:items.size=xs.length):LstAt s T a xs
inductive GD(s:Shared)(a:Addr)(xs:List af):Prop
 |mk (items:Array Value) (n:Nat) (d:Option Addr) (h:s.heap.get? a=some {cls:= .ref wU,dict:=d,data:= .seq items n}) (v:aP items.toList xs) (z:items.size=xs.length):GD s a xs
inductive GF(prog:Program)(w:World)(s:Shared)(a:Addr)(ep:Nat)(es:List (Int×af)):Prop
 |mk (kvs:List (Int×Value)) (h:s.heap.DictAt (intKind prog w) a kvs ep) (v:gU kvs es) (z:(a==sysModules)=false):GF prog w s a ep es
theorem aA.list(R:aA prog w K os Ω s){a:Addr}{xs:List af}(h:Ω a=some (.list xs)):LstAt s "list" a xs:=by
 obtain⟨ob,h1,items,n,rfl,h5⟩:=R.objs a _ h;exact⟨items,n,h1,h5,by rw[←Array.length_toList];exact h5.length⟩
theorem aA.tup(R:aA prog w K os Ω s){a:Addr}{xs:List af}(h:Ω a=some (.tup xs)):LstAt s "tuple" a xs:=by
 obtain⟨ob,h1,items,n,rfl,h5⟩:=R.objs a _ h;exact⟨items,n,h1,h5,by rw[←Array.length_toList];exact h5.length⟩
theorem aA.cZ(R:aA prog w K os Ω s){a:Addr}{xs:List af}(h:Ω a=some (.cZ xs)):GD s a xs:=by
 obtain⟨ob,h1,items,n,d,rfl,h5⟩:=R.objs a _ h;exact⟨items,n,d,h1,h5,by rw[←Array.length_toList];exact h5.length⟩
theorem aA.dict(R:aA prog w K os Ω s){a:Addr}{ep:Nat}{es:List (Int×af)}(h:Ω a=some (.dict ep es)):GF prog w s a ep es:=by
 obtain⟨ob,h1,hx,Eu,kvs,h2,h3,h4,h5,h6⟩:=R.objs a _ h;refine⟨kvs,⟨ob,Eu,h1,hx,h2,h3,h4,h5⟩,h6,?_⟩;have:a≠sysModules:=λq=>by have:=R.sys;rw[←q,h]at this;cases this
 simpa using this
theorem OO.dictOf{h:Heap}{a:Addr}{kvs:List (Int×Value)}{es:List (Int×af)}(x:h.DictOf (intKind prog w) a kvs)(p:gU kvs es):∃ep ob,h.get? a=some ob∧OO prog w (.dict ep es) ob:=by
 obtain⟨o,Eu,ep,h1,h2,h3,h4,h5,h6⟩:=x;exact⟨ep,o,h1,h2,Eu,kvs,h3,h4,h5,h6,p⟩
theorem aA.set(R:aA prog w K os Ω s){a:Addr}{n:Nat}{S:Int→Bool}(h:Ω a=some (.set n S)):s.heap.SetOf (intKind prog w) a S n:=by
 obtain⟨ob,h1,hx,es,ep,t,h2⟩:=R.objs a _ h;exact⟨ob,es,ep,t,h1,hx,h2⟩
theorem OO.setOf{h:Heap}{a:Addr}{n:Nat}{S:Int→Bool}(x:h.SetOf (intKind prog w) a S n):∃ob,h.get? a=some ob∧OO prog w (.set n S) ob:=by
 obtain⟨ob,es,ep,t,h1,hx,h2⟩:=x;exact⟨ob,h1,hx,es,ep,t,h2⟩
theorem gU.length:∀{kvs es},gU kvs es→kvs.length=es.length
 |[],[],aj=>rfl
 |aj::br,dg::gM,h=>congrArg (·+1) (gU.length h.2.2)
 |[],aj::br,h=>h.elim
 |aj::br,[],h=>h.elim
theorem gU.get:∀{kvs es} {i:Nat} {e},gU kvs es→es[i]?=some e→∃v,kvs[i]?=some (e.1,v)∧VR v e.2
 |p::kvs,q::es,0,e,h,x=>by
  cases x;obtain⟨p1,p2⟩:=p;obtain⟨rfl,h2,_⟩:=h;exact⟨p2,rfl,h2⟩
 |p::kvs,q::es,i+1,e,h,x=>by
  rw[List.getElem?_cons_succ]at x ⊢;exact gU.get h.2.2 x
 |[],[],i,e,aj,x=>by simp at x
 |[],aj::br,dg,gM,h,kD=>h.elim
 |aj::br,[],dg,gM,h,kD=>h.elim
theorem gU.jK{kvs es}{i:Nat}(h:gU kvs es)(e:es[i]?=none):kvs[i]?=none:=by
 rw[List.getElem?_eq_none_iff]at e ⊢;rw[h.length];exact e
theorem gU.look:∀{kvs es} (k:Int),gU kvs es→(∃v x,valueAt kvs k=some v∧aO es k=some x∧VR v x)∨(valueAt kvs k=none∧aO es k=none)
 |[],[],k,aj=> .inr ⟨rfl,rfl⟩
 |p::kvs,q::es,k,h=>by
  obtain⟨p1,p2⟩:=p;obtain⟨q1,q2⟩:=q;obtain⟨rfl,h2,h3⟩:=h;dsimp only at h2;unfold valueAt aO;simp only[List.find?_cons]
  by_cases e:p1=k
  ·simp only[e,decide_true]
   exact .inl ⟨p2,q2,rfl,rfl,h2⟩
  ·simp only[e,decide_false]
   exact gU.look k h3
 |[],aj::br,dg,h=>h.elim
 |aj::br,[],dg,h=>h.elim
theorem gU.any:∀{kvs es} (k:Int),gU kvs es→(kvs.any λkv=>decide (kv.1=k))=es.any λe=>decide (e.1=k)
 |[],[],k,aj=>rfl
 |p::kvs,q::es,k,h=>by
  obtain⟨h1,_,h3⟩:=h;rw[List.any_cons,List.any_cons,h1,gU.any k h3]
 |[],aj::br,dg,h=>h.elim
 |aj::br,[],dg,h=>h.elim
theorem gU.append:∀{kvs es us xs},gU kvs es→gU us xs→gU (kvs++us) (es++xs)
 |[],[],aj,br,dg,h=>h
 |aj::br,dg::gM,kD,zw,h,h'=>⟨h.1,h.2.1,gU.append h.2.2 h'⟩
 |[],aj::br,dg,gM,h,kD=>h.elim
 |aj::br,[],dg,gM,h,kD=>h.elim
theorem gU.Cu:∀{kvs es} (k:Int) {v x},gU kvs es→VR v x→gU (kvs.map λkv=>if kv.1=k then(kv.1,v)else kv) (es.map λe=>if e.1=k then(e.1,x)else e)
 |[],[],aj,br,dg,gM,kD=>trivial
 |p::kvs,q::es,k,v,x,h,hx=>by
  obtain⟨h1,h2,h3⟩:=h;rw[List.map_cons,List.map_cons];refine⟨?_,?_,gU.Cu k h3 hx⟩
  ·rw[h1];split<;>first|rfl|exact h1
  ·rw[h1];split<;>first|exact hx|exact h2
 |[],aj::br,dg,gM,kD,h,zw=>h.elim
 |aj::br,[],dg,gM,kD,h,zw=>h.elim
theorem gU.put{kvs es}(k:Int){v x}(h:gU kvs es)(hx:VR v x):gU (stored kvs k v) (dput es k x):=by
 unfold stored dput;rw[h.any k]
 split
 ·exact h.Cu k hx
 ·exact h.append ⟨rfl,hx,trivial⟩
theorem gU.del:∀{kvs es} (k:Int),gU kvs es→gU (without kvs k) (qq es k)
 |[],[],aj,br=>trivial
 |p::kvs,q::es,k,h=>by
  obtain⟨h1,h2,h3⟩:=h;unfold without qq;rw[List.filter_cons,List.filter_cons,h1]
  split
  ·exact⟨h1,h2,gU.del k h3⟩
  ·exact gU.del k h3
 |[],aj::br,dg,h=>h.elim
 |aj::br,[],dg,h=>h.elim
theorem cu{k:Int}{t:Tok}:(intKind prog w).is k (.int k t)=true:=by show Value.isInt k (.int k t)=true;simp[Value.isInt]
theorem aA.uM(R:aA prog w K os Ω s){ob:Obj}{o:bI}{t:Nat}{Q:af→aa→Prop}(hf:ob.isFreed=false)(ho:OO prog w o ob)(h:∀r,Ω r=none→Q (.ref r) (Ω.set r o)):
  PH prog w K os Q (.ref s.heap.objs.size) {s with heap:=s.heap.push ob,toks:=t}:=
 ⟨.ref _,_,rfl,R.make hf ho,h _ R.bE⟩
theorem cB{a:Addr}{items:Array Value}{n:Nat}{h:Heap}(e:h.get? a=some {cls:= .type "list",data:= .seq items n}):h.IsList a items:=⟨_,e,rfl,n,rfl⟩
theorem aP.empty{items:Array Value}{xs:List af}(h:aP items.toList xs):(!items.isEmpty)=(!xs.isEmpty):=by
 have e:items.size=xs.length:=by rw[←Array.length_toList];exact h.length
 cases xs with
 |nil=>rw[Array.eq_empty_of_size_eq_zero e];rfl
 |cons y ys=>simp only[List.isEmpty_cons,Array.isEmpty,e,List.length_cons];simp
theorem aP.WW{items:Array Value}{x:af}(h:aP items.toList [x]):∃v,items=#[v]∧VR v x:=by
 obtain⟨l⟩:=items;cases l with
 |nil=>exact h.elim
 |cons v l=>cases l with
  |nil=>exact⟨v,rfl,h.1⟩
  |cons aj br=>exact h.2.elim
theorem aP.replicate{v:Value}{x:af}(h:VR v x):∀n,aP (List.replicate n v) (List.replicate n x)
 |0=>trivial
 |n+1=>⟨h,aP.replicate h n⟩
theorem Cv(v:Value)(n:Nat):(List.foldl (λx1 x2=>x1++x2) (#[]:Array Value) (List.replicate n #[v])).toList=List.replicate n v:=by
 have:∀(acc:Array Value) n,(List.foldl (λx1 x2=>x1++x2) acc (List.replicate n #[v])).toList=acc.toList++List.replicate n v:=by
  intro acc n
  induction n generalizing acc with
  |zero=>simp
  |succ n ih=>rw[List.replicate_succ,List.foldl_cons,ih];simp[List.replicate_succ]
 simpa using this #[] n
theorem Ar{E:Value→Shared→Prop}{l:Addr}{v:Value}{k:Nat}{x:Int}{u:Tok}{Q:Value→Shared→Prop}
  (hl:s.heap.get? l=some {cls:= .type "list",dict:=none,data:= .seq #[v] k,slots:=#[]}) (hlo:0≤x) (hhi:x<1000)
  (h:Q (.ref s.heap.objs.size) {s with heap:=s.heap.push {cls:= .type "list",data:= .seq (List.foldl (λx1 x2=>x1++x2) #[] (List.replicate (if (#[v]:Array Value).isEmpty=true then 0 else x.toNat) #[v]))}}):
  wpAny (model prog w) A (binaryOp .Mult (.ref l) (.int x u)) Q E s:=
 wpAny_binaryOp_repeat_ref (T:="list") (U:="int") (by decide) ⟨_,hl,rfl⟩ (λs'=>typeIs_int s' x u) noFill_list_mul F.fills_int_mul F.slot_int_rmul repeat_list F.slot_int_index.lookup
  (call_meets F.slot_int_rmul (typeIs_int s x u) F.entry_int_rmul (F.args_int_rmul_2 _ _) (int___rmul___int_list x u l #[v] k)
   ⟨hl,rfl,⟨_,hl,rfl⟩,call_meets F.slot_list_mul ⟨_,hl,rfl⟩ F.entry_list_mul (F.args_list_mul_2 _ _)
    (AutoListH.list___mul___list_int_3 l #[v] k x u (by simp[Builtin.List.listFitsIndex];exact⟨WC hlo,WD hhi⟩) (by simp;exact WE hhi) (by simp[Builtin.List.listTooLong,sizeLine];exact WG hhi))
    ⟨hl,h⟩⟩)
theorem w7{op:Operator}{v u:Value}{x y:af}{Q:af→aa→Prop}(R:aA prog w K os Ω s)(hv:VR v x)(hu:VR u y)
  (h:nU op x y Q Ω):wpAny (model prog w) A (binaryOp op v u) (PH prog w K os Q) bS s:=by
 cases h with
 |add h=>exact VR.bC hv λt=>VR.bC hu λt'=>add_int ⟨.int _,Ω,VR.mkInt,R.toks,h⟩
 |sub h=>exact VR.bC hv λt=>VR.bC hu λt'=>sub_int ⟨.int _,Ω,VR.mkInt,R.toks,h⟩
 |mul h1 h2 h=>exact VR.bC hv λt=>VR.bC hu λt'=>mul_int ⟨.int _,Ω,VR.mkInt,R.toks,h⟩ (PySem.IntMulOk.of_left (intBits_le_64 (Qu h1) (J4 h1)))
 |div h1 h0 h2=>
  refine VR.bC hv λt=>VR.bC hu λt'=>floordiv_int (Int.ne_of_gt h1) ?_ (.inl (PyProof.noPylong_small (Qv h1 h0)))
  rw[Int.fdiv_eq_ediv_of_nonneg _ (Int.le_of_lt h1)];exact⟨.int _,Ω,VR.mkInt,R.toks,h2⟩
 |mod h1 h0 h2=>
  refine VR.bC hv λt=>VR.bC hu λt'=>mod_int' (Int.ne_of_gt h1) ?_
  rw[Int.fmod_eq_emod_of_nonneg _ (Int.le_of_lt h1)];exact⟨.int _,Ω,VR.mkInt,R.toks,h2⟩
 |pow h1 h2 h3=>
  exact VR.bC hv λt=>VR.bC hu λt'=>pow_int h1 (by rw[show Builtin.Int.intBits 2=2 by decide];omega) ⟨.int _,Ω,VR.mkInt,R.toks,h3⟩
 |shr h1 h2=>
  refine VR.bC hv λt=>VR.bC hu λt'=>rshift_int (by decide) ?_
  rw[show (2:Int)^(1:Int).toNat=2 by decide,Int.fdiv_eq_ediv_of_nonneg _ (by decide)];exact⟨.int _,Ω,VR.mkInt,R.toks,h2⟩
 |cat e1 e2 l1 l2 hq=>
  obtain⟨items,n,g1,g2,g3⟩:=R.list e1;obtain⟨items2,n2,k1,k2,k3⟩:=R.list e2;exact VR.bg hv (VR.bg hu (PySem.P.add_list (show IsL s.heap _ items n from g1) (show IsL s.heap _ items2 n2 from k1) (R.uM (t:=s.toks) rfl (OO.uL (by rw[Array.toList_append];exact g2.append k2)) hq) (by rw[g3,k3,sizeLine_eq];unfold lim at l1 l2;exact Ve l1 l2)))
 |rep e1 h1 h2 hq=>
  obtain⟨items,c,g1,g2,g3⟩:=R.list e1;obtain⟨v',g4,g5⟩:=g2.WW;exact VR.bg hv (VR.bC hu λt'=>Ar (v:=v') (by rw[←g4];exact g1) (h1) (h2) (R.uM (t:=s.toks) rfl (OO.uL (by
    rw[if_neg (by simp),Cv];exact aP.replicate g5 _)) hq))
theorem w9{op:CmpOp}{v u:Value}{x y:af}{Q:Bool→Prop}(R:aA prog w K os Ω s)(hv:VR v x)(hu:VR u y)
  (hE:∀{p q ps qs ts us},HW Ω p q ps qs ts us→Q (ts==us)→wpAny (model prog w) A (compareOp .Eq (.ref p) (.ref q)) (λr s'=>∃b,r= .bool b∧aA prog w K os Ω s'∧Q b) bS s)
  (hN:∀{p q ps qs ts us},HW Ω p q ps qs ts us→Q (ts !=us)→wpAny (model prog w) A (compareOp .NotEq (.ref p) (.ref q)) (λr s'=>∃b,r= .bool b∧aA prog w K os Ω s'∧Q b) bS s)
  (h:gm op x y Q Ω):wpAny (model prog w) A (compareOp op v u) (λr s'=>∃b,r= .bool b∧aA prog w K os Ω s'∧Q b) bS s:=by
 cases h with
 |lt h=>exact VR.bC hv λt=>VR.bC hu λt'=>lt_int ⟨_,rfl,R,h⟩
 |le h=>exact VR.bC hv λt=>VR.bC hu λt'=>le_int ⟨_,rfl,R,h⟩
 |gt h=>exact VR.bC hv λt=>VR.bC hu λt'=>gt_int ⟨_,rfl,R,h⟩
 |ge h=>exact VR.bC hv λt=>VR.bC hu λt'=>ge_int ⟨_,rfl,R,h⟩
 |eq h=>exact VR.bC hv λt=>VR.bC hu λt'=>eq_int ⟨_,rfl,R,h⟩
 |ne h=>exact VR.bC hv λt=>VR.bC hu λt'=>ne_int ⟨_,rfl,R,h⟩
 |YD h=>exact VR.jR hv (VR.jR hu (wpAny_is_plain rfl ⟨_,rfl,R,h⟩))
 |YE h=>exact VR.bg hv (VR.jR hu (wpAny_is_plain rfl ⟨_,rfl,R,h⟩))
 |YF h=>exact VR.bC hv λt=>VR.jR hu (wpAny_is_plain rfl ⟨_,rfl,R,h⟩)
 |LW h=>exact VR.jR hv (VR.jR hu (wpAny_isNot_plain rfl ⟨_,rfl,R,h⟩))
 |notR h=>exact VR.bg hv (VR.jR hu (wpAny_isNot_plain rfl ⟨_,rfl,R,h⟩))
 |notI h=>exact VR.bC hv λt=>VR.jR hu (wpAny_isNot_plain rfl ⟨_,rfl,R,h⟩)
 |YG e h=>exact VR.bC hv λt=>VR.bg hu (wpAny_inSet_of (knd:=intKind prog w) cu rfl (R.set e) ⟨_,rfl,R.toks,h⟩)
 |inD e h=>
  obtain⟨kvs,h1,h2,h3⟩:=R.dict e;refine VR.bC hv λt=>VR.bg hu (wpAny_in_of (knd:=intKind prog w) cu h3 h1.dictOf.mapOf ⟨_,rfl,R.toks,?_⟩)
  rcases h2.look _ with⟨v,x,e1,e2,_⟩|⟨e1,e2⟩
  ·rw[e1];rw[e2]at h;exact h
  ·rw[e1];rw[e2]at h;exact h
 |YH e h=>exact VR.bg hv (VR.bg hu (hE e h))
 |YI e h=>exact VR.bg hv (VR.bg hu (hN e h))
theorem sI{v:Value}{x:af}{Q:Bool→Prop}(R:aA prog w K os Ω s)(hv:VR v x)
  (h:cW x Q Ω):wpAny (model prog w) A (truthy v) (λt s'=>aA prog w K os Ω s'∧Q t) bS s:=by
 cases h with
 |none h=>exact VR.jR hv (truthy_none ⟨R,h⟩)
 |bool h=>cases hv;exact λaj aj aj=>⟨R,h⟩
 |int h=>exact VR.bC hv λt=>truthy_int ⟨R,h⟩
 |list e hl h=>
  obtain⟨items,n,h1,h2,h3⟩:=R.list e;refine VR.bg hv (wpAny_truthy_list (cB h1) (by rw[h3];unfold lim at hl;exact Lj hl) ?_);rw[aP.empty h2];exact⟨R.toks,h⟩
theorem qv{v u r:Value}{x y z:af}{Q:aa→Prop}(R:aA prog w K os Ω s)(hv:VR v x)(hu:VR u y)(hr:VR r z)
  (h:jO x y z Q Ω):wpAny (model prog w) A (setItem v u r) (λaj s'=>∃az,aA prog w K os az s'∧Q az) bS s:=by
 cases h with
 |list e h1 h2 h3 h4=>
  obtain⟨items,n,g1,g5,hsz⟩:=R.list e;unfold lim at h3;exact VR.bg hv (VR.bC hu λt=>ki_setAt (n:=n) g1 h1 (WH h2 h3) (by rw[hsz];exact h2) ⟨_,R.upd (o':= .list (List.set _ _ z)) e (Heap.SameBut.update ..) (PySem.IsL.update (n:=n) g1 _) (OO.uL (by rw[Array.toList_setIfInBounds];exact g5.set _ hr)),h4⟩)
 |dict e h1 h2=>
  obtain⟨kvs,g1,g2,g3⟩:=R.dict e;refine VR.bg hv (VR.bC hu λt=>wpAny_setItem_pairs (knd:=intKind prog w) cu g1.dictOf (λh' hd hs=>?_) (by rw[g2.length,sizeLine_eq];unfold lim at h1;exact O8 h1));obtain⟨cK,ob,k1,k2⟩:=OO.dictOf hd (g2.put _ hr);exact⟨_,R.upd e hs k1 k2,h2 cK⟩
end
section
variable{prog:Program}{w:World}{A:Around}{K:Addr→Option Obj}{os:Oz}{Ω:aa}{s:Shared}
theorem aA.Ia(R:aA prog w K os Ω s){h':Heap}{a:Addr}{ob:Obj}{o:bI}{t:Nat}(k:∀b o,s.heap.get? b=some o→h'.get? b=some o)(ha:s.heap.objs.size≤a)(hg:h'.get? a=some ob)(ho:OO prog w o ob):
  aA prog w K os (Ω.set a o) {s with heap:=h',toks:=t}∧Ω a=none:=by
 have jb:Ω a=none:=by
  cases e:Ω a with
  |none=>rfl
  |some o=>exact absurd (R.lt (a:=a) (by rw[e];simp)) (Nat.not_lt.mpr ha)
 have hK:K a=none:=by
  cases e:K a with
  |none=>rfl
  |some o=>obtain⟨o',h3,_⟩:=R.kept _ _ e;exact absurd (Heap.lt_size h3) (Nat.not_lt.mpr ha)
 have hs:sysModules≠a:=λq=>by
  obtain⟨c,oc,h1,h2⟩:=R.two;obtain⟨o',h3,_⟩:=R.kept c oc h2;have:=Heap.lt_size h3;rw[←q]at ha;exact absurd (Nat.lt_of_lt_of_le (Nat.lt_trans h1 this) ha) (show ¬(1<sysModules) by decide)
 refine⟨⟨R.gens,R.os,λb ob e=>let ⟨o',h1,h2⟩:=R.kept b ob e;⟨o',k b o' h1,h2⟩,λb o' e=>?_,λb e=>?_,R.two,?_,R.nG⟩,jb⟩
 ·by_cases h:b=a
  ·subst h;rw[aa.set_same]at e;cases e;exact⟨ob,hg,ho⟩
  ·rw[aa.ai h]at e
   obtain⟨ob,h1,h2⟩:=R.objs b o' e;exact⟨ob,k b ob h1,h2⟩
 ·by_cases h:b=a
  ·subst h;exact hK
  ·rw[aa.ai h]at e;exact R.apart b e
 ·rw[aa.ai hs];exact R.sys
@[elab_as_elim] theorem aP.jS{P:List Value→Prop}{vs:List Value}(h:aP vs [])(k:P []):P vs:=by
 cases vs with
 |nil=>exact k
 |cons aj br=>exact h.elim
@[elab_as_elim] theorem aP.dS{P:List Value→Prop}{vs:List Value}{x:af}{xs:List af}(h:aP vs (x::xs))(k:∀u us,VR u x→aP us xs→P (u::us)):P vs:=by
 cases vs with
 |nil=>exact h.elim
 |cons u us=>exact k u us h.1 h.2
theorem aP.zero{vs:List Value}(h:aP vs []):vs=[]:=aP.jS h rfl
@[elab_as_elim] theorem aP.bg{P:List Value→Prop}{vs:List Value}{p:Addr}(h:aP vs [.ref p])(k:P [.ref p]):P vs:=
 aP.dS h λu us hu hs=>aP.jS hs (VR.bg hu k)
@[elab_as_elim] theorem aP.Cw{P:List Value→Prop}{vs:List Value}{p:Addr}{x:af}(h:aP vs [.ref p,x])(k:∀u,VR u x→P [.ref p,u]):P vs:=
 aP.dS h λu us hu hs=>aP.dS hs λu' us' mz hs'=>aP.jS hs' (VR.bg hu (k u' mz))
@[elab_as_elim] theorem aP.ixE{P:List Value→Prop}{vs:List Value}{i:Int}{x:af}(h:aP vs [.int i,x])(k:∀t u,VR u x→P [.int i t,u]):P vs:=
 aP.dS h λu us hu hs=>aP.dS hs λu' us' mz hs'=>aP.jS hs' (VR.bC hu λt=>k t u' mz)
@[elab_as_elim] theorem aP.iE{P:List Value→Prop}{vs:List Value}{i:Int}(h:aP vs [.int i])(k:∀t,P [.int i t]):P vs:=
 aP.dS h λu us hu hs=>aP.jS hs (VR.bC hu k)
@[elab_as_elim] theorem aP.WX{P:List Value→Prop}{vs:List Value}{p:Addr}{i:Int}(h:aP vs [.ref p, .int i])(k:∀t,P [.ref p, .int i t]):P vs:=
 aP.Cw h λu hu=>VR.bC hu k
@[elab_as_elim] theorem aP.Ib{P:List Value→Prop}{vs:List Value}{p:Addr}{i:Int}{x:af}(h:aP vs [.ref p, .int i,x])(k:∀t u,VR u x→P [.ref p, .int i t,u]):P vs:=
 aP.dS h λu us hu hs=>aP.dS hs λu' us' mz hs'=>aP.dS hs' λu'' us'' WY WZ=>aP.jS WZ (VR.bg hu (VR.bC mz λt=>k t u'' WY))
theorem aP.allInts:∀{vs:List Value} {ns:List Int},aP vs (av ns)→∃xs:List (Int×Tok),vs=xs.map (λp=> .int p.1 p.2)∧xs.map (·.1)=ns
 |[],[],aj=>⟨[],rfl,rfl⟩
 |v::vs,n::ns,h=>by
  obtain⟨⟨t,rfl⟩,h2⟩:=h;obtain⟨xs,rfl,rfl⟩:=aP.allInts h2;exact⟨(n,t)::xs,rfl,rfl⟩
 |[],aj::br,h=>h.elim
 |aj::br,[],h=>h.elim
theorem oj{E:Value→Shared→Prop}{p:Addr}{items:Array Value}{Q:Value→Shared→Prop}(hl:s.heap.IsList p items)
  (h:Q (.ref s.heap.objs.size) {s with heap:=s.heap.push {cls:= .type "list_iterator",data:= .fields #[.ref p, .int 0 0]}}):wpAny (model prog w) A (call (.builtin "iter") [.ref p]) Q E s:=by
 refine call_function_entry (by decide+kernel) (by decide+kernel) kdk_entry_iter (kdk_args_iter _) ?_;unfold Builtin.«iter»;refine wpAny_bind (m:=someArgs "iter" 1 2 _) (wpAny_of_eq (a:=[Value.ref p]) (by first|rfl|kernel_rfl!) ?_);show wpAny _ _ (pyIter (.ref p)>>=_) _ _ _;exact wpAny_bind (wpAny_pyIter_list hl (wpAny_pure ⟨_,rfl,h⟩))
theorem jh{E:Value→Shared→Prop}{A':Around}{a:Addr}{S:Int→Bool}{n:Nat}{k:Int}{t:Tok}{Q:Value→Shared→Prop}(hS:s.heap.SetOf (intKind prog w) a S n)
  (h:Q (.bool (S k)) {s with toks:=s.toks+1}):wpAny (model prog w) A' (Builtin.«frozenset.__contains__» ⟨[.ref a, .int k t],[]⟩)
   (λfin s'=>match fin with| .done f=>wants Q E (.ok f) s'| .again c'=>c'.quiet=true∧codeAny (model prog w) A c' (wants Q E) s') (λe s'=>wants Q E (.error e) s') s:=by
 unfold Builtin.«frozenset.__contains__» Builtin.Frozenset.oneOther;simp only[List.isEmpty_nil,bind_assoc];unfold Builtin.Frozenset.addrOf Builtin.Frozenset.withSetAsKey setContains;refine wpAny_bind (wpAny_pure ?_)
 try dsimp only
 refine wpAny_bind (wpAny_pure ?_)
 try dsimp only
 refine wpAny_bind (wpAny_tryCatch ?_);refine wpAny_holding ?_;refine wpAny_bind ((intKind prog w).pyHash (k:=k) cu ?_);refine wpAny_bind (wpAny_setFind_of (s:={s with toks:=s.toks+1}) (knd:=intKind prog w) (k:=k) cu rfl hS λr hr=>?_);refine wpAny_pure ?_;show wpAny _ _ (ret (Value.bool r.isSome)) _ _ _;rw[hr];exact wpAny_pure h
theorem qw{E:Value→Shared→Prop}{a:Addr}{S:Int→Bool}{n:Nat}{k:Int}{t:Tok}{Q:Value→Shared→Prop}(hS:s.heap.SetOf (intKind prog w) a S n)
  (h:Q (.bool (S k)) {s with toks:=s.toks+1}):wpAny (model prog w) A (call (.builtin "set.__contains__") [.ref a, .int k t]) Q E s:=
 wpAny_call (codeAny_call_builtin F.slot_set_contains.plain entry_set_contains (F.slot_set_contains.check _ _ _ _ _ _ _ _ hS.typeIs (F.args_set_contains_2 _ _) (jh hS h)))
theorem kL{E:Value→Shared→Prop}{d:Addr}{kvs:List (Int×Value)}{k:Int}{key dflt:Value}{Q:Value→Shared→Prop}(hkey:(intKind prog w).is k key=true)(hm:s.heap.DictOf (intKind prog w) d kvs)
  (hthere:∀v,valueAt kvs k=some v→Q v {s with toks:=s.toks+1})
  (hnew:valueAt kvs k=none→∀h',h'.DictOf (intKind prog w) d (stored kvs k dflt)→Heap.SameBut d s.heap h'→Q dflt {s with heap:=h',toks:=s.toks+1})
  (hsz:kvs.length≤sizeLine):
  wpAny (model prog w) A (dictSetDefault d key dflt) Q E s:=by
 obtain⟨o,es,ep,ho,hc,hd,hk,hp,hn⟩:=hm;have hes:es.size≤sizeLine:=by
  have e1:=hp.length;have e2:es.toList.length=es.size:=by simp
  exact SN e2 e1 hsz
 have hmap:∀k',findBy (intKind prog w).is es k'=valueAt kvs k':=λk'=>by
  rw[←hp.find k'];obtain⟨l⟩:=es;simp[findBy]
 unfold dictSetDefault
 try with_reducible refine wpAny_holding ?_
 refine wpAny_bind ((intKind prog w).pyHash hkey ?_);refine wpAny_bind (wpAny_dictFind_of (s:={s with toks:=s.toks+1}) hkey ho hd hk ?_);have hidx:(es.findIdx? λe=>(intKind prog w).is k e.key)=kvs.findIdx? λkv=>decide (kv.1=k):=by
  rw[←hp.findIdx k];obtain⟨l⟩:=es;simp
 cases hi:es.findIdx? λe=>(intKind prog w).is k e.key with
 |some i=>
  have N5:valueAt kvs k=(es[i]?).map (·.val):=by rw[←hmap k,findBy_of_findIdx?,hi]
  refine wpAny_bind (wpAny_dictEntries (s:={s with toks:=s.toks+1}) ho hd ?_);cases he:es[i]? with
  |none=>
   exfalso;have:=Array.findIdx?_eq_some_iff_findIdx_eq.mp hi;have hlt:i<es.size:=this.1;rw[Array.getElem?_eq_getElem hlt]at he;exact nomatch he
  |some e=>
   rw[he]at N5;exact wpAny_bind (wpAny_rule (wpAny_pure (hthere e.val N5)))
 |none=>
  have N5:valueAt kvs k=none:=by rw[←hmap k,findBy_of_findIdx?,hi]
  have hnot:k∉kvs.map (·.1):=not_mem_of_findIdx_none (hidx▸hi);have hany:¬(kvs.any λkv=>decide (kv.1=k))=true:=by
   rw[List.any_eq_true];intro aH;obtain⟨kv,hkv,he⟩:=aH;exact hnot (List.mem_map.mpr ⟨kv,hkv,of_decide_eq_true he⟩)
  refine wpAny_bind (wpAny_rule (wpAny_bind (wpAny_updateDictKeys (hz:=hes) (s:={s with toks:=s.toks+1}) ho hd (wpAny_pure (hnew N5 _ ⟨_,_,ep+1,Heap.get?_update_self _ ho (Obj.isFreed_of_dict (Obj.data_mapDictKeys hd _)),
   hc.mapDictKeys _,Obj.data_mapDictKeys hd _,hk.push hkey _,?_,?_⟩ (Heap.SameBut.update ..))))))
  ·rw[stored,if_neg hany]
   have:=hp.append hkey ((intKind prog w).hash k) dflt;obtain⟨l⟩:=es
   simpa using this
  ·rw[stored,if_neg hany,List.map_append,List.nodup_append]
   refine⟨hn,by simp,?_⟩;intro a ha b hb;simp only[List.map_cons,List.map_nil,List.mem_singleton]at hb;subst hb;exact λe=>hnot (e▸ha)
theorem fX{k:Int}{key:Value}(d:Addr)(hkey:(intKind prog w).is k key=true)(hd:(d==sysModules)=false)(dflt:Value):
  MeetsIn prog w (Builtin.«dict.setdefault» ⟨[.ref d,key,dflt],[]⟩) (λaj R s=>∃kvs,s.heap.DictOf (intKind prog w) d kvs∧kvs.length≤sizeLine∧
   (∀v,valueAt kvs k=some v→R (.ok (.ret v)) {s with toks:=s.toks+1})∧
   (valueAt kvs k=none→∀h',h'.DictOf (intKind prog w) d (stored kvs k dflt)→Heap.SameBut d s.heap h'→R (.ok (.ret dflt)) {s with heap:=h',toks:=s.toks+1})):=
 .of_wp λA R s ⟨kvs,hm,hz,h1,h2⟩=>by
  unfold Builtin.«dict.setdefault»;refine wpAny_bind ?_;unfold Builtin.Dict.keyAndDefault;refine wpAny_bind (wpAny_notOrdered_dict hm.typeIs ?_);show wpAny _ _ (pure (d,key,some dflt)) _ _ s;refine wpAny_pure ?_;show wpAny _ _ (if (d==sysModules)=true then _ else(dictSetDefault d key dflt>>=_)) _ _ s;rw[if_neg (by rw[hd];exact Bool.false_ne_true)];exact wpAny_bind (kL hkey hm (λv hv=>wpAny_pure ⟨v,rfl,h1 v hv⟩) (λhn h' hm' hs'=>wpAny_pure ⟨dflt,rfl,h2 hn h' hm' hs'⟩) hz)
theorem nu(p:Addr)(items:Array Value)(hfit:(items.size:Int)<2^63):Meets (Builtin.«bool.__new__» ⟨[.type "bool", .ref p],[]⟩) (λaj R s=>s.heap.IsList p items∧∀t,R (.ok (.ret (.bool (!items.isEmpty)))) {s with toks:=t}):=
 Meets.of_wp λprog w A R s hs=>by
  obtain⟨hp,g,d,tk,os⟩:=s;obtain⟨hl,hq⟩:=hs;have f1:=F.conv_sub_bool
  repeat (any_goals (first|assumption|(refine wpAny_truthy_list (s:=⟨hp,g,d,tk,os⟩) hl hfit ?_)|wp_step))
  all_goals first|exact⟨_,rfl,hq _⟩|skip
theorem dU{n:Nat}(h:n<lim):n≤sizeLine:=by rw[sizeLine_eq];unfold lim at h;exact O8 h
theorem sJ{n:Nat}(h:n<lim):((n:Nat):Int)<2^63:=by unfold lim at h;exact Lj h
theorem Ic{a b:Int}:Int.instMax.max a b=if b>a then b else a:=by
 split<;>omega
theorem max_list{p:Addr}{ns:List Int}{Q:af→aa→Prop}(R:aA prog w K os Ω s)(hh:A.handled=none)(e:Ω p=some (.list (av ns)))(hne:ns≠[])(hq:∀M,M∈ns→(∀a∈ns,a≤M)→Q (.int M) Ω):
  wpAny (model prog w) A (call (.builtin "max") [.ref p]) (PH prog w K os Q) bS s:=by
 obtain⟨items,n,g1,g2,g3⟩:=R.list e;obtain⟨xs,hxs,rfl⟩:=g2.allInts;obtain rfl:items=intItems xs.toArray:=by
  apply Array.toList_inj.mp
  rw[hxs];simp[intItems]
 have hpos:0<xs.length:=by cases xs with|nil=>simp at hne|cons aj br=>simp
 refine max_intList hh (cB g1) (by simpa using hpos) λv h' tk hv hk=>?_
 obtain⟨t,rfl⟩:=intItems_at hv;obtain⟨h1,h2⟩:=argBest_gt (numAt xs.toArray) (xs.toArray.size-1);refine⟨.int _,Ω,VR.mkInt,R.ext hk,hq _ ?_ λa ha=>?_⟩
 ·rw[numAt_eq]
  refine getD_mem ?_;rw[List.size_toArray]at h1;rw[List.length_map,List.size_toArray];show _<xs.length;exact SO h1 hpos
 ·obtain⟨j,hj,rfl⟩:=mem_getD ha
  have hj':j<xs.length:=by simpa using hj
  have:=h2 j (by simp;exact JI hj');rw[numAt_eq]at this
  simpa using this
theorem pop_list{p:Addr}{ys:List af}{y:af}{Q:af→aa→Prop}(R:aA prog w K os Ω s)(e:Ω p=some (.list (ys++[y])))(hl:ys.length+1<lim)(hq:Q y (Ω.set p (.list ys))):
  wpAny (model prog w) A (call (.builtin "list.pop") [.ref p]) (PH prog w K os Q) bS s:=by
 obtain⟨items,n,g1,g5,hsz⟩:=R.list e;have GG:items.size-1=ys.length:=by rw[hsz];simp
 obtain⟨r,h1,h2⟩:=g5.get (i:=ys.length) (x:=y) (by simp);have ht:=g5.take ys.length;rw[List.take_left' rfl]at ht;refine call_meets PySem.F.slot_list_pop ⟨_,g1,rfl⟩ PySem.F.entry_list_pop (PySem.F.args_list_pop_1 _) (PySem.MeetsSeq.list_pop_last _ items n r (by rw[GG];simpa using h1) (dU (by rw[hsz];simpa using hl))) ⟨g1,y,_,h2,R.upd (t:=s.toks) (o':= .list ys) e (Heap.SameBut.update ..) (PySem.IsL.update (n:=n) g1 _) (OO.uL ?_),hq⟩;rw[Array.toList_eraseIdxIfInBounds,GG,List.eraseIdx_eq_take_drop_succ,List.drop_eq_nil_of_le (by rw[Array.length_toList,hsz];simp),List.append_nil];exact ht
theorem As{t:TY}{vs:List Value}{xs:List af}{Q:af→aa→Prop}(R:aA prog w K os Ω s)(hv:aP vs xs)
  (h:tyA t xs Q Ω):wpAny (model prog w) A (call (.type t.id) vs) (PH prog w K os Q) bS s:=by
 cases h with
 |list e l1 hq=>
  obtain⟨items,n,g1,g2,g3⟩:=R.list e;refine aP.bg hv (call_list_seq _ (.inl rfl) g1 rfl rfl (λh' c' hk hg=>?_) (dU (by rw[g3];exact l1)));have RR:=R.Ia (t:=s.toks) hk (Nat.le_refl _) hg (OO.uL g2);exact⟨.ref _,_,rfl,RR.1,hq _ RR.2⟩
 |tuple e l1 hq=>
  obtain⟨items,n,g1,g2,g3⟩:=R.list e;exact aP.bg hv (call_tuple_list (cB g1) (λh' hk=>(R.ext (t:=s.toks) hk).uM (t:=s.toks) rfl (OO.N4 g2) hq) (dU (by rw[g3];exact l1)))
 |set h=>
  exact aP.jS hv (call_set_0 λled=>R.uM (t:=s.toks) rfl (o:= .set 0 λaj=>false) ⟨⟨rfl,rfl,rfl⟩,_,_,_,rfl,λaj he=>by simp at he,λk=>by simp,by decide,rfl,rfl⟩ h)
 |bool e l1 hq=>
  obtain⟨items,n,g1,g2,g3⟩:=R.list e;exact aP.bg hv (call_bool_1 (nu _ items (sJ (by rw[g3];exact l1))) ⟨cB g1,λt=>⟨rfl, .bool _,Ω,by rw[aP.empty g2];rfl,R.toks,hq⟩⟩)
end
end
section
open PySem PySem.W PyProof.Rows PySem.Calls Builtin Builtin.ObjectAttr
structure uN(T:String)(nm:Str)(id ga D gid bt:String):Prop where
 Ie:Slot T "__getattribute__" ga
 N6:entryFor table ga=some Builtin.«object.__getattribute__»
 GH:∀a b,argsOk ga ⟨[a,b],[]⟩
 lk:typeLookup (.type T) nm=pure (some (.builtin id))
 ty:typeOf (.builtin id)=pure (.type D)
 g:Slot D "__get__" gid
 zD:∀a b c,argsOk gid ⟨[a,b,c],[]⟩
 set:typeLookup (.type D) "__set__"=pure none
 del:typeLookup (.type D) "__delete__"=pure none
 cop:copiedNames.contains nm=false
 run:∀(M:Model) (A:Around) (E:Value→Shared→Prop) (s:Shared) (a:Addr) (o:Obj) (P:PySem.Fin→Shared→Prop),s.heap.get? a=some o→o.cls= .type T→
  P (.done (.ret (.ref s.heap.objs.size))) {s with heap:=s.heap.push {cls:= .type bt,data:= .fields #[.builtin id, .ref a]}}→∃b,entryFor table gid=some b∧wpAny M A (b ⟨[.builtin id, .ref a, .type T],[]⟩) P E s
section
variable{prog:Program}{w:World}{A:Around}{E:Value→Shared→Prop}{s:Shared}{T:String}{nm:Str}{id ga D gid bt:String}
theorem uO(F:uN T nm id ga D gid bt){M:Model}{h:Heap}{a:Addr}{o:Obj}(hx:h.get? a=some o)(hc:o.cls= .type T)(hd:o.dict=none)(hn:notCls o=true):
  Looks M h (find (.ref a) (.type T) nm) (.bind (.builtin gid) (.builtin id)):=by
 have L1:Looks M h (typeLookup (.type T) nm) (some (.builtin id)):=Looks.of_pure F.lk;have LT:Looks M h (typeOf (.builtin id)) (.type D):=Looks.of_pure F.ty;have L2:Looks M h (getOf (some (.builtin id))) (some (.builtin gid)):=LT.andThen (Looks.of_pure F.g.lookup);have S1:Looks M h (specialOf (.builtin id) "__set__") none:=LT.andThen (Looks.of_pure F.set);have S2:Looks M h (specialOf (.builtin id) "__delete__") none:=LT.andThen (Looks.of_pure F.del);have L3:Looks M h (takesStores (.builtin id)) false:=S1.andThen ((Looks.now).andThen (S2.andThen .now));have Lo:Looks M h (inOwnDict nm (.ref a)) none:=by
  obtain⟨oc,odi,N7,osl⟩:=o;dsimp only at hc hd;subst hc hd;intro A Q E s k q;refine wpAny_bind (wpAny_bind (wpAny_loadPart (k _ _ hx) ?_));have fin:wpAny M A (instanceDict a false) (λx s'=>wpAny M A (inDict nm x) Q E s') E s:=by
   unfold instanceDict;refine wpAny_bind (wpAny_loadPart (k _ _ hx) ?_);exact wpAny_pure (wpAny_pure q)
  cases N7<;>first|exact fin|cases hn
 refine L1.andThen (L2.andThen ?_);refine(show Looks M h (dataDescriptor? (some (.builtin id)) (some (.builtin gid))) none from L3.andThen .now).andThen ?_;refine Lo.andThen ?_;have G:Looks M h (copiedAttributeGuard nm (.ref a)) ():=by
  unfold copiedAttributeGuard;dsimp only;rw[if_neg (by have:=F.cop;unfold copiedNames at this;rw[this];decide)];exact .now
 exact G.andThen (Looks.tag .now)
theorem jt(F:uN T nm id ga D gid bt){a:Addr}{o:Obj}{expr:Bool}{Q:Value→Shared→Prop}(hx:s.heap.get? a=some o)(hc:o.cls= .type T)(hd:o.dict=none)(hn:notCls o=true)
  (h:Q (.ref s.heap.objs.size) {s with heap:=s.heap.push {cls:= .type bt,data:= .fields #[.builtin id, .ref a]},toks:=s.toks+1}):wpAny (model prog w) A (getAttr (.ref a) nm expr) Q E s:=by
 have L0:Looks (model prog w) s.heap (typeOf (.ref a)) (.type T):=hc▸(Looks.ld hx).andThen .now;have Lf:=uO (M:=model prog w) F hx hc hd hn;unfold getAttr getAttrBy;refine wpAny_bind (wpAny_mkText (wpAny_holding (wpAny_bind (L0.here (s:={s with toks:=s.toks+1}) (wpAny_bind (wpAny_of_eq F.Ie.lookup ?_))))));dsimp only;rw[if_neg (by exact Bool.false_ne_true)];unfold getAttrByItsOwn;refine wpAny_bind (wpAny_of_eq (a:=none) (by unfold hookBefore;rw[if_neg (by exact Bool.false_ne_true)]) ?_);refine wpAny_bind (wpAny_attempt (wpAny_holding ?_));unfold callGetattribute;rw[show (expr&&onTheHeap (Value.builtin ga))=false from Bool.and_false _,if_neg (by decide)];unfold boundAndCalled;rw[F.Ie.bind];refine wpAny_bind (wpAny_pure ?_);show wpAny _ _ (call (.builtin ga) [.ref a, .str nm s.toks]) _ _ _;refine wpAny_call (codeAny_call_builtin F.Ie.plain F.N6 (F.Ie.check _ _ _ _ _ _ _ _ ⟨_,hx,hc⟩ (F.GH _ _) ?_));unfold Builtin.«object.__getattribute__»;refine wpAny_bind (wpAny_of_eq (a:=(.ref a,[.str nm s.toks])) (by first|rfl|kernel_rfl) ?_);dsimp only;refine wpAny_bind (wpAny_of_eq (a:=nm) (by first|rfl|kernel_rfl) ?_);refine wpAny_bind (L0.here (s:={s with toks:=s.toks+1}) (wpAny_bind (Lf.here (s:={s with toks:=s.toks+1}) ?_)));show wpAny _ _ (holding [.builtin id] (call (.builtin gid) [.builtin id, .ref a, .type T])>>=ret) _ _ _;refine wpAny_bind (wpAny_holding (wpAny_call ?_));obtain⟨b,hb,qx⟩:=F.run (model prog w) A.in1.in1 (λe s'=>False) {s with toks:=s.toks+1} a o (λfin s'=>fin= .done (.ret (.ref s.heap.objs.size))∧s'={s with heap:=s.heap.push {cls:= .type bt,data:= .fields #[.builtin id, .ref a]},toks:=s.toks+1}) hx hc ⟨rfl,rfl⟩;refine codeAny_call_builtin F.g.plain hb (F.g.check _ _ _ _ _ _ _ _ F.ty (F.zD _ _ _) (wpAny_mono qx (λfin s' z=>?_) λaj aj z=>z.elim));obtain⟨rfl,rfl⟩:=z;refine wpAny_pure ?_;show wpAny _ _ (handedOut (.ref s.heap.objs.size)) _ _ _;exact wpAny_pure h
theorem gp{u a:Addr}{ob:Obj}{b:Builtin}{vs:List Value}{Q:Value→Shared→Prop}(ho:s.heap.get? u=some ob)(hc:ob.cls= .type bt)(hd:ob.data= .fields #[.builtin id, .ref a])(N8:bt="builtin_function_or_method"∨bt="method-wrapper")
  (hq:plainId id=true) (hb:entryFor table id=some b)
  (h:wpAny (model prog w) A.in1 (checkBoundCall id ⟨.ref a::vs,[]⟩) (λaj s₁=>wpAny (model prog w) A.in1 (b ⟨.ref a::vs,[]⟩)
   (λfin s'=>match fin with| .done f=>wants Q E (.ok f) s'| .again c'=>c'.quiet=true∧codeAny (model prog w) A c' (wants Q E) s') (λe s'=>wants Q E (.error e) s') s₁) (λe s'=>wants Q E (.error e) s') s):
  wpAny (model prog w) A (call (.ref u) vs) Q E s:=by
 refine wpAny_call (codeAny_of_tree ?_);show wpAny _ A.in1 (callAny (.ref u) ⟨vs,[]⟩) _ _ s;unfold callAny;dsimp only;refine wpAny_bind (wpAny_load ho ?_);rw[hd,hc];dsimp only;have e1:(Value.type bt==Value.type "method"||Value.type bt==Value.type "builtin_function_or_method"||Value.type bt==Value.type "method-wrapper")=true:=by
  rcases N8 with rfl|rfl<;>decide
 have e2:(Value.type bt !=Value.type "method")=true:=by rcases N8 with rfl|rfl<;>decide
 rw[if_pos e1];show wpAny _ _ (if (Value.type bt !=Value.type "method")=true then(do checkBoundCall id ⟨.ref a::vs,[]⟩;again (.builtin id ⟨.ref a::vs,[]⟩))else again (.call (.builtin id) ⟨.ref a::vs,[]⟩)) _ _ s;rw[if_pos e2];refine wpAny_bind (wpAny_mono h (λaj s₁ h₁=>?_) λaj aj x=>x);refine wpAny_pure ⟨plainId_quiet hq _,codeAny_builtin hb ?_⟩;rw[Around.under_plainId hq];exact h₁
end
namespace FB
theorem Cy:Slot "method_descriptor" "__get__" "method_descriptor.__get__":= .of (owner:="method_descriptor") (n:="__get__") (by rw[typeLookup_type,builtinLookup_eq_fast];kernel_rfl) (by decide+kernel) (by decide+kernel) (by decide+kernel) (by first|exact .inl (by decide+kernel)|exact .inr (by decide+kernel)) (by rw[isSubtype_type];kernel_rfl)
theorem Cz:typeLookup (.type "method_descriptor") "__set__"=pure none:=by rw[typeLookup_type,builtinLookup_eq_fast];kernel_rfl
theorem CA:typeLookup (.type "method_descriptor") "__delete__"=pure none:=by rw[typeLookup_type,builtinLookup_eq_fast];kernel_rfl
theorem uP:entryFor table "method_descriptor.__get__"=some Builtin.«method_descriptor.__get__»:=by first|exact entryFor_of_fast (by kernel_rfl)|exact entryFor_of_tree (by kernel_rfl)
theorem zE(a b c:Value):argsOk "method_descriptor.__get__" ⟨[a,b,c],[]⟩:=by unfold argsOk;kernel_rfl
theorem Ig:Slot "wrapper_descriptor" "__get__" "wrapper_descriptor.__get__":= .of (owner:="wrapper_descriptor") (n:="__get__") (by rw[typeLookup_type,builtinLookup_eq_fast];kernel_rfl) (by decide+kernel) (by decide+kernel) (by decide+kernel) (by first|exact .inl (by decide+kernel)|exact .inr (by decide+kernel)) (by rw[isSubtype_type];kernel_rfl)
theorem Ih:typeLookup (.type "wrapper_descriptor") "__set__"=pure none:=by rw[typeLookup_type,builtinLookup_eq_fast];kernel_rfl
theorem Ii:typeLookup (.type "wrapper_descriptor") "__delete__"=pure none:=by rw[typeLookup_type,builtinLookup_eq_fast];kernel_rfl
theorem CB:entryFor table "wrapper_descriptor.__get__"=some Builtin.«wrapper_descriptor.__get__»:=by first|exact entryFor_of_fast (by kernel_rfl)|exact entryFor_of_tree (by kernel_rfl)
theorem EA(a b c:Value):argsOk "wrapper_descriptor.__get__" ⟨[a,b,c],[]⟩:=by unfold argsOk;kernel_rfl
theorem CC:isSubtype (.type "dict") (.type "dict")=pure true:=by rw[isSubtype_type];kernel_rfl
theorem EB:isSubtype (.type "set") (.type "set")=pure true:=by rw[isSubtype_type];kernel_rfl
theorem Ij:isSubtype (.type "list_iterator") (.type "list_iterator")=pure true:=by rw[isSubtype_type];kernel_rfl
theorem entry_set_ga:entryFor table "set.__getattribute__"=some Builtin.«object.__getattribute__»:=entryFor_alias (id':="object.__getattribute__") (by kernel_rfl) (by decide+kernel) (by decide+kernel) (by kernel_rfl)
theorem xg:Slot "list_iterator" "__getattribute__" "object.__getattribute__":= .of (owner:="object") (n:="__getattribute__") (by rw[typeLookup_type,builtinLookup_eq_fast];kernel_rfl) (by decide+kernel) (by decide+kernel) (by decide+kernel) (by first|exact .inl (by decide+kernel)|exact .inr (by decide+kernel)) (by rw[isSubtype_type];kernel_rfl)
theorem uQ:entryFor table "object.__getattribute__"=some Builtin.«object.__getattribute__»:=by first|exact entryFor_of_fast (by kernel_rfl)|exact entryFor_of_tree (by kernel_rfl)
theorem xh(a b:Value):argsOk "object.__getattribute__" ⟨[a,b],[]⟩:=by unfold argsOk;kernel_rfl
theorem CD{T nm:String}{id:String}(told:Manifest.toldItsClass.contains id=false)(nc:(kfb_private%"nameAndClass") (.builtin id)=pure (Str.ofString nm,Value.type T))(sub:isSubtype (.type T) (.type T)=pure true)
  (M:Model) (A:Around) (E:Value→Shared→Prop) (s:Shared) (a:Addr) (o:Obj) (P:PySem.Fin→Shared→Prop) (hx:s.heap.get? a=some o) (hc:o.cls= .type T)
  (h:P (.done (.ret (.ref s.heap.objs.size))) {s with heap:=s.heap.push {cls:= .type "builtin_function_or_method",data:= .fields #[.builtin id, .ref a]}}):
  wpAny M A (Builtin.«method_descriptor.__get__» ⟨[.builtin id, .ref a, .type T],[]⟩) P E s:=by
 have L0:Looks M s.heap (typeOf (.ref a)) (.type T):=hc▸(Looks.ld hx).andThen .now;unfold Builtin.«method_descriptor.__get__»;refine wpAny_bind (wpAny_of_eq (a:=(.builtin id,some (.ref a),some (.type T))) (by first|rfl|kernel_rfl) ?_);dsimp only;rw[if_neg (by rw[told];decide)];refine wpAny_bind (wpAny_bind (wpAny_of_eq (a:=(Str.ofString nm,Value.type T)) nc ?_));dsimp only;refine wpAny_bind (m:=isInstance _ _) (wpAny_bind (L0.here (wpAny_of_eq sub ?_)));rw[if_neg (by decide)];refine wpAny_pure (wpAny_bind (wpAny_newObj_type (wpAny_pure h)))
theorem Ik{T nm:String}{id:String}(nc:(kfb_private%"nameAndClass") (.builtin id)=pure (Str.ofString nm,Value.type T))(sub:isSubtype (.type T) (.type T)=pure true)
  (M:Model) (A:Around) (E:Value→Shared→Prop) (s:Shared) (a:Addr) (o:Obj) (P:PySem.Fin→Shared→Prop) (hx:s.heap.get? a=some o) (hc:o.cls= .type T)
  (h:P (.done (.ret (.ref s.heap.objs.size))) {s with heap:=s.heap.push {cls:= .type "method-wrapper",data:= .fields #[.builtin id, .ref a]}}):
  wpAny M A (Builtin.«wrapper_descriptor.__get__» ⟨[.builtin id, .ref a, .type T],[]⟩) P E s:=by
 have L0:Looks M s.heap (typeOf (.ref a)) (.type T):=hc▸(Looks.ld hx).andThen .now;unfold Builtin.«wrapper_descriptor.__get__»;refine wpAny_bind (wpAny_of_eq (a:=(.builtin id,some (.ref a),some (.type T))) (by first|rfl|kernel_rfl) ?_);dsimp only;refine wpAny_bind (wpAny_bind (wpAny_of_eq (a:=(Str.ofString nm,Value.type T)) nc ?_));dsimp only;refine wpAny_bind (m:=isInstance _ _) (wpAny_bind (L0.here (wpAny_of_eq sub ?_)));rw[if_neg (by decide)];refine wpAny_pure (wpAny_bind (wpAny_newObj_type (wpAny_pure h)))
theorem get:uN "dict" "get" "dict.get" "dict.__getattribute__" "method_descriptor" "method_descriptor.__get__" "builtin_function_or_method" where
 Ie:=F.slot_dict_getattribute
 N6:=F.entry_dict_ga
 GH:=F.args_dict_getattribute_2
 lk:=F.slot_dict_get.lookup
 ty:=by show builtinType _=_;rw[builtinType_eq_fast];kernel_rfl
 g:=Cy
 zD:=zE
 set:=Cz
 del:=CA
 cop:=by decide+kernel
 run:=λM A E s a o P hx hc h=>⟨_,uP,CD (nm:="get") (by decide+kernel) (by kernel_rfl) CC M A E s a o P hx hc h⟩
theorem cont:uN "set" "__contains__" "set.__contains__" "set.__getattribute__" "method_descriptor" "method_descriptor.__get__" "builtin_function_or_method" where
 Ie:=F.slot_set_getattribute
 N6:=entry_set_ga
 GH:=F.args_set_getattribute_2
 lk:=F.slot_set_contains.lookup
 ty:=by show builtinType _=_;rw[builtinType_eq_fast];kernel_rfl
 g:=Cy
 zD:=zE
 set:=Cz
 del:=CA
 cop:=by decide+kernel
 run:=λM A E s a o P hx hc h=>⟨_,uP,CD (nm:="__contains__") (by decide+kernel) (by kernel_rfl) EB M A E s a o P hx hc h⟩
theorem next:uN "list_iterator" "__next__" "list_iterator.__next__" "object.__getattribute__" "wrapper_descriptor" "wrapper_descriptor.__get__" "method-wrapper" where
 Ie:=xg
 N6:=uQ
 GH:=xh
 lk:=slot_listiter_next.lookup
 ty:=by show builtinType _=_;rw[builtinType_eq_fast];kernel_rfl
 g:=Ig
 zD:=EA
 set:=Ih
 del:=Ii
 cop:=by decide+kernel
 run:=λM A E s a o P hx hc h=>⟨_,CB,Ik (nm:="__next__") (by kernel_rfl) Ij M A E s a o P hx hc h⟩
end FB
end
section
open PySem PySem.W PyProof.Rows PySem.Calls Builtin Builtin.ObjectAttr Builtin.Getset_descriptor
namespace KX
variable(P:Params)
theorem Mb(n:Str):plainGet (KF P) 242 n=true:=by kernel_rfl!
theorem Mc(n:Str):plainGet (KF P) 362 n=true:=by kernel_rfl!
theorem GI(n:Str):plainGet (KF P) 265 n=true:=by kernel_rfl!
theorem Me:hasDictIn (KF P) 242=true:=by kernel_rfl!
theorem Mf:hasDictIn (KF P) 362=true:=by kernel_rfl!
theorem Mg(t:At):findIn (KF P) (.ref 242) t.name=some none:=by cases t<;>kernel_rfl!
theorem Mh(t:At):findIn (KF P) (.ref 362) t.name=some none:=by cases t<;>kernel_rfl!
theorem Mi:findIn (KF P) (.ref 242) "__setattr__"=some (some (.builtin "object.__setattr__")):=by kernel_rfl!
theorem Mj:findIn (KF P) (.ref 362) "__setattr__"=some (some (.builtin "object.__setattr__")):=by kernel_rfl!
theorem Mk:findIn (KF P) (.ref 265) "__setattr__"=some (some (.builtin "object.__setattr__")):=by kernel_rfl!
theorem Ml:plainOver (KF P) 242=true:=by kernel_rfl!
theorem Mm:plainOver (KF P) 362=true:=by kernel_rfl!
theorem Mn:plainOver (KF P) 265=true:=by kernel_rfl!
theorem pg{C:Addr}(h:C=242∨C=362)(n:Str):plainGet (KF P) C n=true:=h.elim (λe=>e▸Mb P n) (λe=>e▸Mc P n)
theorem hd{C:Addr}(h:C=242∨C=362):hasDictIn (KF P) C=true:=h.elim (λe=>e▸Me P) (λe=>e▸Mf P)
theorem at_{C:Addr}(h:C=242∨C=362)(t:At):findIn (KF P) (.ref C) t.name=some none:=h.elim (λe=>e▸Mg P t) (λe=>e▸Mh P t)
theorem sa{C:Addr}(h:C=242∨C=362):findIn (KF P) (.ref C) "__setattr__"=some (some (.builtin "object.__setattr__")):=h.elim (λe=>e▸Mi P) (λe=>e▸Mj P)
theorem po{C:Addr}(h:C=242∨C=362):plainOver (KF P) C=true:=h.elim (λe=>e▸Ml P) (λe=>e▸Mm P)
noncomputable def rJ:At→Addr
 | .successors=>268| .npredecessors=>267|_=>266
theorem GJ(t:At)(i:Nat)(h:dO t=some i):findIn (KF P) (.ref 265) t.name=some (some (.ref (rJ t)))∧specialIn (KF P) (.ref (rJ t)) "__get__"=some (some (.builtin "member_descriptor.__get__"))∧
  takesIn (KF P) (.ref (rJ t))=some true∧slotIn (KF P) (rJ t) 265=some i∧takerIn (KF P) 265 t.name=some (some (.ref (rJ t)))∧typeIn (KF P) (.ref (rJ t))=some (.type "member_descriptor"):=by
 refine nF h ?_ ?_ ?_<;>exact⟨by kernel_rfl!,by kernel_rfl!,by kernel_rfl!,by kernel_rfl!,by kernel_rfl!,by kernel_rfl!⟩
theorem Il:(clsIn (KF P) 265).isSome=true:=by kernel_rfl!
theorem Mp(C:Addr)(m:MN)(f:Addr)(h:jq C m=some f):(C=242∨C=362)∧findIn (KF P) (.ref C) m.name=some (some (.ref f))∧typeIn (KF P) (.ref f)=some (.type "function")∧f∈jN:=by
 refine zx h ?_ ?_ ?_ ?_ ?_ ?_ ?_ ?_ ?_ ?_ ?_ ?_ ?_<;>exact⟨by first|exact .inl rfl|exact .inr rfl,by kernel_rfl!,by kernel_rfl!,by decide⟩
theorem keep(a:Addr)(h:a∈jN):keepIn (KF P) (.ref a)=true:=by
 exact List.all_eq_true.mp (show (jN.all λa=>keepIn (KF P) (.ref a))=true by kernel_rfl!) a h
end KX
noncomputable def MN.codes(m:MN):List Nat:=m.str.toList.map Char.toNat
noncomputable def MN.all:List MN:=[.pop, .append, .extend, .sort, .clear, .get, .setdefault, .add, .set_seqs, .set_seq1, .set_seq2, .jM, .find_longest_match, .get_matching_blocks, .cR, .prepare, .get_ready, .is_active, .done, .fm]
theorem MN.eX(m:MN):m∈MN.all:=List.mem_of_getElem? (i:=m.ctorIdx) (by cases m<;>exact Eq.refl (some _))
theorem Au:(At.all.all λt=>MN.all.all λm=>t.codes !=m.codes)=true:=by decide+kernel
theorem uR(t:At)(m:MN):t.name≠m.name:=λq=>by
 have h:=List.all_eq_true.mp (List.all_eq_true.mp Au t (At.eX t)) m (MN.eX m);have:t.codes=m.codes:=by
  have:=congrArg (λs=>s.cps.toList) q
  simpa[At.name,MN.name,MN.codes]using this
 rw[this]at h;simp at h
section
variable(prog:Program)(w:World)(B:Addr→Option Obj)
structure BF:Prop where
 glob:∀(g:G) (env:Env),env.globals=mainGlobals→env.builtins=builtinsNs→∀h:Heap,(∀a o,B a=some o→h.get? a=some o)→∃v,VR v g.val∧Looks (model prog w) h (loadGlobal env g.name) v
 eU:∀a o,(KF w.params).lookup a=some o→B a=some o
 lim:∀h:Heap,(∀a o,B a=some o→h.get? a=some o)→h.NoLimit
end
section
variable{prog:Program}{w:World}{B:Addr→Option Obj}{A:Around}{E:Value→Shared→Prop}{K:Addr→Option Obj}{os:Oz}{Ω:aa}{s:Shared}
theorem aA.eU(R:aA prog w K os Ω s)(bf:BF prog w B)(hB:∀a o,B a=some o→K a=some o∧¬os.F a):(KF w.params).In s.heap:=λa o e=>by
 obtain⟨h1,h2⟩:=hB a o (bf.eU a o e);obtain⟨o',h3,h4⟩:=R.kept a o h1;rw[h3,h4.eq h2]
theorem VR.handed{v:Value}{x:af}(h:VR v x):handedIn v=true:=by
 cases x with
 |none=>cases h;rfl
 |bool aj=>cases h;rfl
 |int aj=>obtain⟨t,rfl⟩:=h;rfl
 |ref aj=>cases h;rfl
 |type aj=>cases h;rfl
 |builtin b=>cases h;cases b<;>kernel_rfl!
theorem aA.sL(R:aA prog w K os Ω s){a d:Addr}{C:Addr}{k:Nat}{m:At→Option af}(h:Ω a=some (.inst C d))(hd:Ω d=some (.ns k m)):
  ∃es n,InstAt s.heap a (instObj C d) C (some (dictOf es n))∧s.heap.get? d=some (dictOf es n)∧es.length≤k∧wV es m:=by
 obtain⟨ob,h1,h2⟩:=R.objs a _ h;obtain⟨od,h3,es,n,rfl,h4,h5⟩:=R.objs d _ hd;cases h2;exact⟨es,n,⟨h1,rfl,rfl,h3⟩,h3,h4,h5⟩
theorem aA.CE(R:aA prog w K os Ω s){a d:Addr}{k:Nat}{m m':At→Option af}(h:Ω a=some (.node d m'))(hd:Ω d=some (.ns k m)):
  ∃Aj od,s.heap.get? a=some {cls:= .ref 265,dict:=some d,data:= .plain,slots:=Aj}∧InstAt s.heap a {cls:= .ref 265,dict:=some d,data:= .plain,slots:=Aj} 265 (some od)∧∀t i x,dO t=some i→m' t=some x→∃v,(Aj[i]?).join=some v∧VR v x:=by
 obtain⟨ob,h1,Aj,rfl,h2⟩:=R.objs a _ h;obtain⟨od,h3,_⟩:=R.objs d _ hd;exact⟨Aj,od,h1,⟨h1,rfl,rfl,h3⟩,h2⟩
theorem mC(bf:BF prog w B)(hB:∀a o,B a=some o→K a=some o∧¬os.F a){v:Value}{x:af}{t:At}{expr:Bool}{Q:af→Prop}(R:aA prog w K os Ω s)(hv:VR v x)
  (h:rD x t Q Ω):wpAny (model prog w) A (getAttr v t.name expr) (λr s'=>∃z,VR r z∧aA prog w K os Ω s'∧Q z) bS s:=by
 have X:=R.eU bf hB;cases h with
 |@inst a C d k m z e hC ed hz hq=>
  obtain⟨es,n,I,hd,hk,h1,h2⟩:=R.sL e ed;obtain⟨r,g1,g2⟩:=h1 t z hz;exact VR.bg hv (get_value X I (plainGet_of (KX.pg w.params hC t.name)).1 (findObj_own (KX.hd w.params hC) (KX.at_ w.params hC _) rfl (by rw[lookIn_dict];exact g1)) g2.handed ⟨z,g2,R.toks,hq⟩)
 |@node a d k m m' z e ht ed hz hq=>
  obtain⟨Aj,od,h0,I,h1⟩:=R.CE e ed;obtain⟨i,hi⟩:=Option.ne_none_iff_exists'.mp ht;obtain⟨r,g1,g2⟩:=h1 t i z hi hz;obtain⟨f1,f2,f3,f4,f5,f6⟩:=KX.GJ w.params t i hi;exact VR.bg hv (get_bind X I (plainGet_of (KX.GI w.params t.name)).1 (findObj_data (KX.Il _) f1 f2 f3) (plainGet_of (KX.GI w.params t.name)).2 (wpAny_call (slot_get (s:={s with toks:=s.toks+1}) X I f4 g1 (handed_on g2.handed ⟨z,g2,R.toks,hq⟩))))
theorem Av{C x dx:Addr}{ox od od':Obj}{name:Str}{tk:Tok}{v:Value}{es:List DictEntry}{n:Nat}{R:Result→Shared→Prop}(X:(KF w.params).In s.heap)
  (I:InstAt s.heap x ox C (some od)) (hd:ox.dict=some dx) (D:s.heap.get? dx=some od) (hp:plainOver (KF w.params) C=true) (ht:takerIn (KF w.params) C name=some none) (hh:(clsIn (KF w.params) C).any (·.hasDict)=true)
  (hl:(lookIn name od).isSome=true)
  (e:Obj.putName name (PyData.keyHash w.params name) (.str name s.toks) v od=od') (e':od'.data= .dict es.toArray n) (hz:es.length≤1000)
  (h:∀h',Heap.SameBut dx s.heap h'→h'.get? dx=some od'→R (.ok (.ret .none)) {s with heap:=h',toks:=s.toks+1}):
  codeAny (model prog w) A (.call (.builtin "object.__setattr__") ⟨[.ref x, .str name tk,v],[]⟩) R s:=by
 refine osa_open X I hp ht λb=>?_
 obtain⟨cd,hc,hd'⟩:=any_some hh;have D':(s.heap.update dx (Obj.putName name (PyData.keyHash w.params name) (.str name s.toks) v)).get? dx=some od':=by
  have:=Heap.get?_update_self (Obj.putName name (PyData.keyHash w.params name) (.str name s.toks) v) D (by rw[e];obtain⟨_,_,dd,_⟩:=od';cases e';rfl);rw[e]at this;exact this
 obtain⟨hx,hcl,hn,-⟩:=I;obtain⟨oc,odi,N7,osl⟩:=ox;dsimp only at hcl hd;subst hcl hd;refine wpAny_bind (wpAny_pure (wpAny_bind (wpAny_bind (wpAny_loadPart hx (wpAny_bind ((looks_clsIn X hc).here ?_))))));rw[hd'];refine wpAny_pure (a:=some dx) (wpAny_bind (wpAny_pure (wpAny_bind ?_)));unfold nsSet;refine wpAny_bind (wpAny_bind (wpAny_askSetting (wpAny_pure (wpAny_bind (wpAny_mkText (wpAny_bind (wpAny_loadPart D ?_)))))));unfold lookIn at hl
 (set_option tactic.hygienic true in split at hl)
 ·rename_i GK n₀ q
  rw[q];dsimp only;have c:(!GK.any (·.key.isStr name)&&GK.any (·.refKey))=false:=by
   rw[←Array.any_toList,←Array.any_toList]
   (set_option tactic.hygienic true in split at hl)
   ·rename_i en he
    rw[List.any_eq_true.mpr ⟨en,List.mem_of_find?_eq_some he,List.find?_some he⟩];rfl
   ·(set_option tactic.hygienic true in split at hl)
    ·cases hl
    ·rename_i z;rw[Bool.not_eq_true]at z;rw[z,Bool.and_false]
  rw[aRefKeyMayBeTheName_at,c];refine wpAny_updatePart D ?_;refine wpAny_bind (wpAny_lookBehind D' (by rw[e'];exact pastItsLine_dict (by rw[List.size_toArray,sizeLine_eq];exact Nat.le_trans hz (by decide))) ?_);exact wpAny_pure (h _ (Heap.SameBut.update ..) D')
 ·cases hl
theorem Aw{C x p:Addr}{ox ox':Obj}{od:Option Obj}{v:Value}{i:Nat}{R:Result→Shared→Prop}(X:(KF w.params).In s.heap)(I:InstAt s.heap x ox C od)
  (hp:slotIn (KF w.params) p C=some i) (hi:i<1000)
  (e:{ox with slots:=(ox.slots++Array.replicate (i+1-ox.slots.size) none).setIfInBounds i (some v)}=ox') (hf:ox'.isFreed=false)
  (h:∀h',Heap.SameBut x s.heap h'→h'.get? x=some ox'→R (.ok (.ret .none)) {s with heap:=h'}):
  codeAny (model prog w) A (.call (.builtin "member_descriptor.__set__") ⟨[.ref p, .ref x,v],[]⟩) R s:=by
 obtain⟨n,tn,owner,behind,tb,d,sl,cd,ho,hc,hm,hb,rfl⟩:=slot_of X hp;have hx:=I.at_;have D':(s.heap.update x (λo=>{o with slots:=(o.slots++Array.replicate (cd.slotNames.length-1-behind.toNat+1-o.slots.size) none).setIfInBounds (cd.slotNames.length-1-behind.toNat) (some v)})).get? x=some ox':=by
  have:=Heap.get?_update_self (λo:Obj=>{o with slots:=(o.slots++Array.replicate (cd.slotNames.length-1-behind.toNat+1-o.slots.size) none).setIfInBounds (cd.slotNames.length-1-behind.toNat) (some v)}) hx (by rw[e];exact hf);rw[e]at this;exact this
 have U:=h _ (Heap.SameBut.update ..) D';obtain⟨hh,g,dr,t,os⟩:=s;have L0:=I.type (M:=model prog w);have L1:=looks_mroIn (M:=model prog w) X hm;have L2:Looks (model prog w) hh (Slots.slotNamesOf (.ref C)) cd.slotNames:=(looks_clsIn X hc).andThen .now;dsimp only at ho hx L0 L1;have f0:=looks_field (M:=model prog w) ho 0 (v:= .str n tn) rfl;have f1:=looks_field (M:=model prog w) ho 1 (v:=owner) rfl;have f3:=looks_field (M:=model prog w) ho 3 (v:= .builtin "proto.slot#set") rfl;have f4:=looks_field (M:=model prog w) ho 4 (v:= .int behind tb) rfl;refine codeAny_call_builtin KF.slot_mset.plain KF.entry_mset (KF.slot_mset.check _ _ _ _ _ _ _ _ ⟨_,ho,rfl⟩ (KF.args_mset _ _ _) ?_);unfold Builtin.«member_descriptor.__set__» descrSet descrStoreThrough descrCheckInstance descrNameAndClass isInstance;have f5:Looks (model prog w) hh (descrItself (.ref p)) [.ref p]:=((Looks.ld (part:=none) ho).andThen .now).andThen (Looks.of_pure (by kernel_rfl))
 repeat lk
 refine⟨Code.quiet_builtin _ (by decide+kernel),codeAny_builtin KF.entry_slotset ?_⟩;unfold Builtin.«proto.slot#set» Slots.target
 repeat lk
 rw[if_neg hb];refine wpAny_pure (wpAny_bind ?_);unfold setSlotAt;dsimp only;rw[if_neg (by rw[sizeLine_eq];exact P0 hi)];exact wpAny_updatePart hx (wpAny_pure U)
end
end
section
open PySem PySem.W PyProof.Rows PySem.Calls Builtin Builtin.ObjectAttr
theorem uS(n:Str)(t:Tok):Value.isStr (.str n t) n=true:=by simp[Value.isStr]
theorem uT{v:Value}{n m:Str}(h:v.isStr n=true)(h':v.isStr m=true):n=m:=by
 unfold Value.isStr at h h';cases v<;>simp_all
theorem rK{nm name:Str}{hs:Int}{tk:Tok}{v:Value}:∀es:List DictEntry,(putL name hs (.str name tk) v es).find? (·.key.isStr nm)=if nm=name then(putL name hs (.str name tk) v es).find? (·.key.isStr name)else es.find? (·.key.isStr nm)
 |[]=>by
  by_cases q:nm=name
  ·rw[if_pos q,q]
  ·rw[if_neg q]
   have:(Value.str name tk).isStr nm=false:=by
    cases h:(Value.str name tk).isStr nm with
    |false=>rfl
    |true=>exact absurd (uT h (uS name tk)) q
   simp[putL,this]
 |e::r=>by
  by_cases q:nm=name
  ·rw[if_pos q,q]
  ·rw[if_neg q]
   have ih:=rK (nm:=nm) (name:=name) (hs:=hs) (tk:=tk) (v:=v) r;rw[if_neg q]at ih;unfold putL
   split
   ·rename_i h
    have:e.key.isStr nm=false:=by
     cases h':e.key.isStr nm with
     |false=>rfl
     |true=>exact absurd (uT h' h) q
    simp[List.find?_cons,this]
   ·rw[List.find?_cons,List.find?_cons,ih]
theorem iw{name:Str}{hs:Int}{tk:Tok}{v:Value}:∀es:List DictEntry,∃e,(putL name hs (.str name tk) v es).find? (·.key.isStr name)=some e∧e.val=v
 |[]=>⟨⟨hs, .str name tk,v⟩,by simp[putL,uS],rfl⟩
 |e::r=>by
  unfold putL
  split
  ·rename_i h
   exact⟨⟨e.hash,e.key,v⟩,by simp[List.find?_cons,h],rfl⟩
  ·rename_i h
   obtain⟨e',h1,h2⟩:=iw (name:=name) (hs:=hs) (tk:=tk) (v:=v) r;exact⟨e',by rw[List.find?_cons];simp only[Bool.not_eq_true]at h;rw[h];exact h1,h2⟩
theorem mD{name:Str}{hs:Int}{tk:Tok}{v:Value}:∀es:List DictEntry,(putL name hs (.str name tk) v es).any (·.refKey)=es.any (·.refKey)
 |[]=>rfl
 |e::r=>by
  unfold putL
  split
  ·rfl
  ·rw[List.any_cons,List.any_cons,mD r]
theorem rL{nm name:Str}{hs:Int}{tk:Tok}{v:Value}(es:List DictEntry):getL nm (putL name hs (.str name tk) v es)=if nm=name then some (some v)else getL nm es:=by
 unfold getL;rw[rK,mD]
 by_cases q:nm=name
 ·rw[if_pos q,if_pos q]
  obtain⟨e,h1,h2⟩:=iw (name:=name) (hs:=hs) (tk:=tk) (v:=v) es;rw[h1];dsimp only;rw[h2]
 ·rw[if_neg q,if_neg q]
theorem mE{name:Str}{hs:Int}{k v:Value}:∀es:List DictEntry,(putL name hs k v es).length≤es.length+1
 |[]=>by simp[putL]
 |e::r=>by
  unfold putL
  split
  ·simp
  ·simp only[List.length_cons];have:=mE (name:=name) (hs:=hs) (k:=k) (v:=v) r;exact Nat.succ_le_succ this
theorem wV.put{es:List DictEntry}{m:At→Option af}{t:At}{x:af}{v:Value}{hs:Int}{tk:Tok}(h:wV es m)(hx:VR v x):wV (putL t.name hs (.str t.name tk) v es) (ef.set m t x):=by
 refine⟨λt' x' e=>?_,λnm e=>?_⟩
 ·rw[rL]
  unfold ef.set at e
  by_cases q:t'=t
  ·subst q
   rw[if_pos rfl]at e;cases e;exact⟨v,by rw[if_pos rfl],hx⟩
  ·rw[if_neg q]at e
   rw[if_neg (λq'=>q (At.dK q'))];exact h.1 t' x' e
 ·rw[rL]
  have h1:t.name≠nm:=e t (by unfold ef.set;rw[if_pos rfl];simp);rw[if_neg (Ne.symm h1)];refine h.2 nm λt' ht'=>e t' ?_
  unfold ef.set
  split
  ·simp
  ·exact ht'
theorem wV.some{es:List DictEntry}{m:At→Option af}(h:wV es m)(t:At):(getL t.name es).isSome=true:=by
 cases q:m t with
 |none=>
  rw[h.2 t.name (λt' ht' e=>by rw[At.dK e]at ht';exact ht' q)];rfl
 |some x=>obtain⟨v,h1,_⟩:=h.1 t x q;rw[h1];rfl
noncomputable def slotAt:Nat→At
 |0=> .node|1=> .npredecessors|_=> .successors
theorem xj{t t':At}{i:Nat}(h:dO t=some i)(h':dO t'=some i):t=t':=by
 exact(nF (M:=λt i=>t=slotAt i) h rfl rfl rfl).trans (nF (M:=λt i=>slotAt i=t) h' rfl rfl rfl)
theorem Ax{t:At}{i:Nat}(h:dO t=some i):i<3:=by
 exact nF h (by decide) (by decide) (by decide)
section
variable{prog:Program}{w:World}{B:Addr→Option Obj}{A:Around}{K:Addr→Option Obj}{os:Oz}{Ω:aa}{s:Shared}
theorem iy(bf:BF prog w B)(hB:∀a o,B a=some o→K a=some o∧¬os.F a){v r:Value}{x y:af}{t:At}{Q:aa→Prop}(R:aA prog w K os Ω s)(hv:VR v x)(hr:VR r y)
  (h:fq x t y Q Ω):wpAny (model prog w) A (setAttr v t.name r) (λaj s'=>∃az,aA prog w K os az s'∧Q az) bS s:=by
 have X:=R.eU bf hB;cases h with
 |@inst a C d k m e hC hsl ed hk hq=>
  obtain⟨es,n,I,hd,hk',hns⟩:=R.sL e ed;have htk:takerIn (KF w.params) C t.name=some none:=by
   unfold takerIn;rw[KX.at_ w.params hC t];rfl
  have hle:∀{hs:Int} {k' v':Value},(putL t.name hs k' v' es).length≤k+1:=Nat.le_trans (mE es) (Nat.succ_le_succ hk')
  exact VR.bg hv (set_plain X I (KX.sa w.params hC) (Av (s:={s with toks:=s.toks+1}) X I rfl hd (KX.po w.params hC) htk (KX.hd w.params hC) (by rw[lookIn_dict];exact hns.some t) (putName_dict ..) rfl (Nat.le_trans hle (Nat.le_add_left_of_le hk)) λh' hs hg=>
   ⟨_,R.upd (o':= .ns (k+1) (ef.set m t y)) ed hs hg ⟨_,_,rfl,hle,hns.put hr⟩,hq⟩))
 |@node a d k m m' e ht ed hq=>
  obtain⟨Aj,od,h0,I,h1⟩:=R.CE e ed;obtain⟨i,hi⟩:=Option.ne_none_iff_exists'.mp ht;obtain⟨f1,f2,f3,f4,f5,f6⟩:=KX.GJ w.params t i hi;have N9:i<3:=Ax hi;refine VR.bg hv (set_plain X I (KX.Mk _) (osa_descr (s:={s with toks:=s.toks+1}) KF.slot_mset X I (KX.Mn _) f5 f6 (Aw (s:={s with toks:=s.toks+1}) X I f4 (Nat.lt_add_left _ N9) rfl rfl λh' hs hg=>
   ⟨_,R.upd (o':= .node d (ef.set m t y)) e hs hg ⟨_,rfl,λt' i' x' hi' hx'=>?_⟩,hq⟩)))
  unfold ef.set at hx'
  by_cases q:t'=t
  ·subst q
   rw[if_pos rfl]at hx';cases hx';rw[hi]at hi';cases hi';refine⟨r,?_,hr⟩;rw[Array.getElem?_setIfInBounds_self_of_lt (by rw[Array.size_append,Array.size_replicate];exact RV)];rfl
  ·rw[if_neg q]at hx'
   obtain⟨v',g1,g2⟩:=h1 t' i' x' hi' hx';refine⟨v',?_,g2⟩;rw[Array.getElem?_setIfInBounds_ne λe':i=i'=>q (xj (e'▸hi') hi)];have hlt:i'<Aj.size:=by
    cases hq:Aj[i']? with
    |none=>rw[hq]at g1;cases g1
    |some z=>exact(Array.getElem?_eq_some_iff.mp hq).1
   rw[Array.getElem?_append_left hlt];exact g1
theorem Im:MN.pop.name=Str.ofString "pop":=by decide+kernel
theorem Ay:MN.append.name=Str.ofString "append":=by decide+kernel
theorem Az:MN.extend.name=Str.ofString "extend":=by decide+kernel
theorem EC:MN.sort.name=Str.ofString "sort":=by decide+kernel
theorem CF:MN.clear.name=Str.ofString "clear":=by decide+kernel
theorem Io:MN.get.name=Str.ofString "get":=by decide+kernel
theorem qy:MN.setdefault.name=Str.ofString "setdefault":=by decide+kernel
theorem Ip:MN.add.name=Str.ofString "add":=by decide+kernel
theorem om{m:MN}{b:BI}(h:Cg m=some b):Slot "list" m.name b.id∧typeOf (.builtin b.id)=pure (.type "method_descriptor"):=by
 cases m<;>cases h
 ·exact⟨Im▸F.slot_list_pop,F.type_list_pop⟩
 ·exact⟨Ay▸F.slot_list_append,F.type_list_append⟩
 ·exact⟨Az▸F.slot_list_extend,F.type_list_extend⟩
 ·exact⟨EC▸F.slot_list_sort,F.type_list_sort⟩
 ·exact⟨CF▸F.slot_list_clear,F.type_list_clear⟩
theorem oq{m:MN}{b:BI}(h:Ci m=some b):Slot "dict" m.name b.id∧typeOf (.builtin b.id)=pure (.type "method_descriptor"):=by
 cases m<;>cases h
 ·exact⟨Io▸F.slot_dict_get,F.type_dict_get⟩
 ·exact⟨qy▸F.slot_dict_setdefault,F.type_dict_setdefault⟩
theorem mF(bf:BF prog w B)(hB:∀a o,B a=some o→K a=some o∧¬os.F a){m:MN}{v:Value}{x f:af}{pl:Sem Bool}(R:aA prog w K os Ω s)(hv:VR v x)(h:fG Ω m x f):
  wpAny (model prog w) A (getMethod v m.name pl) (λfx s'=>s'=s∧∃fv,fx=(fv,[v])∧VR fv f) bS s:=by
 cases h with
 |list e hm=>
  obtain⟨items,n,g1,g2,g3⟩:=R.list e;exact VR.bg hv (getMethod_builtin ⟨_,g1,rfl⟩ F.plainAttrs_list (om hm).1 (om hm).2 (λa e=>by cases e;exact⟨_,g1,rfl⟩) ⟨rfl,_,rfl,rfl⟩)
 |dict e hm=>
  obtain⟨kvs,g1,g2,g3⟩:=R.dict e;exact VR.bg hv (getMethod_builtin g1.dictOf.typeIs F.plainAttrs_dict (oq hm).1 (oq hm).2 g1.dictOf.mapOf.noDict ⟨rfl,_,rfl,rfl⟩)
 |set e hm=>subst hm;rw[Ip];exact VR.bg hv (getMethod_set_add (R.set e) ⟨rfl,_,rfl,rfl⟩)
 |@own p C d fa k ms e ed h1=>
  obtain⟨hC,g1,g2,g3⟩:=KX.Mp w.params C m fa h1;obtain⟨es,n,I,hd,hk',hns⟩:=R.sL e ed;have Mq:=plainGet_of (KX.pg w.params hC m.name);refine VR.bg hv (method_fn (R.eU bf hB) I Mq.1 Mq.2 g1 g2 ?_ ⟨rfl,_,rfl,rfl⟩);show (lookIn m.name (dictOf es n)).map _=_;rw[lookIn_dict,hns.2 m.name (λt aj=>uR t m)];rfl
end
end
section
set_option maxHeartbeats 4000000
open PySem PySem.W PyProof.Rows PySem.Calls
section
variable{prog:Program}{w:World}{B:Addr→Option Obj}{A:Around}{K:Addr→Option Obj}{os:Oz}{Ω:aa}{s:Shared}
theorem mG(bf:BF prog w B)(hB:∀a o,B a=some o→K a=some o∧¬os.F a)(R:aA prog w K os Ω s){p:Addr}{ys:List af}(e:Ω p=some (.cZ ys)){name:Str}{id n:String}{b:Builtin}{rest:List Value}{E:Value→Shared→Prop}{Q:Option Value→Shared→Prop}
  (slot:Slot "tuple" name id) (entry:entryFor table id=some b) (hf:findIn (KF w.params) (.ref 135) name=some (some (.builtin id))) (hk:builtinKind id=some .slot) (hs:splitId id=some ("tuple",n)) (ha:argsOk id ⟨.ref p::rest,[]⟩)
  (hbd:wpAny (model prog w) A.in1 (b ⟨.ref p::rest,[]⟩) (λfin s'=>∃v,fin= .done (.ret v)∧Q (some v) s') E s):wpAny (model prog w) A (callSpecial? (.ref p) name rest) Q E s:=by
 have X:=R.eU bf hB;obtain⟨items,m,dd,g1,g2,g3⟩:=R.cZ e;have t1:Looks (model prog w) s.heap (typeOf (.ref p)) (.ref 135):=(Looks.ld g1).andThen .now;have s1:Looks (model prog w) s.heap (isSubtype (.ref 135) (.type "tuple")) true:=looks_mroIn X (by kernel_rfl!);have i1:Looks (model prog w) s.heap (typeLookup (.ref 135) name) (some (.builtin id)):=looks_findIn X hf;unfold callSpecial? specialOf;refine wpAny_bind (wpAny_bind (t1.here (i1.here ?_)));refine wpAny_holding ?_;dsimp only;rw[slot.bind];refine wpAny_bind (wpAny_pure ?_);refine wpAny_bind (wpAny_call (codeAny_call_builtin slot.plain entry (check_slot hk hs (t1.andThen s1) ha (wpAny_mono hbd (λfin s' ⟨v,e,hq⟩=>?_) λaj aj x=>x))));subst e;exact wpAny_pure hq
theorem AA(R:aA prog w K os Ω s){p:Addr}{ys:List af}(e:Ω p=some (.cZ ys)){E:Value→Shared→Prop}{Q:Array Value→Shared→Prop}(h:∀items,aP items.toList ys→items.size=ys.length→Q items s):wpAny (model prog w) A (Builtin.Tuple.tupleItemsOf (.ref p)) Q E s:=by
 obtain⟨items,m,dd,g1,g2,g3⟩:=R.cZ e;unfold Builtin.Tuple.tupleItemsOf;exact wpAny_bind (wpAny_seqItems g1 rfl (wpAny_pure (h items g2 g3)))
theorem ED(bf:BF prog w B)(hB:∀a o,B a=some o→K a=some o∧¬os.F a)(R:aA prog w K os Ω s){p:Addr}{ys:List af}(e:Ω p=some (.cZ ys))(hl:ys.length<lim){Q:af→aa→Prop}(h:Q (.int ys.length) Ω):
  wpAny (model prog w) A (call (.builtin "len") [.ref p]) (PH prog w K os Q) bS s:=by
 refine Calls.call_function_entry kind_len plain_len entry_len (args_len1 _) ?_;unfold Builtin.«len»;refine wpAny_bind (m:=oneArg "len" _) (wpAny_pure ?_);refine wpAny_bind (m:=callSpecial? (.ref p) (Str.ofString "__len__")) (mG bf hB R e (n:="__len__") (name:=Str.ofString "__len__") slot_tuple_len entry_tuple_len (by kernel_rfl!) (by decide+kernel) (by decide+kernel) (args_tuple_len _) ?_);show wpAny _ _ (do retInt (←Builtin.Tuple.tupleItemsOf (.ref p)).size) _ _ s;refine wpAny_bind (AA R e λitems g2 g3=>?_);refine wpAny_bind (wpAny_mkInt (wpAny_pure ⟨_,rfl,?_⟩));refine wpAny_bind (wpAny_holding (wpAny_pure ?_));refine wpAny_bind (wpAny_letGo ?_);show wpAny _ _ (if ((items.size:Nat):Int)<0 then _ else _) _ _ _;have hb:¬(2:Int)^63≤((items.size:Nat):Int):=by rw[g3];unfold lim at hl;exact Vv hl
 rw[if_neg (Vw),if_neg hb];refine wpAny_bind (wpAny_mkInt (wpAny_pure ?_));rw[g3];exact⟨_,rfl, .int _,Ω,VR.mkInt,R.toks,h⟩
theorem EE(P:Params)(S:Setting):peek (KF P) S (seqItemTypes.anyM λn=>isSubtype (.ref 135) (.type n))=some false:=by kernel_rfl!
theorem EF(bf:BF prog w B)(hB:∀a o,B a=some o→K a=some o∧¬os.F a)(R:aA prog w K os Ω s){p:Addr}{ys:List af}(e:Ω p=some (.cZ ys)){k:Int}{t:Tok}{z:af}(h0:0≤k)(h1:k<2^62)(hz:ys[k.toNat]?=some z){value slice:Expr}
  (hs:∀o i,subscripted slice false o i=operate [o,i] (getItem o i)):
  wpAny (model prog w) A (subscriptTail value slice (.ref p) (.int k t)) (λr s'=>VR r z∧aA prog w K os Ω s') bS s:=by
 have X:=R.eU bf hB;obtain⟨items,m,dd,g1,g2,g3⟩:=R.cZ e;have t1:Looks (model prog w) s.heap (typeOf (.ref p)) (.ref 135):=(Looks.ld g1).andThen .now;have i1:Looks (model prog w) s.heap (typeLookup (.ref 135) "__getitem__") (some (.builtin "tuple.__getitem__")):=looks_findIn X (by kernel_rfl!);have k1:Looks (model prog w) s.heap (seqItemTypes.anyM λn=>isSubtype (.ref 135) (.type n)) false:=Looks.of_peek X (EE _ _);obtain⟨r,hr,hv⟩:=g2.get hz;rw[Array.getElem?_toList]at hr;have hlt:k.toNat<items.size:=(Array.getElem?_eq_some_iff.mp hr).1;unfold subscriptTail;refine wpAny_bind ?_;unfold getitemInPython specialOf;refine wpAny_bind (wpAny_bind (t1.here (i1.here ?_)));refine wpAny_pure (wpAny_bind ?_);rw[hs];refine wpAny_operating ?_;unfold getItem;refine wpAny_holding ?_;unfold sequenceKey;refine wpAny_bind (wpAny_bind (t1.here ?_));dsimp only;refine wpAny_bind (k1.here ?_);rw[if_pos (show (!false)=true from rfl)];refine wpAny_pure (wpAny_bind ?_);refine mG bf hB R e (n:="__getitem__") (name:=Str.ofString "__getitem__") slot_tuple_getitem entry_tuple_getitem (by kernel_rfl!) (by decide+kernel) (by decide+kernel) (args_tuple_getitem _ _) ?_;show wpAny _ _ (Builtin.Tuple.tupleItemsOf (.ref p)>>=_) _ _ s;refine wpAny_bind (wpAny_bind (wpAny_seqItems g1 rfl (wpAny_pure ?_)));refine wpAny_bind (wpAny_typeOf (typeIs_int s k t) ?_);rw[if_neg (by decide)];refine wpAny_bind (wpAny_specialOf (T:="int") (typeIs_int s k t) int_index ?_);rw[if_neg (by simp)];refine wpAny_bind (wpAny_of_eq (a:=k) rfl ?_);rw[if_neg (by simp only[Bool.or_eq_true,decide_eq_true_eq];exact Vx h0 h1)];have hj:seqIndex? k items.size=some k.toNat:=by
  unfold seqIndex?;have hk:¬k<0:=Int.not_lt_of_ge h0;simp only[if_neg hk];rw[if_pos (by simp;exact⟨h0,P1 hlt⟩)]
 simp only[hj,Option.bind_some,hr];exact wpAny_pure ⟨_,rfl,wpAny_pure (wpAny_bind (wpAny_letTemporaryGo (wpAny_pure ⟨hv,R⟩)))⟩
theorem CG(bf:BF prog w B)(hB:∀a o,B a=some o→K a=some o∧¬os.F a)(R:aA prog w K os Ω s){p:Addr}{ys:List af}(e:Ω p=some (.cZ ys)){name:Str}{id n:String}{b:Builtin}{rest:List Value}{E:Value→Shared→Prop}{Q:Value→Shared→Prop}
  (slot:Slot "tuple" name id) (entry:entryFor table id=some b) (hk:builtinKind id=some .slot) (hs:splitId id=some ("tuple",n)) (ha:argsOk id ⟨.ref p::rest,[]⟩)
  (hbd:wpAny (model prog w) A.in1 (b ⟨.ref p::rest,[]⟩) (λfin s'=>∃v,fin= .done (.ret v)∧Q v s') E s):wpAny (model prog w) A (call (.builtin id) (.ref p::rest)) Q E s:=by
 have X:=R.eU bf hB;obtain⟨items,m,dd,g1,g2,g3⟩:=R.cZ e;have t1:Looks (model prog w) s.heap (typeOf (.ref p)) (.ref 135):=(Looks.ld g1).andThen .now;have s1:Looks (model prog w) s.heap (isSubtype (.ref 135) (.type "tuple")) true:=looks_mroIn X (by kernel_rfl!);refine wpAny_call (codeAny_call_builtin slot.plain entry (check_slot hk hs (t1.andThen s1) ha (wpAny_mono hbd (λfin s' ⟨v,e,hq⟩=>?_) λaj aj x=>x)));subst e;exact hq
theorem CH(bf:BF prog w B)(hB:∀a o,B a=some o→K a=some o∧¬os.F a)(R:aA prog w K os Ω s){p:Addr}{ys:List af}(e:Ω p=some (.cZ ys)){E:Value→Shared→Prop}{Q:Value→Shared→Prop}
  (hQ:Q (.ref s.heap.objs.size) {s with heap:=s.heap.push {cls:= .type "tuple_iterator",data:= .fields #[.ref p, .int 0 0]}}):wpAny (model prog w) A (pyIter (.ref p)) Q E s:=by
 have X:=R.eU bf hB;obtain⟨items,m,dd,g1,g2,g3⟩:=R.cZ e;have t1:Looks (model prog w) s.heap (typeOf (.ref p)) (.ref 135):=(Looks.ld g1).andThen .now;have i1:Looks (model prog w) s.heap (typeLookup (.ref 135) "__iter__") (some (.builtin "tuple.__iter__")):=looks_findIn X (by kernel_rfl!);have L1:Looks (model prog w) s.heap (specialOf (.ref p) "__iter__") (some (.builtin "tuple.__iter__")):=t1.andThen i1;unfold pyIter;refine wpAny_bind (L1.here ?_);show wpAny _ A (callSpecialIfBoundUnlessNone? (.ref p) "__iter__" _>>=_) Q E s;refine wpAny_bind ?_;unfold callSpecialIfBoundUnlessNone? bindSpecialIfBound?;refine wpAny_holding (wpAny_bind (wpAny_bind (L1.here ?_)));dsimp only;rw[slot_tuple_iter.bind];refine wpAny_bind (wpAny_askSetting (wpAny_ite ?_));have fin:∀refuse:Sem Value,wpAny (model prog w) A (if (Value.builtin "tuple.__iter__"==Value.none)=true then(refuse>>=λv=>pure (some v))else(call (.builtin "tuple.__iter__") [.ref p]>>=λv=>pure (some v))) (λa s'=>∃it T r,a=some it∧s'.TypeIs it T∧typeLookup (.type T) "__next__"=pure (some r)∧Q it s') E s:=λrefuse=>by
  rw[if_neg (show ¬((Value.builtin "tuple.__iter__"==Value.none)=true)from Bool.false_ne_true)];refine wpAny_bind (CG bf hB R e (n:="__iter__") slot_tuple_iter entry_tuple_iter (by decide+kernel) (by decide+kernel) (args_tuple_iter _) ?_);show wpAny _ _ (do ret (←newFields "tuple_iterator" [.ref p,rawInt 0])) _ _ s;exact wpAny_bind (wpAny_newObj_type (wpAny_pure ⟨_,rfl,wpAny_pure ⟨_,"tuple_iterator",_,rfl,⟨_,Heap.get?_push_size _ rfl,rfl⟩,slot_tupleiter_next.lookup,hQ⟩⟩))
 split
 ·refine wpAny_bind (wpAny_pure (wpAny_pure (wpAny_mono (fin _) (λa s' ⟨it,T,r,e1,e2,e3,e4⟩=>?_) λaj aj x=>x)))
  subst e1;exact wpAny_bind (wpAny_specialOf e2 e3 (wpAny_pure e4))
 ·refine wpAny_tryCatch (wpAny_bind (wpAny_pure (wpAny_pure (wpAny_mono (fin _) (λa s' ⟨it,T,r,e1,e2,e3,e4⟩=>?_) λaj aj x=>x))))
  subst e1;exact wpAny_bind (wpAny_specialOf e2 e3 (wpAny_pure e4))
def ou(h:Heap)(t:Addr)(items:Array Value):Prop:=∃o n,h.get? t=some o∧o.data= .seq items n
theorem uU{E:Value→Shared→Prop}{it t:Addr}{i:Nat}{items:Array Value}{Q:Option Value→Shared→Prop}(hh:A.handled=none)(hit:IsTupIter s.heap it t i)(ht:ou s.heap t items)
  (h1:∀x h',items[i]?=some x→IsTupIter h' it t (i+1)→Heap.SameBut it s.heap h'→Q (some x) {s with heap:=h'})
  (h2:∀h',items[i]?=none→Heap.ExtBut it s.heap h'→Q none {s with heap:=h'}):wpAny (model prog w) A (pyNext (.ref it)) Q E s:=by
 obtain⟨o,ho,hc,hd⟩:=id hit;obtain⟨ol,nl,Mr,hdl⟩:=ht;unfold pyNext;refine wpAny_bind (wpAny_attempt (wpAny_callSpecial?_slot (name:=Str.ofString "__next__") hit.typeIs slot_tupleiter_next (wpAny_call_entry slot_tupleiter_next hit.typeIs entry_tupleiter_next ?_ (args_tupleiter_next _))));show wpAny _ _ (field (.ref it) 0>>=_) _ _ s;refine wpAny_bind (wpAny_field ho hd (x:= .ref t) rfl ?_);show wpAny _ _ (if (Value.ref t==Value.none)=true then _ else _) _ _ s;rw[if_neg (show ¬((Value.ref t==Value.none)=true)from Bool.false_ne_true)];show wpAny _ _ (field (.ref it) 1>>=_) _ _ s;refine wpAny_bind (wpAny_field ho hd (x:= .int i 0) rfl ?_);show wpAny _ _ (seqItems? (.ref t)>>=_) _ _ s;refine wpAny_bind (wpAny_seqItems Mr hdl ?_);cases hx:items[i]? with
 |some x=>
  simp only[Int.toNat_natCast,hx];refine wpAny_bind (wpAny_setField ho hd (by simp) (wpAny_pure ⟨x,rfl,wpAny_pure (h1 x _ hx ?_ (Heap.SameBut.update ..))⟩));exact⟨_,Heap.get?_update_self _ ho (Obj.isFreed_of_fields (Obj.data_mapFields hd _)),(Obj.cls_mapFields ..).trans hc,by rw[Obj.data_mapFields hd];simp[rawInt]⟩
 |none=>
  simp only[Int.toNat_natCast,hx];refine wpAny_bind (wpAny_rule (wpAny_bind (wpAny_setField ho hd (by simp) ?_)));show wpAny _ _ (newExc (.type "StopIteration") []>>=_) _ _ _;refine wpAny_bind ?_;simp only[newExc,newTuple];refine wpAny_bind (wpAny_newObj_type ?_ (by size_fits));refine wpAny_bind (m:=firstArgMember _ _) (wpAny_of_eq (a:=Value.none) (by first|rfl|(simp only[firstArgMember];rfl)) ?_);refine wpAny_newObj_type ?_ (by size_fits);unfold raiseNew;dsimp only;refine wpAny_bind (wpAny_handled ?_)
  first|rw[show A.in1.handled=none from hh]|rw[hh]
  refine wpAny_bind (wpAny_pure (wpAny_throw ?_));refine wpAny_bind (wpAny_isInstance (T:="StopIteration") (b:=true) ⟨_,Heap.get?_push_size _ rfl,rfl⟩ isSubtype_stop ?_);exact wpAny_pure (h2 _ hx (((Heap.SameBut.update ..).extBut.push _).push _))
theorem ou.sameBut{h h':Heap}{t it:Addr}{items:Array Value}(x:ou h t items)(hs:Heap.SameBut it h h')(hne:t≠it):ou h' t items:=by
 obtain⟨o,n,h1,h2⟩:=x;exact⟨o,n,(hs.2 t hne).trans h1,h2⟩
theorem uV{E:Value→Shared→Prop}{it t:Addr}{items:Array Value}(hh:A.handled=none)(hne:t≠it):∀(n i:Nat) (s:Shared) (Q:List Value→Shared→Prop),IsTupIter s.heap it t i→ou s.heap t items→i+n≤items.size→
  (∀h',IsTupIter h' it t (i+n)→Heap.SameBut it s.heap h'→Q ((items.toList.drop i).take n) {s with heap:=h'})→wpAny (model prog w) A (draw (.ref it) n) Q E s
 |0,i,s,Q,hit,aj,br,hQ=>by
  show wpAny _ _ (pure []) Q E s;exact wpAny_pure (by simpa using hQ s.heap hit (Heap.SameBut.refl ..))
 |n+1,i,s,Q,hit,ht,hle,hQ=>by
  have hlt:i<items.size:=NL hle;show wpAny _ _ (pyNext (.ref it)>>=_) Q E s;refine wpAny_bind (uU hh hit ht (λx h₁ hx xr hs₁=>?_) λh' hx aj=>?_)
  ·refine wpAny_bind (wpAny_holding (uV hh hne n (i+1) _ _ xr (ht.sameBut hs₁ hne) (J7 hle) λh₂ Iq hs₂=>wpAny_pure ?_))
   have hd:items.toList.drop i=x::items.toList.drop (i+1):=by
    rw[Array.getElem?_eq_some_iff]at hx;obtain⟨h1,rfl⟩:=hx;simp[List.drop_eq_getElem_cons,hlt]
   have:=hQ h₂ (by rw[show i+(n+1)=i+1+n by exact Rh];exact Iq) (hs₁.trans hs₂);rw[hd,List.take_succ_cons]at this;exact this
  ·rw[Array.getElem?_eq_none_iff]at hx;exact(Ri hle hx).elim
theorem EG(bf:BF prog w B)(hB:∀a o,B a=some o→K a=some o∧¬os.F a)(R:aA prog w K os Ω s)(hh:A.handled=none){p:Addr}{ys:List af}(e:Ω p=some (.cZ ys)):
  wpAny (model prog w) A (unpackItems (.ref p) ys.length none) (λvs s'=>aP vs ys∧aA prog w K os Ω s') bS s:=by
 have X:=R.eU bf hB;obtain⟨items,m,dd,g1,g2,g3⟩:=R.cZ e;have t1:Looks (model prog w) s.heap (typeOf (.ref p)) (.ref 135):=(Looks.ld g1).andThen .now;have i1:Looks (model prog w) s.heap (typeLookup (.ref 135) "__iter__") (some (.builtin "tuple.__iter__")):=looks_findIn X (by kernel_rfl!);have L1:Looks (model prog w) s.heap (specialOf (.ref p) "__iter__") (some (.builtin "tuple.__iter__")):=t1.andThen i1;have hne:p≠s.heap.objs.size:=Nat.ne_of_lt (Heap.lt_size g1);unfold unpackItems;refine wpAny_bind ?_;unfold notIterableAtAll;refine wpAny_bind (L1.here ?_);refine wpAny_pure ?_;simp only[Bool.false_eq_true,if_false];refine wpAny_bind (wpAny_holding (CH bf hB R e ?_));rw[←g3];refine wpAny_bind (wpAny_holding (uV hh hne items.size 0 _ _ ⟨_,Heap.get?_push_size _ rfl,rfl,rfl⟩ ⟨_,m,Heap.get?_push_of_some _ g1,rfl⟩ (Rj) λh₁ xr hs₁=>?_));have hall:List.take items.size (List.drop 0 items.toList)=items.toList:=by rw[List.drop_zero];exact List.take_of_length_le (by simp)
 rw[hall,if_neg (by simp)];have hk1:∀b o,s.heap.get? b=some o→h₁.get? b=some o:=λb o e=>(hs₁.2 b (Nat.ne_of_lt (Heap.lt_size e))).trans (Heap.get?_push_of_some _ e)
 refine wpAny_bind (wpAny_holding (uU hh xr ⟨_,m,hk1 _ _ g1,rfl⟩ (λx h₂ hx aj aj=>?_) λh₂ aj zF=>?_))
 ·rw[Array.getElem?_eq_none_iff.mpr (Nat.le_add_left _ _)]at hx;cases hx
 ·simp only[Option.isSome_none,Bool.false_eq_true,if_false]
  exact wpAny_pure ⟨g2,R.ext (t:=s.toks) λb o e=>zF b o (Nat.ne_of_lt (Heap.lt_size e)) (hk1 b o e)⟩
namespace TX
theorem check(P:Params)(v:Value)(S:Setting):peek (KF P) S (checkBuiltinCall "tuple.__new__" ⟨[.ref 135,v],[]⟩)=some ():=by kernel_rfl!
theorem isT(P:Params)(S:Setting):peek (KF P) S (isType (.ref 135))=some true:=by kernel_rfl!
theorem sub(P:Params)(S:Setting):peek (KF P) S (isSubtype (.ref 135) (.type "tuple"))=some true:=by kernel_rfl!
theorem here(P:Params)(S:Setting):peek (KF P) S (Bind.madeHere "tuple.__new__" (.ref 135))=some ():=by kernel_rfl!
theorem init(P:Params)(S:Setting):peek (KF P) S (typeLookup (.ref 135) "__init__")=some (some (.builtin "object.__init__")):=by kernel_rfl!
theorem del(P:Params)(S:Setting):peek (KF P) S (classHasDel 135)=some false:=by kernel_rfl!
end TX
theorem qz(bf:BF prog w B)(hB:∀a o,B a=some o→K a=some o∧¬os.F a)(R:aA prog w K os Ω s){p:Addr}{ys:List af}(e:Ω p=some (.tup ys))(hl:ys.length<lim){Q:af→aa→Prop}(h:∀r,Ω r=none→Q (.ref r) (Ω.set r (.cZ ys))):
  wpAny (model prog w) A (call (.builtin "tuple.__new__") [.ref 135, .ref p]) (PH prog w K os Q) bS s:=by
 have X:=R.eU bf hB;obtain⟨items,n,g1,g2,g3⟩:=R.tup e;refine wpAny_call (codeAny_call_builtin PySem.F.plain_tuple_new PySem.F.entry_tuple_new ((Looks.of_peek X (TX.check _ _ _)).here ?_));unfold Builtin.«tuple.__new__»;refine wpAny_bind ((Looks.of_peek X (TX.isT _ _)).here ?_);refine wpAny_bind ((Looks.of_peek X (TX.sub _ _)).here ?_);refine wpAny_bind ((Looks.of_peek X (TX.here _ _)).here ?_);refine wpAny_bind ((Looks.of_peek X (TX.init _ _)).here ?_);dsimp only;rw[if_pos (by simp)];refine wpAny_bind (m:=noKeywords _ _) (wpAny_of_eq (a:=()) (by first|rfl|kernel_rfl) ?_);refine wpAny_bind (m:=checkCount _ _ _ _) (wpAny_of_eq (a:=()) (by first|rfl|kernel_rfl) ?_);rw[if_neg (by decide)];have hsz:items.size≤sizeLine:=by rw[g3,sizeLine_eq];unfold lim at hl;exact O8 hl
 refine wpAny_bind (wpAny_collect_seq p (.inr rfl) g1 rfl rfl (λh' hk=>?_) hsz);refine wpAny_bind (wpAny_pure ?_);have R1:aA prog w K os Ω {s with heap:=h'}:=R.ext (t:=s.toks) hk;refine wpAny_bind (wpAny_alloc ?_);have R2:aA prog w K os Ω {s with heap:=h'.push {cls:= .type "dict",data:= .dict #[]}}:=R1.push (t:=s.toks) _;refine wpAny_bind ?_;unfold newObj;dsimp only;rw[if_neg (by simpa using hsz)];unfold newObjAsIs;refine wpAny_bind (wpAny_alloc ?_);have R3:=R2.make (t:=s.toks) (ob:={cls:= .ref 135,dict:=some h'.objs.size,data:= .seq items.toList.toArray}) (o:= .cZ ys) rfl (OO.mkM (by simpa using g2));refine wpAny_bind ((Looks.of_peek (R3.eU bf hB) (TX.del _ _)).here ?_);refine wpAny_pure (wpAny_pure ?_);exact⟨.ref _,_,rfl,R3,h _ R2.bE⟩
end
end
section
open PySem PySem.W PyProof.Rows PySem.Calls
noncomputable def tD(t:List Int):PyData:= .tuple (t.map PyData.int)
theorem uW:∀ns ms:List Int,PyData.eqvAll (ns.map PyData.int) (ms.map PyData.int)=decide (ns=ms)
 |[],[]=>by simp[PyData.eqvAll]
 |[],aj::br=>by simp[PyData.eqvAll]
 |aj::br,[]=>by simp[PyData.eqvAll]
 |a::r,b::t=>by
  simp only[List.map_cons,PyData.eqvAll,PyData.eqv,uW r t]
  by_cases h:a=b<;>by_cases h':r=t<;>simp[h,h']
theorem uX:∀ts us:List (List Int),PyData.eqvAll (ts.map tD) (us.map tD)=(ts==us)
 |[],[]=>by simp[PyData.eqvAll]
 |[],aj::br=>by simp[PyData.eqvAll]
 |aj::br,[]=>by simp[PyData.eqvAll]
 |a::r,b::t=>by
  simp only[List.map_cons,PyData.eqvAll,uX r t];have e:PyData.eqv (tD a) (tD b)=(a==b):=by
   unfold tD;simp only[PyData.eqv,uW]
   by_cases h:a=b<;>simp[h]
  rw[e];rfl
theorem lay_ints:∀ns:List Int,PyData.canLayAll0 (ns.map PyData.int)=true
 |[]=>rfl
 |aj::r=>by simp[PyData.canLayAll0,PyData.canLay0,lay_ints r]
theorem ow:∀ns:List Int,PyData.depthAll (ns.map PyData.int)=0
 |[]=>rfl
 |aj::r=>by simp[PyData.depthAll,PyData.depth,ow r]
theorem uY:∀ts:List (List Int),PyData.canLayAll0 (ts.map tD)=true
 |[]=>rfl
 |t::r=>by simp[PyData.canLayAll0,PyData.canLay0,tD,lay_ints,uY r]
theorem oA:∀ts:List (List Int),PyData.depthAll (ts.map tD)≤1
 |[]=>by simp[PyData.depthAll]
 |t::r=>by
  have:=oA r;simp only[List.map_cons,PyData.depthAll,tD,PyData.depth,ow];exact UN this
theorem fK(ts:List (List Int)):SeqAt.shaped (.list (ts.map tD))=true:=by
 have:=oA ts;simp only[SeqAt.shaped,PyData.canLay0,uY,PyData.depth,Bool.true_and];exact decide_eq_true (PC this)
section
variable{prog:Program}{w:World}{B:Addr→Option Obj}{A:Around}{K:Addr→Option Obj}{os:Oz}{Ω:aa}{s:Shared}
theorem oB:∀{vs:List Value} {t:List Int},aP vs (av t)→ReadsAll s.heap vs (t.map PyData.int) []
 |[],[],aj=> .nil
 |v::vs,i::t,h=>by
  obtain⟨⟨tk,rfl⟩,h2⟩:=h;exact .cons (as:=[]) (.int i tk) (oB h2)
 |[],aj::br,h=>h.elim
 |aj::br,[],h=>h.elim
theorem oE(R:aA prog w K os Ω s):∀{vs:List Value} {as:List Addr} {ts:List (List Int)},aP vs (as.map .ref)→as.length=ts.length→(∀(i:Nat) a t,as[i]?=some a→ts[i]?=some t→Ω a=some (.tup (av t)))→ReadsAll s.heap vs (ts.map tD) []
 |[],[],[],aj,br,dg=> .nil
 |v::vs,a::as,t::ts,h,hl,ha=>by
  obtain⟨h1,h2⟩:=h;cases h1;obtain⟨items,n,g1,g2,g3⟩:=R.tup (ha 0 a t rfl rfl);refine .cons (as:=[]) (reads_tuple_at g1 rfl rfl (oB g2)) (oE R h2 (by simpa using hl) λi a' t' q1 q2=>ha (i+1) a' t' (by simpa using q1) (by simpa using q2))
 |[],aj::br,dg,h,gM,kD=>h.elim
 |aj::br,[],dg,h,gM,kD=>h.elim
 |aj::br,dg::gM,[],kD,hl,zw=>by simp at hl
 |[],[],aj::br,dg,hl,gM=>by simp at hl
theorem zG(ts us:List (List Int)):PyData.eqv (.list (ts.map tD)) (.list (us.map tD))=(ts==us):=by simp only[PyData.eqv];exact uX ts us
theorem iT(R:aA prog w K os Ω s){p:Addr}{ps:List af}{ts:List (List Int)}(hp:Ω p=some (.list ps))(tp:sE Ω ps ts):∃as,Reads s.heap (.ref p) (.list (ts.map tD)) as:=by
 obtain⟨as,rfl,l1,t1⟩:=tp;obtain⟨i1,n1,g1,g2,_⟩:=R.list hp;exact⟨_,reads_list_at g1 rfl rfl (oE R g2 l1 t1)⟩
theorem xu(R:aA prog w K os Ω s)(hu:A.units<9000){p q:Addr}{ps qs:List af}{ts us:List (List Int)}(e:HW Ω p q ps qs ts us){Q:Bool→Prop}(hq:Q (ts==us)):
  wpAny (model prog w) A (compareOp .Eq (.ref p) (.ref q)) (λr s'=>∃b,r= .bool b∧aA prog w K os Ω s'∧Q b) bS s:=
 eq_dataH (iT R e.hp e.tp).choose_spec (iT R e.hq e.tq).choose_spec (fK ts) (fK us) (by unfold cLine;exact KU hu) ⟨_,rfl,R,by rw[zG];exact hq⟩
theorem xy(R:aA prog w K os Ω s)(hu:A.units<9000){p q:Addr}{ps qs:List af}{ts us:List (List Int)}(e:HW Ω p q ps qs ts us){Q:Bool→Prop}(hq:Q (ts !=us)):
  wpAny (model prog w) A (compareOp .NotEq (.ref p) (.ref q)) (λr s'=>∃b,r= .bool b∧aA prog w K os Ω s'∧Q b) bS s:=
 ne_dataH (iT R e.hp e.tp).choose_spec (iT R e.hq e.tq).choose_spec (fK ts) (fK us) (by unfold cLine;exact KU hu) ⟨_,rfl,R,by rw[zG];exact hq⟩
end
end
section
open PySem PySem.W PyProof.Rows
structure ju(lt:Nat→Nat→Bool):Prop where
 Ek:∀a,lt a a=false
 tr:∀a b c,lt b a=false→lt c b=false→lt c a=false
 as:∀a b,lt a b=true→lt b a=false
def mH(cmp:Nat→Nat→(Bool→Shared→Prop)→Shared→Prop)(lt:Nat→Nat→Bool)(N:Nat)(I:Shared→Prop):Prop:=
 ∀i j,i<N→j<N→∀(C:Bool→Shared→Prop) s,I s→(∀s',I s'→C (lt i j) s')→cmp i j C s
noncomputable abbrev dh(p:Array Nat)(i:Nat):Nat:=p.getD i 0
theorem gu(p:Array Nat)(i:Nat):dh p i=(p[i]?).getD 0:=by simp[dh,Array.getD_eq_getD_getElem?]
def VP(N:Nat)(p:Array Nat):Prop:=p.Perm (List.range N).toArray
theorem VP.size{N:Nat}{p:Array Nat}(h:VP N p):p.size=N:=by have:=h.size_eq;simpa using this
theorem VP.lt{N:Nat}{p:Array Nat}(h:VP N p){i:Nat}(hi:i<N):dh p i<N:=by
 have hs:=h.size;have hm:p[i]'(O9 hs hi)∈p:=Array.getElem_mem _;rw[h.mem_iff]at hm;rw[gu,Array.getElem?_eq_getElem (O9 hs hi)]
 simpa using hm
theorem VP.rev{N:Nat}{p:Array Nat}(h:VP N p)(i j:Nat):VP N (kas_rev p i j):=(mirror_perm ..).trans h
theorem iz{p:Array Nat}{i j:Nat}(hj:j≤p.size)(k:Nat):dh (kas_rev p i j) k=if i≤k∧k<j then dh p (i+j-1-k)else dh p k:=by
 rw[gu,gu,gu];unfold kas_rev;rw[getElem?_mirror_all hj k]
 split<;>rfl
theorem rM{p:Array Nat}{src d:Nat}(hs:src<p.size)(hd:d≤src)(k:Nat):dh (bubble p src d) k=if k=src-d then dh p src else if src-d<k∧k≤src then dh p (k-1)else dh p k:=by
 rw[gu,gu,gu,gu,getElem?_bubble hs d hd k]
 split
 ·rfl
 ·split<;>rfl
section
variable{lt:Nat→Nat→Bool}
def gw(lt:Nat→Nat→Bool)(p:Array Nat)(n:Nat):Prop:=∀i j,i≤j→j<n→lt (dh p j) (dh p i)=false
def jT(lt:Nat→Nat→Bool)(p:Array Nat)(n:Nat):Prop:=∀i j,i≤j→j<n→lt (dh p i) (dh p j)=false
theorem gw.one(O:ju lt){p:Array Nat}:gw lt p 1:=λi j h1 h2=>by
 have:i=j:=KH h1 h2;subst this;exact O.Ek _
theorem jT.one(O:ju lt){p:Array Nat}:jT lt p 1:=λi j h1 h2=>by
 have:i=j:=KH h1 h2;subst this;exact O.Ek _
theorem gw.succ(O:ju lt){p:Array Nat}{n:Nat}(h:gw lt p n)(hn:0<n)(h1:lt (dh p n) (dh p (n-1))=false):gw lt p (n+1):=λi j hij hj=>by
 by_cases q:j<n
 ·exact h i j hij q
 ·have:j=n:=J8 hj q
  subst this
  by_cases q2:i=j
  ·subst q2;exact O.Ek _
  ·exact O.tr _ _ _ (h i (j-1) (KI hij q2) (OR hn)) h1
theorem jT.succ(O:ju lt){p:Array Nat}{n:Nat}(h:jT lt p n)(hn:0<n)(h1:lt (dh p (n-1)) (dh p n)=false):jT lt p (n+1):=λi j hij hj=>by
 by_cases q:j<n
 ·exact h i j hij q
 ·have:j=n:=J8 hj q
  subst this
  by_cases q2:i=j
  ·subst q2;exact O.Ek _
  ·exact O.tr _ _ _ h1 (h i (j-1) (KI hij q2) (OR hn))
variable{cmp:Nat→Nat→(Bool→Shared→Prop)→Shared→Prop}{N:Nat}{I:Shared→Prop}
theorem xA(O:ju lt)(hc:mH cmp lt N I){p:Array Nat}(hp:VP N p){Q:Nat→Shared→Prop}:∀(f n:Nat) (s:Shared),0<n→n+f≤N→gw lt p n→I s→
  (∀m s',n≤m→m≤n+f→gw lt p m→(m<n+f→lt (dh p m) (dh p (m-1))=true)→I s'→Q m s')→(kas_asc p f n).kasWp cmp Q s
 |0,n,s,h0,hn,ha,hI,hq=>hq n s (Nat.le_refl _) (Nat.le_refl _) ha (λh=>(Py h).elim) hI
 |f+1,n,s,h0,hn,ha,hI,hq=>by
  show cmp (dh p n) (dh p (n-1)) _ s;refine hc _ _ (hp.lt (NL hn)) (hp.lt (QF hn)) _ s hI λs' hI'=>?_
  cases q:lt (dh p n) (dh p (n-1))with
  |true=>
   simp only[if_true];exact hq n s' (Nat.le_refl _) (Nat.le_add_right _ _) ha (λaj=>q) hI'
  |false=>
   simp only[Bool.false_eq_true,if_false];exact xA O hc hp f (n+1) s' (JK) (J7 hn) (ha.succ O h0 q) hI' λm s'' h1 h2 h3 h4 h5=>hq m s'' (O3 h1) (NY h2) h3 (λh=>h4 (Uh h)) h5
def GL(lt:Nat→Nat→Bool)(p:Array Nat)(n q:Nat):Prop:=q+1≤n∧∀i,n-(q+1)≤i→i<n→lt (dh p (n-1)) (dh p i)=false
theorem GL.zero(O:ju lt){p:Array Nat}{n:Nat}(h:0<n):GL lt p n 0:=⟨h,λi h1 h2=>by
 have:i=n-1:=Ui h1 h2;subst this;exact O.Ek _⟩
theorem jT.rev(O:ju lt){p:Array Nat}{n q:Nat}(hn:n≤p.size)(h:jT lt p n)(hb:GL lt p n q):jT lt (kas_rev p (n-(q+1)) n) n∧lt (dh (kas_rev p (n-(q+1)) n) (n-1)) (dh p (n-1))=false∧lt (dh p (n-1)) (dh (kas_rev p (n-(q+1)) n) (n-1))=false:=by
 obtain⟨b1,b2⟩:=hb;have eqv:∀k,k<n→lt (dh (kas_rev p (n-(q+1)) n) k) (dh p k)=false∧lt (dh p k) (dh (kas_rev p (n-(q+1)) n) k)=false:=λk hk=>by
  rw[iz hn]
  by_cases hi:n-(q+1)≤k∧k<n
  ·rw[if_pos hi]
   have x1:=b2 k hi.1 hi.2;have x2:=h k (n-1) (JI hk) (NZ b1);have y1:=b2 (n-(q+1)+n-1-k) (Uj hk) (Qf b1 hi.1);have y2:=h (n-(q+1)+n-1-k) (n-1) (J3 hi.1) (NZ b1);exact⟨O.tr _ _ _ x1 y2,O.tr _ _ _ y1 x2⟩
  ·rw[if_neg hi];exact⟨O.Ek _,O.Ek _⟩
 refine⟨λi j hij hj=>?_,(eqv (n-1) (NZ b1)).1,(eqv (n-1) (NZ b1)).2⟩;exact O.tr _ _ _ (O.tr _ _ _ (eqv j hj).2 (h i j hij hj)) (eqv i (O5 hij hj)).1
theorem nI(O:ju lt)(hc:mH cmp lt N I){Q:Array Nat×Nat×Nat→Shared→Prop}:∀(f:Nat) (p:Array Nat) (n q:Nat) (s:Shared),VP N p→n+f≤N→jT lt p n→GL lt p n q→I s→
  (∀p' m q' s',VP N p'→n≤m→m≤n+f→jT lt p' m→GL lt p' m q'→I s'→Q (p',m,q') s')→(kas_desc f p n q).kasWp cmp Q s
 |0,p,n,q,s,hp,hn,hd,hb,hI,hq=>hq p n q s hp (Nat.le_refl _) (Nat.le_refl _) hd hb hI
 |f+1,p,n,q,s,hp,hn,hd,hb,hI,hq=>by
  have hn0:0<n:=by have:=hb.1;exact O6 this
  have hsz:=hp.size;show cmp (dh p n) (dh p (n-1)) _ s;refine hc _ _ (hp.lt (NL hn)) (hp.lt (QF hn)) _ s hI λs' hI'=>?_
  cases c:lt (dh p n) (dh p (n-1))with
  |true=>
   have c':=O.as _ _ c;simp only[if_true]
   by_cases jG:q>0
   ·rw[if_pos jG]
    obtain⟨r1,r2,r3⟩:=hd.rev O (KJ hsz hn) hb;refine nI O hc f _ (n+1) 0 s' (hp.rev _ _) (J7 hn) (r1.succ O hn0 ?_) (GL.zero O (JK)) hI' λp' m q' s'' h1 h2 h3 h4 h5 h6=>hq p' m q' s'' h1 (O3 h2) (NY h3) h4 h5 h6
    have e:dh (kas_rev p (n-(q+1)) n) n=dh p n:=by rw[iz (KJ hsz hn),if_neg (Uk)]
    rw[e];exact O.tr _ _ _ c' r2
   ·rw[if_neg jG]
    exact nI O hc f p (n+1) 0 s' hp (J7 hn) (hd.succ O hn0 c') (GL.zero O (JK)) hI' λp' m q' s'' h1 h2 h3 h4 h5 h6=>hq p' m q' s'' h1 (O3 h2) (NY h3) h4 h5 h6
  |false=>
   simp only[Bool.false_eq_true,if_false];show cmp (dh p (n-1)) (dh p n) _ s';refine hc _ _ (hp.lt (QF hn)) (hp.lt (NL hn)) _ s' hI' λs'' Ms=>?_
   cases d:lt (dh p (n-1)) (dh p n)with
   |true=>
    simp only[if_true];exact hq p n q s'' hp (Nat.le_refl _) (Nat.le_add_right _ _) hd hb Ms
   |false=>
    simp only[Bool.false_eq_true,if_false];refine nI O hc f p (n+1) (q+1) s'' hp (J7 hn) (hd.succ O hn0 d) ⟨by have:=hb.1;exact Nat.succ_le_succ this,λi h1 h2=>?_⟩ Ms λp' m q' s3 h1 h2 h3 h4 h5 h6=>hq p' m q' s3 h1 (O3 h2) (NY h3) h4 h5 h6
    show lt (dh p n) (dh p i)=false
    by_cases qi:i=n
    ·subst qi;exact O.Ek _
    ·exact O.tr _ _ _ (hb.2 i (Ul h1) (Um h2 qi)) c
theorem uZ(O:ju lt)(hc:mH cmp lt N I){p:Array Nat}(hp:VP N p){n:Nat}(h0:0<n)(hn:n≤N)(hd:jT lt p n){Q:Nat×Array Nat→Shared→Prop}{s:Shared}(hI:I s)
  (hq:∀m p' s',VP N p'→n≤m→m≤N→gw lt p' m→I s'→Q (m,p') s'):(kas_tail3 n N p).kasWp cmp Q s:=by
 unfold kas_tail3;rw[KasT.kasWp_bind];have hsz:=hp.size;have ha:gw lt (kas_rev p 0 n) n:=λi j hij hj=>by
  rw[iz (hsz▸hn),iz (hsz▸hn),if_pos (⟨HC,hj⟩),if_pos (⟨HC,O5 hij hj⟩)];exact hd _ _ (Nat.sub_le_sub_left hij _) (Un h0)
 exact xA O hc (hp.rev 0 n) (N-n) n s h0 (Uo hn) ha hI λm s' h1 h2 h3 aj h5=>hq m _ s' (hp.rev 0 n) h1 (Up h2 hn) h3 h5
theorem mJ(O:ju lt)(hc:mH cmp lt N I){p:Array Nat}(hp:VP N p){n:Nat}(hn:n+1≤N)(hd:jT lt p (n+1)){Q:Nat×Array Nat→Shared→Prop}{s:Shared}(hI:I s)
  (hq:∀m p' s',VP N p'→1≤m→m≤N→gw lt p' m→I s'→Q (m,p') s'):(kas_descPart n N p).kasWp cmp Q s:=by
 unfold kas_descPart;rw[KasT.kasWp_bind];refine nI O hc (N-(n+1)) p (n+1) 0 s hp (Uq hn) hd (GL.zero O (JK)) hI λp' m q' s' h1 h2 h3 h4 h5 h6=>?_
 have hsz:=h1.size;show KasT.kasWp cmp (if q'>0 then kas_tail3 m N (kas_rev p' (m-(q'+1)) m)else kas_tail3 m N p') Q s'
 by_cases jG:q'>0
 ·rw[if_pos jG]
  exact uZ O hc (h1.rev _ _) (O6 h2) (KL hn h3) (h4.rev O (Ur hsz hn h3) h5).1 h6 λm' p'' s'' a1 a2 a3 a4 a5=>hq m' p'' s'' a1 (KN h2 a2) a3 a4 a5
 ·rw[if_neg jG]
  exact uZ O hc h1 (O6 h2) (KL hn h3) h4 h6 λm' p'' s'' a1 a2 a3 a4 a5=>hq m' p'' s'' a1 (KN h2 a2) a3 a4 a5
theorem CJ(O:ju lt)(hc:mH cmp lt N I){p:Array Nat}(hp:VP N p)(hN:1≤N){Q:Nat×Array Nat→Shared→Prop}{s:Shared}(hI:I s)
  (hq:∀m p' s',VP N p'→1≤m→m≤N→gw lt p' m→I s'→Q (m,p') s'):(kas_count N p).kasWp cmp Q s:=by
 unfold kas_count;rw[KasT.kasWp_bind];have hsz:=hp.size;refine xA O hc hp (N-1) 1 s (by decide) (Us hN) (gw.one O) hI λn s' h1 h2 h3 h4 h5=>?_
 by_cases e1:(n==N)=true
 ·rw[if_pos e1]
  exact hq n p s' hp h1 (KO hN h2) h3 h5
 ·rw[if_neg e1]
  have hne:n≠N:=λq=>e1 (by rw[q];exact beq_self_eq_true _)
  have hlt:=h4 (Ut hN h2 hne);have hle:=O.as _ _ hlt
  by_cases e2:n>1
  ·rw[if_pos e2]
   show cmp (dh p 0) (dh p (n-1)) _ s';refine hc _ _ (hp.lt (OS hN)) (hp.lt (Uu hN h2)) _ s' h5 λs'' h6=>?_
   cases c:lt (dh p 0) (dh p (n-1))with
   |true=>
    simp only[if_true];exact hq n p s'' hp h1 (KO hN h2) h3 h6
   |false=>
    simp only[Bool.false_eq_true,if_false];have hall:∀i j,i<n→j<n→lt (dh p i) (dh p j)=false:=λi j hi hj=>by
     have a1:=h3 j (n-1) (JI hj) (O7 h1);have a2:=h3 0 i (HC) hi;exact O.tr _ _ _ a1 (O.tr _ _ _ c a2)
    refine mJ O hc (hp.rev 0 n) (Uv hN h2 hne) (jT.succ O (λi j hij hj=>?_) (OS h1) ?_) h6 hq
    ·rw[iz (N1 hsz hN h2),iz (N1 hsz hN h2),if_pos (⟨HC,O5 hij hj⟩),if_pos (⟨HC,hj⟩)]
     exact hall _ _ (KP h1) (KP h1)
    ·rw[iz (N1 hsz hN h2),iz (N1 hsz hN h2),if_pos (⟨Nat.zero_le _,O7 h1⟩),if_neg (Uw)]
     exact O.tr _ _ _ hle (hall _ _ (Ux h1) (O7 h1))
  ·rw[if_neg e2]
   have:n=1:=Uy h1 e2;subst this;exact mJ O hc hp (Pz hN hne) ((jT.one O).succ O (by decide) hle) h5 hq
theorem oF(O:ju lt)(hc:mH cmp lt N I){p:Array Nat}(hp:VP N p){k:Nat}(hk:k<N)(ha:gw lt p k){Q:Nat→Shared→Prop}:∀(f l r:Nat) (s:Shared),l≤r→r≤k→r-l≤f→I s→
  (∀i,i<l→lt (dh p k) (dh p i)=false)→(∀i,r≤i→i<k→lt (dh p i) (dh p k)=false)→
  (∀l' s',l'≤k→(∀i,i<l'→lt (dh p k) (dh p i)=false)→(∀i,l'≤i→i<k→lt (dh p i) (dh p k)=false)→I s'→Q l' s')→(kas_place p k f l r).kasWp cmp Q s
 |0,l,r,s,h1,h2,h3,hI,hl,hr,hq=>hq l s (JH h1 h2) hl (λi a1 a2=>hr i (Uz h3 a1) a2) hI
 |f+1,l,r,s,h1,h2,h3,hI,hl,hr,hq=>by
  unfold kas_place
  by_cases e:l≥r
  ·rw[if_pos e]
   exact hq l s (JH h1 h2) hl (λi a1 a2=>hr i (JH e a1) a2) hI
  ·rw[if_neg e]
   show cmp (dh p k) (dh p ((l+r)/2)) _ s;refine hc _ _ (hp.lt hk) (hp.lt (UA h1 h2 hk)) _ s hI λs' hI'=>?_
   cases c:lt (dh p k) (dh p ((l+r)/2))with
   |true=>
    simp only[if_true];refine oF O hc hp hk ha f l ((l+r)/2) s' (UB h1) (UC h1 h2) (UD h3) hI' hl (λi a1 a2=>?_) hq;exact O.tr _ _ _ (O.as _ _ c) (ha ((l+r)/2) i a1 a2)
   |false=>
    simp only[Bool.false_eq_true,if_false];refine oF O hc hp hk ha f ((l+r)/2+1) r s' (UE e) (h2) (UG h3) hI' (λi a1=>?_) hr hq;exact O.tr _ _ _ (ha i ((l+r)/2) (Nat.le_of_lt_succ a1) (UH h2 e)) c
theorem CK(O:ju lt)(hc:mH cmp lt N I){Q:Array Nat→Shared→Prop}:∀(f:Nat) (p:Array Nat) (k:Nat) (s:Shared),VP N p→k+f=N→gw lt p k→I s→(∀p' s',VP N p'→gw lt p' N→I s'→Q p' s')→(kas_bin f p k).kasWp cmp Q s
 |0,p,k,s,hp,hk,ha,hI,hq=>hq p s hp (by (have:k=N:=NJ hk);subst this;exact ha) hI
 |f+1,p,k,s,hp,hk,ha,hI,hq=>by
  unfold kas_bin;rw[KasT.kasWp_bind];have hsz:=hp.size;refine oF O hc hp (HF hk) ha k 0 k s (Nat.zero_le _) (Nat.le_refl _) (Nat.sub_le _ _) hI (λi h=>(NO h).elim) (λi h1 h2=>(PA h1 h2).elim) λl s' hl h1 h2 hI'=>?_
  refine CK O hc f _ (k+1) s' ((bubble_perm ..).trans hp) (NR hk) (λi j hij hj=>?_) hI' hq;have e:k-(k-l)=l:=UI hl;rw[rM (KQ hk hsz) (Nat.sub_le _ _),rM (KQ hk hsz) (Nat.sub_le _ _),e]
  by_cases a1:i=l
  ·rw[if_pos a1]
   by_cases b1:j=l
   ·rw[if_pos b1];exact O.Ek _
   ·rw[if_neg b1,if_pos (⟨UJ a1 hij b1,OZ hj⟩)]
    exact h2 (j-1) (UK a1 hij b1) (UL hl hj b1)
  ·rw[if_neg a1]
   by_cases a2:l<i∧i≤k
   ·rw[if_pos a2,if_neg (UM hij a2.1),if_pos (⟨NP hij a2.1,OZ hj⟩)]
    exact ha _ _ (Nat.sub_le_sub_right hij _) (KR hij hl hj a1)
   ·rw[if_neg a2]
    have hil:i<l:=Qg hij hj a2 a1
    by_cases b1:j=l
    ·rw[if_pos b1]
     exact h1 i hil
    ·rw[if_neg b1]
     by_cases b2:l<j∧j≤k
     ·rw[if_pos b2]
      exact ha _ _ (Qh hij hj b2.1 a2) (KR hij hl hj a1)
     ·rw[if_neg b2]
      exact ha _ _ hij (Qi hl hj b2 b1)
theorem EH(O:ju lt)(hc:mH cmp lt N I)(hN:1≤N){Q:Array Nat→Shared→Prop}{s:Shared}(hI:I s)(hq:∀p s',VP N p→gw lt p N→I s'→Q p s'):(kas_sort N).kasWp cmp Q s:=by
 unfold kas_sort;rw[KasT.kasWp_bind];refine CJ O hc (Array.Perm.refl _) hN hI λm p' s' h1 h2 h3 h4 h5=>?_
 show KasT.kasWp cmp (if m<N then kas_bin (N-max m 1) p' (max m 1)else .ret p') Q s';have e:max m 1=m:=Nat.max_eq_left h2;rw[e]
 by_cases q:m<N
 ·rw[if_pos q]
  exact CK O hc (N-m) p' m s' h1 (Nat.add_sub_of_le h3) h4 h5 hq
 ·rw[if_neg q]
  have:m=N:=Nat.le_antisymm h3 (Nat.le_of_not_lt q);subst this;exact hq p' s' h1 h4 h5
end
end
section
set_option maxHeartbeats 4000000
open PySem PySem.W PyProof.Rows PySem.Calls
theorem EI(g:Nat→Int×Int×Int):ju λi j=>dz (g i) (g j) where
 Ek:=λa=>by unfold dz;simp
 tr:=λa b c h1 h2=>by
  unfold dz at*;simp only[Bool.or_eq_false_iff,Bool.and_eq_false_iff,decide_eq_false_iff_not]at*;exact⟨VU h2.1 h1.1,P8 h2.1 h1.1 h2.2 h1.2⟩
 as:=λa b h=>by
  unfold dz at*;simp only[Bool.or_eq_true,Bool.and_eq_true,decide_eq_true_eq,Bool.or_eq_false_iff,Bool.and_eq_false_iff,decide_eq_false_iff_not]at*;exact⟨VV h,VW h⟩
theorem u5{Ω:aa}{a:Addr}{o o':bI}:(Ω.set a o).set a o'=Ω.set a o':=by
 funext b;unfold aa.set;by_cases q:b=a
 ·rw[if_pos q,if_pos q]
 ·rw[if_neg q,if_neg q,if_neg q]
noncomputable abbrev Z:=Addr×Int×Int×Int
noncomputable def z0:Z:=(0,0,0,0)
noncomputable def vz(zs:List Z):List Value:=zs.map λz=> .ref z.1
theorem oG(zs:List Z):(vz zs).length=zs.length:=List.length_map ..
theorem CL(zs:List Z){i:Nat}(h:i<zs.length):(vz zs).getD i Value.none= .ref (zs.getD i z0).1:=by
 unfold vz;rw[List.getD_eq_getElem?_getD,List.getD_eq_getElem?_getD,List.getElem?_map,List.getElem?_eq_getElem h];rfl
theorem jU:∀{vs:List Value} {zs:List Z},aP vs (refsOf zs)→vs=vz zs
 |[],[],aj=>rfl
 |v::vs,z::zs,h=>by
  obtain⟨h1,h2⟩:=h;cases h1;show _=Value.ref z.1::vz zs;rw[jU h2]
 |[],aj::br,h=>h.elim
 |aj::br,[],h=>h.elim
theorem sM:∀zs:List Z,aP (vz zs) (refsOf zs)
 |[]=>trivial
 |z::zs=>⟨rfl,sM zs⟩
theorem u6{zs:List Z}{p:Array Nat}(hp:VP zs.length p)(ha:gw (λi j=>dz (zs.getD i z0).2 (zs.getD j z0).2) p zs.length):
  ∃zs':List Z,zs'.Perm zs∧dQ zs'∧(p.toList.map λi=>(vz zs).getD i Value.none)=vz zs':=by
 have hs:=hp.size;refine⟨p.toList.map λi=>zs.getD i z0,?_,?_,?_⟩
 ·have h1:p.toList.Perm (List.range zs.length):=by simpa using hp.toList
  refine(h1.map _).trans (List.Perm.of_eq ?_)
  apply List.ext_getElem?
  intro k;rw[List.getElem?_map]
  by_cases q:k<zs.length
  ·rw[List.getElem?_range q,List.getElem?_eq_getElem q]
   simp[q]
  ·rw[List.getElem?_eq_none (by simpa using q),List.getElem?_eq_none (by simpa using q)];rfl
 ·unfold dQ
  rw[List.pairwise_map,List.pairwise_iff_getElem];intro i j hi hj hij;have:=ha i j (OW hij) (by rw[Array.length_toList]at hj;exact JG hs hj);have ea:∀(k:Nat) (hk:k<p.toList.length),dh p k=p.toList[k]:=λk hk=>by
   rw[gu,Array.getElem?_eq_getElem (by rw[Array.length_toList]at hk;exact hk)];simp
  rw[ea i hi,ea j hj]at this;exact this
 ·unfold vz at*
  rw[List.map_map];refine List.map_congr_left λi hi=>?_
  have hm:i∈p:=by simpa using hi
  rw[hp.mem_iff]at hm;have hlt:i<zs.length:=by simpa using hm
  exact CL zs hlt
section
variable{prog:Program}{w:World}{B:Addr→Option Obj}{A:Around}{E:Value→Shared→Prop}{K:Addr→Option Obj}{os:Oz}{Ω:aa}{s:Shared}
theorem Ir{α:Type}{R:α→α→Prop}{l:List α}(h:l.length<2):l.Pairwise R:=by
 cases l with
 |nil=>exact .nil
 |cons a l=>
  cases l with
  |nil=>exact List.pairwise_singleton _ _
  |cons b l=>exact absurd (Nat.lt_of_succ_lt_succ (Nat.lt_of_succ_lt_succ h)) (Nat.not_lt_zero _)
theorem rN(R:aA prog w K os Ω s){p:Addr}{zs:List Z}(hp:Ω p=some (.list (refsOf zs)))(h64:zs.length<64){κ:SortKind}
  (hkind:∀s',aA prog w K os (Ω.set p (.list [])) s'→2≤zs.length→∀(Q:SortKind→Shared→Prop),Q κ s'→wpAny (model prog w) A (keyKind' (vz zs).toArray) Q (λaj aj=>False) s')
  (hcmp:∀s',aA prog w K os (Ω.set p (.list [])) s'→∀x∈zs,∀y∈zs,∀(Q:Bool→Shared→Prop),Q (dz x.2 y.2) s'→wpAny (model prog w) A (keyLt' κ (.ref x.1) (.ref y.1)) Q (λaj aj=>False) s')
  {P:PySem.Fin→Shared→Prop} (h:∀zs' s',zs'.Perm zs→dQ zs'→aA prog w K os (Ω.set p (.list (refsOf zs'))) s'→P (.done (.ret .none)) s'):wpAny (model prog w) A (Builtin.«list.sort» ⟨[.ref p],[]⟩) P E s:=by
 obtain⟨items,n,g1,g2,g3⟩:=R.list hp;have hit:items.toList=vz zs:=jU g2;obtain rfl:items=(vz zs).toArray:=by rw[←hit,Array.toArray_toList]
 have ho:s.heap.get? p=some (seqObj "list" (vz zs).toArray n):=g1;have s1:=Heap.SameBut.update s.heap p (Obj.mapSeq λaj=>(#[]:Array Value));obtain⟨e1,W0⟩:∃e1,(s.heap.update p (Obj.mapSeq λaj=>(#[]:Array Value))).get? p=some (seqObj "list" #[] e1):=⟨_,get?_update_seq ho λaj=>#[]⟩
 have R1:aA prog w K os (Ω.set p (.list [])) {s with heap:=s.heap.update p (Obj.mapSeq λaj=>(#[]:Array Value))}:=R.upd (t:=s.toks) hp s1 W0 (OO.uL (xs:=[]) (show aP [] []from trivial));have R2:aA prog w K os (Ω.set p (.list [])) {s with heap:=(s.heap.update p (Obj.mapSeq λaj=>(#[]:Array Value))).push (seqObj "tuple" (vz zs).toArray 0)}:=R1.push (t:=s.toks) _;have R3:aA prog w K os (Ω.set p (.list [])) {s with heap:=((s.heap.update p (Obj.mapSeq λaj=>(#[]:Array Value))).push (seqObj "tuple" (vz zs).toArray 0)).push (seqObj "list" #[] 0)}:=R2.push (t:=s.toks) _;have Jq:(((s.heap.update p (Obj.mapSeq λaj=>(#[]:Array Value))).push (seqObj "tuple" (vz zs).toArray 0)).push (seqObj "list" #[] 0)).get? p=some (seqObj "list" #[] e1):=Heap.get?_push_of_some _ (Heap.get?_push_of_some _ W0);have hlen:(vz zs).length=zs.length:=oG zs;rw[list_sort_plain];refine wpAny_bind (listItems_at ho rfl ?_);refine wpAny_bind (listUpdate_at ho rfl ?_ (by rw[List.size_toArray,sizeLine_eq];exact NW hlen h64) (Nat.zero_le _));refine wpAny_bind (seqEpoch_at W0 rfl ?_);refine wpAny_bind (wpAny_newTuple ?_ (by show (vz zs).length≤_;rw[sizeLine_eq];exact NW hlen h64));refine wpAny_bind (wpAny_newList ?_ (Nat.zero_le _));refine wpAny_holding ?_;show wpAny (model prog w) A _ P E {s with heap:=((s.heap.update p (Obj.mapSeq λaj=>(#[]:Array Value))).push (seqObj "tuple" (vz zs).toArray 0)).push (seqObj "list" #[] 0)};dsimp only;generalize (((s.heap.update p (Obj.mapSeq λaj=>(#[]:Array Value))).push (seqObj "tuple" (vz zs).toArray 0)).push (seqObj "list" #[] 0))=h3 at R3 Jq;have fin:∀zs':List Z,zs'.Perm zs→dQ zs'→∀t,P (.done (.ret .none)) {s with heap:=h3.update p (Obj.mapSeq λaj=>(vz zs').toArray),toks:=t}:=λzs' q1 q2 t=>by
  refine h zs' _ q1 q2 ?_;have s2:=Heap.SameBut.update h3 p (Obj.mapSeq λaj=>(vz zs').toArray);have R4:=R3.upd (t:=t) (o':= .list (refsOf zs')) aa.set_same s2 (get?_update_seq Jq λaj=>(vz zs').toArray) (OO.uL (sM zs'));rw[u5]at R4;exact R4
 by_cases h2:(vz zs).toArray.size<2
 ·rw[if_pos h2,if_pos h2]
  refine wpAny_bind (wpAny_pure ?_);rw[StateT.run_pure];refine wpAny_bind (wpAny_pure ?_);dsimp only;refine wpAny_bind (seqEpoch_at Jq rfl ?_);have hz:((SortSt.mk' general' ((vz zs).toArray.zip (vz zs).toArray) #[] 7 none|>arrOf).map (·.2))=(vz zs).toArray:=by
   show ((vz zs).toArray.zip (vz zs).toArray).map (·.2)=_
   apply Array.ext
   ·simp
   ·intro i h1 h2;simp
  rw[hz];refine wpAny_bind (listUpdate_at Jq rfl ?_ (Nat.zero_le _) (by rw[List.size_toArray,sizeLine_eq];exact SW hlen h64));simp only[bne_self_eq_false,Bool.false_eq_true,if_false];refine wpAny_pure (fin zs (List.Perm.refl _) ?_ _);rw[List.size_toArray,hlen]at h2;unfold dQ;exact Ir h2
 ·rw[if_neg h2,if_neg h2]
  rw[List.size_toArray,hlen]at h2;refine wpAny_bind (wpAny_mono (hkind _ R3 (Nat.le_of_not_lt h2) (λκ' s'=>κ'=κ∧s'={s with heap:=h3}) ⟨rfl,rfl⟩) (λκ' s' hk=>?_) λaj aj x=>x.elim);obtain⟨rfl,rfl⟩:=hk;have tree:(kas_sort (vz zs).length).kasWp (kas_ask prog w A κ' (vz zs)) (λp' s'=>s'={s with heap:=h3}∧VP zs.length p'∧gw (λi j=>dz (zs.getD i z0).2 (zs.getD j z0).2) p' zs.length) {s with heap:=h3}:=by
   rw[hlen];refine EH (lt:=λi j=>dz (zs.getD i z0).2 (zs.getD j z0).2) (I:=λs'=>s'={s with heap:=h3}) (EI λi=>(zs.getD i z0).2) (λi j hi hj C s' hs hC=>?_) (SX h2) rfl λp' s' a1 a2 a3=>⟨a3,a1,a2⟩
   subst hs;show wpAny (model prog w) A (keyLt' κ' ((vz zs).getD i Value.none) ((vz zs).getD j Value.none)) C (λaj aj=>False) _;rw[CL zs hi,CL zs hj];have m:∀{i},i<zs.length→zs.getD i z0∈zs:=λ{i} hi=>by
    rw[List.getD_eq_getElem?_getD,List.getElem?_eq_getElem hi];exact List.getElem_mem hi
   exact hcmp _ R3 _ (m hi) _ (m hj) C (hC _ rfl)
  refine wpAny_bind (wpAny_mono (kat_run (Q:=λst' s'=>∃p':Array Nat,arrOf st'=p'.map (kas_item ((vz zs).toArray.zip (vz zs).toArray))∧failedOf st'=none∧s'={s with heap:=h3}∧VP zs.length p'∧gw (λi j=>dz (zs.getD i z0).2 (zs.getD j z0).2) p' zs.length)
   rfl (by rw[hlen];exact Nat.le_of_not_lt h2) (by rw[hlen];exact h64) (λp' st' s' a1 a2 a3 a4=>⟨p',a2,a3,a4⟩) tree) ?_ λaj aj x=>x)
  intro aH s' bB;obtain⟨⟨⟩,st'⟩:=aH;obtain⟨p',har,hf,rfl,hvp,hasc⟩:=bB;dsimp only;obtain⟨zs',z1,z2,z3⟩:=u6 hvp hasc;have hout:=kat_snds rfl har;rw[z3]at hout;rw[hout];have hl':zs'.length=zs.length:=z1.length_eq;refine wpAny_bind (seqEpoch_at Jq rfl ?_);refine wpAny_bind (listUpdate_at Jq rfl ?_ (Nat.zero_le _) (by rw[List.size_toArray,oG,hl',sizeLine_eq];exact Nat.le_of_lt_succ (Nat.lt_of_lt_of_le h64 (by decide))));rw[hf];simp only[bne_self_eq_false,Bool.false_eq_true,if_false];exact wpAny_pure (fin zs' z1 z2 _)
theorem three{vs:List Value}{a b c:Int}(h:aP vs [.int a, .int b, .int c]):∃t u v,vs=[.int a t, .int b u, .int c v]:=
 aP.dS h λaj aj h h'=>VR.bC h λt=>aP.dS h' λaj aj h h'=>VR.bC h λu=>aP.iE h' λv=>⟨t,u,v,rfl⟩
theorem CM{x y:Int×Int×Int}(h:x.1≠y.1):dz x y=decide (x.1<y.1):=by
 unfold dz;simp[h]
theorem CN{x y:Int×Int×Int}(h:x.1=y.1)(h':x.2.1≠y.2.1):dz x y=decide (x.2.1<y.2.1):=by
 unfold dz;simp[h,h']
theorem CO{x y:Int×Int×Int}(h:x.1=y.1)(h':x.2.1=y.2.1)(h'':x.2.2≠y.2.2):dz x y=decide (x.2.2<y.2.2):=by
 unfold dz;simp[h,h']
theorem CP{x y:Int×Int×Int}(h:x.1=y.1)(h':x.2.1=y.2.1)(h'':x.2.2=y.2.2):dz x y=false:=by
 unfold dz;simp[h,h',h'']
theorem EJ(R:aA prog w K os Ω s){x y:Z}(hx:Ω x.1=some (.tup [.int x.2.1, .int x.2.2.1, .int x.2.2.2]))(hy:Ω y.1=some (.tup [.int y.2.1, .int y.2.2.1, .int y.2.2.2])){Q:Bool→Shared→Prop}(h:Q (dz x.2 y.2) s):
  wpAny (model prog w) A (keyLt' (tuples' true) (.ref x.1) (.ref y.1)) Q E s:=by
 obtain⟨i1,n1,g1,g2,g3⟩:=R.tup hx;obtain⟨i2,n2,k1,k2,k3⟩:=R.tup hy;obtain⟨t1,t2,t3,e1⟩:=three g2;obtain⟨u1,u2,u3,e2⟩:=three k2;refine kat_lt g1 rfl k1 rfl ?_;have es:decide (i1.size<i2.size)=false:=by rw[g3,k3];rfl
 rw[e1,e2,es];show KatLex prog w A true false Q [(_,_),(_,_),(_,_)] 0 s;refine kat_cons (wpAny_eqBool_int (kat_go (λc1=>kat_yes ?_) λc1=>kat_no ?_))
 ·have c1:=eq_of_beq c1
  refine kat_cons (wpAny_eqBool_int (kat_go (λc2=>kat_yes ?_) λc2=>kat_no ?_))
  ·have c2:=eq_of_beq c2
   refine kat_cons (wpAny_eqBool_int (kat_go (λc3=>kat_yes ?_) λc3=>kat_no ?_))
   ·have c3:=eq_of_beq c3
    refine kat_nil ?_;rw[CP c1 c2 c3]at h;exact h
   ·have c3:x.2.2.2≠y.2.2.2:=by simpa using c3
    rw[CO c1 c2 c3]at h;exact kat_one _ _ (lt_int h)
  ·have c2:x.2.2.1≠y.2.2.1:=by simpa using c2
   rw[CN c1 c2]at h;exact kat_one _ _ (lt_int h)
 ·have c1:x.2.1≠y.2.1:=by simpa using c1
  rw[CM c1]at h;exact oneLt_int h
theorem u7(R:aA prog w K os Ω s):∀zs:List Z,(∀z∈zs,Ω z.1=some (.tup [.int z.2.1, .int z.2.2.1, .int z.2.2.2]))→∃fs,KatTups s.heap (vz zs) fs∧fs.length=zs.length∧∀v∈fs,∃n t,v= .int n t
 |[],aj=>⟨[],trivial,rfl,λv hv=>by cases hv⟩
 |z::zs,h=>by
  obtain⟨fs,h1,h2,h3⟩:=u7 R zs λz' hz=>h z' (List.mem_cons_of_mem _ hz)
  obtain⟨i1,n1,g1,g2,g3⟩:=R.tup (h z (List.mem_cons_self ..));obtain⟨t1,t2,t3,e1⟩:=three g2;refine⟨.int z.2.1 t1::fs,KatTups.cons g1 rfl rfl ?_ h1,by simp[h2],λv hv=>?_⟩
  ·rw[←Array.getElem?_toList,e1];rfl
  ·rcases List.mem_cons.mp hv with rfl|hv
   ·exact⟨_,_,rfl⟩
   ·exact h3 v hv
theorem qA(bf:BF prog w B)(hB:∀a o,B a=some o→K a=some o∧¬os.F a)(R:aA prog w K os Ω s){p:Addr}{Q:af→aa→Prop}{zs:List (Addr×Int×Int×Int)}(hp:Ω p=some (.list (refsOf zs)))(ht:bk .tup Ω zs)(h64:zs.length<64)(hq:∀zs',zs'.Perm zs→dQ zs'→∀r,Ω r=none→Q (.ref r) (Ω.set r (.list (refsOf zs')))):
  wpAny (model prog w) A (call (.builtin "sorted") [.ref p]) (PH prog w K os Q) bS s:=by
 obtain⟨items,n,g1,g2,g3⟩:=R.list hp;have hit:items.toList=vz zs:=jU g2;obtain rfl:items=(vz zs).toArray:=by rw[←hit,Array.toArray_toList]
 have hl:s.heap.IsList p (vz zs).toArray:=cB g1;have hlen:(vz zs).length=zs.length:=oG zs;refine Calls.call_function_entry kind_sorted plain_sorted entry_sorted (args_sorted1 _) ?_;unfold Builtin.«sorted»;refine wpAny_bind (m:=checkCount "sorted" 1 1 _) (wpAny_pure ?_);refine wpAny_bind (collect_list hl ?_ (by rw[sizeLine_eq];exact NW hlen h64));refine wpAny_bind (wpAny_newList ?_ (by rw[sizeLine_eq];exact NW hlen h64));have hsz:((s.heap.push (seqObj "list" #[] 0)).update s.heap.objs.size (Obj.mapSeq (·++(vz zs).toArray))).objs.size=s.heap.objs.size+1:=by
  rw[Heap.size_update,size_push']
 have keep:∀b o,s.heap.get? b=some o→((s.heap.push (seqObj "list" #[] 0)).update s.heap.objs.size (Obj.mapSeq (·++(vz zs).toArray))).get? b=some o:=λb o q=>by
  have hlt:b<s.heap.objs.size:=Heap.lt_size q;rw[Heap.get?_update_ne _ _ _ _ (Nat.ne_of_lt hlt),Heap.get?_push_ne _ _ _ (Nat.ne_of_lt hlt)];exact q
 have R1:aA prog w K os Ω {s with heap:=(s.heap.push (seqObj "list" #[] 0)).update s.heap.objs.size (Obj.mapSeq (·++(vz zs).toArray))}:=R.ext (t:=s.toks) keep;have R2:=R1.make (t:=s.toks) (ob:=seqObj "list" (vz zs).toArray 0) (o:= .list (refsOf zs)) rfl (OO.uL (sM zs));have hfr:=R1.bE;show wpAny _ _ _ _ _ {s with heap:=((s.heap.push (seqObj "list" #[] 0)).update s.heap.objs.size (Obj.mapSeq (·++(vz zs).toArray))).push (seqObj "list" (vz zs).toArray 0)};have W2:(((s.heap.push (seqObj "list" #[] 0)).update s.heap.objs.size (Obj.mapSeq (·++(vz zs).toArray))).push (seqObj "list" (vz zs).toArray 0)).get? ((s.heap.push (seqObj "list" #[] 0)).update s.heap.objs.size (Obj.mapSeq (·++(vz zs).toArray))).objs.size=some (seqObj "list" (vz zs).toArray 0):=Heap.get?_push_size _ rfl;dsimp only at R2 hfr;generalize hD:((s.heap.push (seqObj "list" #[] 0)).update s.heap.objs.size (Obj.mapSeq (·++(vz zs).toArray))).objs.size=D at R2 hfr W2;generalize (((s.heap.push (seqObj "list" #[] 0)).update s.heap.objs.size (Obj.mapSeq (·++(vz zs).toArray))).push (seqObj "list" (vz zs).toArray 0))=h2 at R2 W2;have Iu:∀z∈zs,((Ω.set D (.list (refsOf zs))).set D (.list [])) z.1=some (.tup [.int z.2.1, .int z.2.2.1, .int z.2.2.2]):=λz hz=>by
  have h1:=ht z hz;have:z.1≠D:=λq=>by rw[q,hfr]at h1;cases h1
  rw[aa.ai this,aa.ai this];exact h1
 refine wpAny_bind (wpAny_holding (wpAny_call_entry slot_list_sort ⟨_,W2,rfl⟩ entry_list_sort (rN R2 aa.set_same h64 (κ:=tuples' true) (λs' R' h2 Q' hq'=>?_) (λs' R' x hx y hy Q' hq'=>?_) λzs' s' z1 z2 R'=>?_) (args_list_sort _)))
 ·obtain⟨fs,f1,f2,f3⟩:=u7 R' zs Iu
  refine kat_kind f1 (UR f2 h2) (T:= .type "int") (λv hv=>?_) (by rfl) ?_
  ·obtain⟨n,t,rfl⟩:=f3 v hv
   exact Looks.of_pure rfl
  ·exact hq'
 ·exact EJ R' (Iu x hx) (Iu y hy) hq'
 ·refine⟨_,rfl,wpAny_pure ⟨_,rfl, .ref D,_,rfl,?_,hq zs' z1 z2 D hfr⟩⟩
  rw[u5]at R';exact R'
theorem xB(bf:BF prog w B)(hB:∀a o,B a=some o→K a=some o∧¬os.F a)(R:aA prog w K os Ω s){p:Addr}{ys:List af}(e:Ω p=some (.cZ ys)){Q:Bool→Shared→Prop}(h:Q true s):wpAny (model prog w) A (isInstance (.ref p) (.type "tuple")) Q E s:=by
 have X:=R.eU bf hB;obtain⟨items,m,dd,g1,g2,g3⟩:=R.cZ e;have t1:Looks (model prog w) s.heap (typeOf (.ref p)) (.ref 135):=(Looks.ld g1).andThen .now;have s1:Looks (model prog w) s.heap (isSubtype (.ref 135) (.type "tuple")) true:=looks_mroIn X (by kernel_rfl!);unfold isInstance;exact wpAny_bind (t1.here (s1.here h))
theorem u9(bf:BF prog w B)(hB:∀a o,B a=some o→K a=some o∧¬os.F a)(R:aA prog w K os Ω s){x y:Z}(hx:Ω x.1=some (.cZ [.int x.2.1, .int x.2.2.1, .int x.2.2.2]))(hy:Ω y.1=some (.cZ [.int y.2.1, .int y.2.2.1, .int y.2.2.2])){P:PySem.Fin→Shared→Prop}(h:P (.done (.ret (.bool (dz x.2 y.2)))) s):
  wpAny (model prog w) A (Builtin.«tuple.__lt__» ⟨[.ref x.1, .ref y.1],[]⟩) P E s:=by
 obtain⟨i1,n1,d1,g1,g2,g3⟩:=R.cZ hx;obtain⟨i2,n2,d2,k1,k2,k3⟩:=R.cZ hy;obtain⟨t1,t2,t3,e1⟩:=three g2;obtain⟨u1,u2,u3,e2⟩:=three k2;show wpAny _ _ (isInstance (.ref y.1) (.type "tuple")>>=_) _ _ s;refine wpAny_bind (xB bf hB R hy ?_);simp only[Bool.not_true,Bool.false_eq_true,if_false];refine wpAny_bind (wpAny_tupleItemsOf g1 rfl ?_);refine wpAny_bind (wpAny_tupleItemsOf k1 rfl ?_);rw[e1,e2];simp only[List.zip_cons_cons,List.zip_nil_right,List.forIn_cons,List.forIn_nil];have lt:∀{a b:Int} {t u:Tok} {Q:Value→Shared→Prop},Q (.bool (decide (a<b))) s→wpAny (model prog w) A (richCompare .Lt (.int a t) (.int b u)) Q E s:=λ{a b t u Q} hq=>by
  have:=lt_int (prog:=prog) (w:=w) (A:=A) (E:=E) (t:=t) (u:=u) (a:=a) (b:=b) hq;exact this
 refine wpAny_bind (wpAny_bind (wpAny_bind (wpAny_eqBool_int ?_)))
 by_cases c1:x.2.1=y.2.1
 ·rw[if_neg (by simp[c1])]
  refine wpAny_pure ?_;dsimp only;refine wpAny_bind (wpAny_bind (wpAny_eqBool_int ?_))
  by_cases c2:x.2.2.1=y.2.2.1
  ·rw[if_neg (by simp[c2])]
   refine wpAny_pure ?_;dsimp only;refine wpAny_bind (wpAny_bind (wpAny_eqBool_int ?_))
   by_cases c3:x.2.2.2=y.2.2.2
   ·rw[if_neg (by simp[c3])]
    refine wpAny_pure (wpAny_pure ?_);refine wpAny_pure ?_;rw[CP c1 c2 c3]at h;have es:Builtin.Tuple.tupleCompareSizes .Lt i1.size i2.size= .bool false:=by rw[g3,k3];rfl
    rw[es];exact h
   ·rw[if_pos (by simp[c3])]
    rw[CO c1 c2 c3]at h;exact wpAny_bind (wpAny_rule (wpAny_bind (lt (wpAny_bind (wpAny_pure (wpAny_pure (wpAny_pure (wpAny_pure h))))))))
  ·rw[if_pos (by simp[c2])]
   rw[CN c1 c2]at h;exact wpAny_bind (wpAny_rule (wpAny_bind (lt (wpAny_bind (wpAny_pure (wpAny_pure (wpAny_pure (wpAny_pure h))))))))
 ·rw[if_pos (by simp[c1])]
  rw[CM c1]at h;exact wpAny_bind (wpAny_rule (wpAny_bind (lt (wpAny_bind (wpAny_pure (wpAny_pure (wpAny_pure (wpAny_pure h))))))))
theorem EK(bf:BF prog w B)(hB:∀a o,B a=some o→K a=some o∧¬os.F a)(R:aA prog w K os Ω s)(hu:A.units<9000){x y:Z}(hx:Ω x.1=some (.cZ [.int x.2.1, .int x.2.2.1, .int x.2.2.2]))(hy:Ω y.1=some (.cZ [.int y.2.1, .int y.2.2.1, .int y.2.2.2])){Q:Bool→Shared→Prop}(h:Q (dz x.2 y.2) s):
  wpAny (model prog w) A (keyLt' oneType' (.ref x.1) (.ref y.1)) Q E s:=by
 have X:=R.eU bf hB;obtain⟨i1,n1,d1,g1,g2,g3⟩:=R.cZ hx;have t1:Looks (model prog w) s.heap (typeOf (.ref x.1)) (.ref 135):=(Looks.ld g1).andThen .now;have s1:Looks (model prog w) s.heap (isSubtype (.ref 135) (.type "tuple")) true:=looks_mroIn X (by kernel_rfl!);have l1:Looks (model prog w) s.heap (typeLookup (.ref 135) "__lt__") (some (.builtin "tuple.__lt__")):=looks_findIn X (by kernel_rfl!);have cl:wpAny (model prog w) A (call (.builtin "tuple.__lt__") ([.ref x.1]++[.ref y.1])) (λv s'=>v= .bool (dz x.2 y.2)∧s'=s) E s:=
  wpAny_call (codeAny_call_builtin F.slot_tuple_lt.plain F.entry_tuple_lt (check_slot (by decide+kernel) (show splitId "tuple.__lt__"=some ("tuple","__lt__") by decide+kernel) (t1.andThen s1) (F.args_tuple_lt_2 _ _) (u9 bf hB R hx hy ⟨rfl,rfl⟩)))
 rw[keyLt'_oneType,oneLt'_eq,if_pos rfl];refine wpAny_bind (wpAny_cRoomFor (by unfold cLine;exact Nat.lt_add_left _ hu) ?_);unfold callSpecialIfBound? bindSpecialIfBound?;refine wpAny_bind (wpAny_holding (wpAny_bind (wpAny_bind (wpAny_bind (t1.here (l1.here ?_))))));have hb:=F.slot_tuple_lt.bind (.ref x.1);refine wpAny_bind (wpAny_askSetting (wpAny_ite ?_))
 split
 ·refine wpAny_bind (wpAny_of_eq hb (wpAny_pure ?_))
  dsimp only;refine wpAny_bind (wpAny_mono cl (λv s' ⟨h1,h2⟩=>?_) λaj aj x=>x);subst h1;subst h2;exact wpAny_pure (wpAny_truthy_bool h)
 ·refine wpAny_tryCatch (wpAny_bind (wpAny_of_eq hb (wpAny_pure ?_)))
  dsimp only;refine wpAny_bind (wpAny_mono cl (λv s' ⟨h1,h2⟩=>?_) λaj aj x=>x);subst h1;subst h2;exact wpAny_pure (wpAny_truthy_bool h)
theorem sN(bf:BF prog w B)(hB:∀a o,B a=some o→K a=some o∧¬os.F a)(R:aA prog w K os Ω s)(hu:A.units<8000){p:Addr}{Q:af→aa→Prop}{zs:List (Addr×Int×Int×Int)}(hp:Ω p=some (.list (refsOf zs)))(ht:bk .cZ Ω zs)(h64:zs.length<64)(hq:∀zs',zs'.Perm zs→dQ zs'→Q .none (Ω.set p (.list (refsOf zs')))):
  wpAny (model prog w) A (call (.builtin "list.sort") [.ref p]) (PH prog w K os Q) bS s:=by
 obtain⟨items,n,g1,g2,g3⟩:=R.list hp;have Iu:∀z∈zs,(Ω.set p (.list [])) z.1=some (.cZ [.int z.2.1, .int z.2.2.1, .int z.2.2.2]):=λz hz=>by
  have h1:=ht z hz;have:z.1≠p:=λq=>by rw[q,hp]at h1;cases h1
  rw[aa.ai this];exact h1
 refine wpAny_call_entry slot_list_sort ⟨_,g1,rfl⟩ entry_list_sort (rN R hp h64 (κ:=oneType') (λs' R' h2 Q' hq'=>?_) (λs' R' x hx y hy Q' hq'=>?_) λzs' s' z1 z2 R'=>?_) (args_list_sort _)
 ·refine kas_kind (T:= .ref 135) (by rw[oG];exact h2) (λv hv=>?_) (by rfl) (by rfl) hq'
  obtain⟨z,hz,rfl⟩:=List.mem_map.mp hv;obtain⟨i1,n1,d1,k1,k2,k3⟩:=R'.cZ (Iu z hz);exact(Looks.ld k1).andThen .now
 ·exact EK bf hB R' (by first|exact hu|(simp only[Around.in1];exact Nat.lt_of_le_of_lt hu (by decide))|omega) (Iu x hx) (Iu y hy) hq'
 ·exact⟨_,rfl, .none,_,rfl,R',hq zs' z1 z2⟩
end
end
section
open PySem PySem.W PyProof.Rows PySem.Calls
variable{prog:Program}{w:World}{A:Around}{E:Value→Shared→Prop}{s:Shared}
noncomputable def sP(n:Int):Obj:={cls:= .type "range_iterator",data:= .fields #[rawInt (n-1),rawInt n,rawInt (-1)]}
theorem nv:isSubtype (.type "range_iterator") (.type "reversed")=pure false:=by rw[isSubtype_type];kernel_rfl
theorem jc{r:Addr}{n:Int}{t u v:Tok}{Q:Value→Shared→Prop}(h0:0≤n)(h1:n<2^40)(hr:IsRange s.heap r 0 n 1 t u v)
  (h:Q (.ref s.heap.objs.size) {s with heap:=s.heap.push (sP n)}):wpAny (model prog w) A (call (.builtin "range.__reversed__") [.ref r]) Q E s:=by
 have hT:s.TypeIs (.ref r) "range":=⟨_,hr,rfl⟩;refine wpAny_call_entry F.slot_range_reversed hT F.entry_range_reversed ?_ (F.args_range_reversed_1 _);unfold Builtin.«range.__reversed__»;refine wpAny_bind (wpAny_of_eq (a:=Value.ref r) rfl ?_);unfold Builtin.Range.rangeFields
 repeat (any_goals (first|assumption|wp_step))
 have hs:Builtin.Range.rangeSize 0 n 1=n:=by rw[rangeSize_one];split<;>omega
 have hf:(Builtin.Range.rangeFitsLong 0&&Builtin.Range.rangeFitsLong n&&Builtin.Range.rangeFitsLong 1&&Builtin.Range.rangeFitsLong (-1)&&Builtin.Range.rangeFitsLong (0-1)&&Builtin.Range.rangeFitsLong n)=true:=by
  simp only[Builtin.Range.rangeFitsLong,Bool.and_eq_true,decide_eq_true_eq]
  omega
 rw[hs,hf];have e:(0:Int)+(n-1)*1=n-1:=Wi;rw[e];exact wpAny_bind (wpAny_newObj_type (wpAny_pure ⟨_,rfl,h⟩))
theorem jd{r:Addr}{n:Int}{t u v:Tok}{Q₁:Value→Shared→Prop}(h0:0≤n)(h1:n<2^40)(hr:IsRange s.heap r 0 n 1 t u v)
  (h:Q₁ (.ref s.heap.objs.size) {s with heap:=s.heap.push (sP n)}):
  codeAny (model prog w) A (.call (.builtin "reversed.__new__") ⟨[.type "reversed", .ref r],[]⟩) (wants Q₁ E) s:=by
 have hT:s.TypeIs (.ref r) "range":=⟨_,hr,rfl⟩;refine codeAny_of_tree ?_;show wpAny _ A.in1 (do checkBuiltinCall "reversed.__new__" ⟨[.type "reversed", .ref r],[]⟩;again (.builtin "reversed.__new__" ⟨[.type "reversed", .ref r],[]⟩)) _ _ s;refine wpAny_bind (wpAny_of_eq (F.newCall_reversed_1 _) (wpAny_pure ⟨plainId_quiet F.plain_reversed_new _,codeAny_builtin F.entry_reversed_new ?_⟩));rw[Around.under_plainId F.plain_reversed_new _];unfold Builtin.«reversed.__new__»;refine wpAny_bind (wpAny_of_eq (newClass_reversed _) ?_)
 try dsimp only
 refine wpAny_bind (wpAny_of_eq (a:=()) (by first|rfl|kernel_rfl) ?_);refine wpAny_bind (wpAny_of_eq (a:=()) (by first|rfl|kernel_rfl) ?_)
 try dsimp only
 refine wpAny_bind (wpAny_specialOf hT F.slot_range_reversed.lookup ?_)
 try dsimp only
 refine wpAny_bind (wpAny_of_eq (F.slot_range_reversed.bind _) ?_)
 try dsimp only
 first
 |rw[if_neg (show ¬((Value.builtin "range.__reversed__"==Value.none)=true)from Bool.false_ne_true)]
 |(show wpAny _ _ (if (Value.builtin "range.__reversed__"==Value.none)=true then _ else _) _ _ _;rw[if_neg (show ¬((Value.builtin "range.__reversed__"==Value.none)=true)from Bool.false_ne_true)])
 refine wpAny_bind (wpAny_rule ?_);refine wpAny_bind (m:=runValue (.call (.builtin "range.__reversed__") ⟨[.ref r],[]⟩)) (show wpAny _ _ (call (.builtin "range.__reversed__") [.ref r]) _ _ _ from jc h0 h1 hr ?_)
 first
 |exact wpAny_pure h
 |exact wpAny_bind (wpAny_pure (wpAny_pure h))
theorem je{r:Addr}{n:Int}{t u v:Tok}{Q:Value→Shared→Prop}(h0:0≤n)(h1:n<2^40)(hr:IsRange s.heap r 0 n 1 t u v)
  (h:Q (.ref s.heap.objs.size) {s with heap:=s.heap.push (sP n)}):wpAny (model prog w) A (call (.type "reversed") [.ref r]) Q E s:=by
 refine callType_other (U:="range_iterator") (Q₁:=λobj s₁=>obj= .ref s.heap.objs.size∧s₁={s with heap:=s.heap.push (sP n)}) (by decide+kernel) F.create_reversed ⟨_,_,F.mro_reversed⟩ F.made_reversed nv (F.typeCall_reversed_1 _) (jd h0 h1 hr ⟨rfl,rfl⟩) ?_;intro obj s₁ aH;obtain⟨rfl,rfl⟩:=aH;exact⟨⟨_,Heap.get?_push_size _ rfl,rfl⟩,h⟩
theorem qB:entryFor table "range_iterator.__iter__"=some Builtin.«dict_keyiterator.__iter__»:=
 entryFor_alias (id':="dict_keyiterator.__iter__") (by kernel_rfl) (by first|rfl|decide+kernel|(unfold String.splitOn;simp+decide [String.splitOnAux])) (by decide+kernel) (by kernel_rfl)
theorem rO{it:Addr}{x n st:Int}{Q:Value→Shared→Prop}(hit:IsRangeIter s.heap it x n st)(h:Q (.ref it) s):wpAny (model prog w) A (pyIter (.ref it)) Q E s:=by
 have hT:s.TypeIs (.ref it) "range_iterator":=⟨_,hit,rfl⟩;refine wpAny_pyIter_slot hT F.slot_range_iterator_iter (wpAny_call_entry F.slot_range_iterator_iter hT (b:=Builtin.«dict_keyiterator.__iter__») qB ?_ (F.args_range_iterator_iter_1 _));show wpAny _ _ (ret (.ref it)) _ _ s;exact wpAny_pure ⟨_,rfl,"range_iterator",_,hT,F.slot_range_iterator_next.lookup,h⟩
end
section
open PySem PySem.W PyProof.Rows PySem.Calls
structure EV where
 kids:List Expr:=[]
 k:Nat:=0
 sc:Scope:=default
 str:Str:=default
 kind:Nat:=0
 c0:Bool:=false
noncomputable def CQ:Const→Str
 | .str s=>s
 |_=>default
noncomputable def mK:Expr→EV
 | .BoolOp aj vs br=>{kids:=vs}
 | .NamedExpr t v aj=>{kids:=[t,v]}
 | .BinOp l aj r br=>{kids:=[l,r]}
 | .UnaryOp aj x br=>{kids:=[x]}
 | .ListComp x gs s aj=>{kids:=x::gs.flatMap λg=>g.target::g.iter::g.ifs,sc:=s}
 | .Compare l aj rs br=>{kids:=l::rs}
 | .Call f xs ks aj=>{kids:=f::xs,c0:=xs.isEmpty&&ks.isEmpty}
 | .Attribute v aj br=>{kids:=[v]}
 | .Subscript v x aj=>{kids:=[v,x]}
 | .Starred v aj=>{kids:=[v],kind:=2}
 | .List es aj=>{kids:=es}
 | .Tuple es k aj=>{kids:=es,k:=k}
 | .Slice a b c aj=>{kids:=a.toList++b.toList++c.toList,kind:=3}
 | .Name aj br=>{kind:=1}
 | .Constant c k aj=>{k:=k,str:=CQ c}
 |_=>{}
noncomputable def kids(e:Expr):List Expr:=(mK e).kids
noncomputable def ql(e:Expr):Nat:=(mK e).k
noncomputable def kM(e:Expr):Scope:=(mK e).sc
noncomputable def strOf(e:Expr):Str:=(mK e).str
noncomputable def isStar(e:Expr):Bool:=Nat.beq (mK e).kind 2
noncomputable def isName(e:Expr):Bool:=Nat.beq (mK e).kind 1
noncomputable def isSlice(e:Expr):Bool:=Nat.beq (mK e).kind 3
theorem EL{g:Expr}(h:isName g=true):∃n p,g= .Name n p:=by
 cases g with
 |Name n p=>exact⟨n,p,rfl⟩
 |_=>exact Bool.noConfusion (show false=true from h)
noncomputable def cH(e:Expr):Bool:=(mK e).c0&&isName (kids e).head!
theorem fu{o:Expr}{name:Str}{env:Env}{t:Sem Value}(h:cH o=false):attributeBase o name env t=t:=by
 cases o with
 |Call f xs ks p=>cases f with
  |Name n q=>cases xs with
   |nil=>cases ks with
    |nil=>cases h
    |cons aj br=>rfl
   |cons aj br=>rfl
  |_=>rfl
 |_=>rfl
theorem iU{o:Expr}{name:Str}{apos pos:Pos}{args:List Expr}{env:Env}(ho:cH o=false)(hp:(backTo pos (starEach args env)).all (λx=> !x.1)=true)(hlen:args.length<30)(hline:(apos.endLine==pos.line)=true):
  eval (.Call (.Attribute o name apos) args [] pos) env=(do
   let ov←eval o env
   standAt apos.atName
   let (f,first)←holding [ov] (getMethod ov name (do return (←importBound o env).getD true))
   callWith pos f first (backTo pos (starEach args env)) []):=by
 rw[arm_eval_Call,fu ho];have hf:methodCallForm (args.length+([]:List Keyword).length) (backTo pos (starEach args env)) (backToKw pos (keywordEach [] env))=true:=by
  unfold methodCallForm;rw[hp];show (true&&true&&decide (args.length+0+0<30))=true;simp[hlen]
 unfold methodCall;rw[hf];unfold calleeOf methodCallPos;rw[hline]
 rfl
theorem jV{M:Model}{A:Around}{E:Value→Shared→Prop}{s:Shared}{o:Expr}{name:Str}{apos pos:Pos}{args:List Expr}{env:Env}{Q:Value→Shared→Prop}(ho:cH o=false)(hp:(backTo pos (starEach args env)).all (λx=> !x.1)=false)
  (h:wpAny M A (eval o env) (λov s₁=>wpAny M A (getAttr ov name true) (λf s₂=>wpAny M A (callWith pos f [] (backTo pos (starEach args env)) []) Q E s₂) E s₁) E s):
  wpAny M A (eval (.Call (.Attribute o name apos) args [] pos) env) Q E s:=by
 rw[arm_eval_Call,fu ho];have hf:methodCallForm (args.length+([]:List Keyword).length) (backTo pos (starEach args env)) (backToKw pos (keywordEach [] env))=false:=by
  unfold methodCallForm;rw[hp];rfl
 unfold methodCall;rw[hf];unfold calleeOf methodCallPos;exact wpAny_bind (wpAny_mono h (λov s₁ h₁=>wpAny_bind (wpAny_standAt (wpAny_bind (wpAny_holding (wpAny_bind (wpAny_mono h₁ (λf s₂ h₂=>wpAny_pure (wpAny_bind (wpAny_pure h₂))) λaj aj x=>x)))))) λaj aj x=>x)
noncomputable def BI.attr:BI→Str
 | .aO=>"get"| .dM=>"__contains__"| .dN=>"__next__"|_=>""
noncomputable def ek(scope sc:Scope):Scope:={scope with names:=scope.names.map λ(n,k)=>if (k== .free&&sc.kind== .function&&sc.names.lookup n==some .cell)then(n, .cell)else(n,k)}
noncomputable def oH(sc scope:Scope)(v:V):Bool:=
 decide (scope.kind= .function)&&(decide (scope.names.lookup v.name=some .local)&&
 (scope.names.all (λ(n,k)=>(k != .cell)&&(k != .local||((n==(".0":Str)||n==v.name)&&decide (scope.names.lookup n=some .local)))&&(k != .free||(V.all.any λu=>u.name==n&&u !=v)&&cE (sc.names.lookup n)&&sc.names.lookup n !=some .local))&&
 scope.names.all (λ(n,k)=>scope.names.lookup n==some k)))
noncomputable def kid(e:Expr)(n:Nat):Expr:=(kids e).getD n default
noncomputable def V.at(v:V)(e:Expr):Expr:= .Name v.name e.pos
noncomputable def G.at(g:G)(e:Expr):Expr:= .Name g.name e.pos
noncomputable def G.ok(g:G)(sc:Scope):Bool:=decide (sc.names.lookup g.name=some .globalImplicit)
noncomputable def sQ:List Int→List Expr→List Expr
 |[],aj=>[]
 |i::is,es=> .Constant (.int i) (ql (es.headD default)) (es.headD default).pos::sQ is es.tail
noncomputable def IK.fill(k:IK)(fa fb:Expr→Expr)(e:Expr):Expr:=match k with
 | .wY=> .Call (G.range.at (kid e 0)) [fa (kid e 1)] [] e.pos
 | .Am=> .Call (G.range.at (kid e 0)) [fa (kid e 1),fb (kid e 2)] [] e.pos
 | .nX=> .Call (G.range.at (kid e 0)) [fa (kid e 1),fb (kid e 2), .Constant (.int 2) (ql (kid e 3)) (kid e 3).pos] [] e.pos
 | .ex=>fa e
 | .rev=> .Call (G.reversed.at (kid e 0)) [.Call (G.range.at (kid (kid e 1) 0)) [fa (kid (kid e 1) 1)] [] (kid e 1).pos] [] e.pos
 | .vals=> .Call (.Attribute (fa (kid (kid e 0) 0)) "values" (kid e 0).pos) [] [] e.pos
noncomputable def IK.ok(k:IK)(fa:Expr→Expr)(oa ob:Expr→Bool)(sc:Scope)(e:Expr):Bool:=match k with
 | .wY=>G.range.ok sc&&oa (kid e 1)
 | .Am=>G.range.ok sc&&(oa (kid e 1)&&ob (kid e 2))
 | .nX=>G.range.ok sc&&(oa (kid e 1)&&ob (kid e 2))
 | .ex=>oa e
 | .rev=>G.reversed.ok sc&&(G.range.ok sc&&oa (kid (kid e 1) 1))
 | .vals=>(!cH (fa (kid (kid e 0) 0)))&&(((kid e 0).pos.endLine==e.pos.line)&&oa (kid (kid e 0) 0))
noncomputable def fL:ME→Bool
 | .not _| .gZ _ _| .ie _ _ _ _| .Ej aj br=>false
 |_=>true
noncomputable def fill:ME→Expr→Expr
 | .var v,e=>v.at e
 | .glob g,e=>g.at e
 | .int i,e=> .Constant (.int i) (ql e) e.pos
 | .none,e=> .Constant .none (ql e) e.pos
 | .bool b,e=> .Constant (.bool b) (ql e) e.pos
 | .neg i,e=> .UnaryOp .USub (.Constant (.int i) (ql (kid e 0)) (kid e 0).pos) e.pos
 | .bin op a b,e=> .BinOp (fill a (kid e 0)) op (fill b (kid e 1)) e.pos
 | .cmp op a b,e=> .Compare (fill a (kid e 0)) [op] [fill b (kid e 1)] e.pos
 | .not a,e=> .UnaryOp .Not (fill a (kid e 0)) e.pos
 | .gZ a b,e=> .BoolOp .And [fill a (kid e 0),fill b (kid e 1)] e.pos
 | .ie a b c d,e=> .BoolOp .And [fill a (kid e 0),fill b (kid e 1),fill c (kid e 2),fill d (kid e 3)] e.pos
 | .Ej a b,e=> .BoolOp .Or [fill a (kid e 0),fill b (kid e 1)] e.pos
 | .idx a i,e=> .Subscript (fill a (kid e 0)) (fill i (kid e 1)) e.pos
 | .upto a n,e=> .Subscript (fill a (kid e 0)) (.Slice none (some (fill n (kid (kid e 1) 0))) none (kid e 1).pos) e.pos
 | .jP f,e=> .Call (fill f (kid e 0)) [] [] e.pos
 | .bH f a,e=> .Call (fill f (kid e 0)) [fill a (kid e 1)] [] e.pos
 | .call2 f a b,e=> .Call (fill f (kid e 0)) [fill a (kid e 1),fill b (kid e 2)] [] e.pos
 | .ig f a b c,e=> .Call (fill f (kid e 0)) [fill a (kid e 1),fill b (kid e 2),fill c (kid e 3)] [] e.pos
 | .uH f a b c d,e=> .Call (fill f (kid e 0)) [fill a (kid e 1),fill b (kid e 2),fill c (kid e 3),fill d (kid e 4)] [] e.pos
 | .kJ,e=> .List [] e.pos
 | .fJ,e=> .Dict [] [] e.pos
 | .fP a,e=> .List [fill a (kid e 0)] e.pos
 | .An is,e=> .List (sQ is (kids e)) e.pos
 | .wZ a b,e=> .Tuple [fill a (kid e 0),fill b (kid e 1)] (ql e) e.pos
 | .dI a b c,e=> .Tuple [fill a (kid e 0),fill b (kid e 1),fill c (kid e 2)] (ql e) e.pos
 | .nj a b c d,e=> .Tuple [fill a (kid e 0),fill b (kid e 1),fill c (kid e 2),fill d (kid e 3)] (ql e) e.pos
 | .bX o m,e=> .Call (.Attribute (fill o (kid (kid e 0) 0)) m.name (kid e 0).pos) [] [] e.pos
 | .fH o m a,e=> .Call (.Attribute (fill o (kid (kid e 0) 0)) m.name (kid e 0).pos) [fill a (kid e 1)] [] e.pos
 | .mh o m a b,e=> .Call (.Attribute (fill o (kid (kid e 0) 0)) m.name (kid e 0).pos) [fill a (kid e 1),fill b (kid e 2)] [] e.pos
 | .rG o m a b c d,e=> .Call (.Attribute (fill o (kid (kid e 0) 0)) m.name (kid e 0).pos) [fill a (kid e 1),fill b (kid e 2),fill c (kid e 3),fill d (kid e 4)] [] e.pos
 | .kH o m a,e=> .Call (.Attribute (fill o (kid (kid e 0) 0)) m.name (kid e 0).pos) [.Starred (fill a (kid (kid e 1) 0)) (kid e 1).pos] [] e.pos
 | .kI o m a b,e=> .Call (.Attribute (fill o (kid (kid e 0) 0)) m.name (kid e 0).pos) [fill a (kid e 1), .Starred (fill b (kid (kid e 2) 0)) (kid e 2).pos] [] e.pos
 | .attr o t,e=> .Attribute (fill o (kid e 0)) t.name e.pos
 | .iu o b,e=> .Attribute (fill o (kid e 0)) b.attr e.pos
 | .Jp v a,e=> .NamedExpr (v.at (kid e 0)) (fill a (kid e 1)) e.pos
 | .comp elt v k a b,e=> .ListComp (fill elt (kid e 0)) [⟨v.at (kid e 1),k.fill (fill a) (fill b) (kid e 2),[],0⟩] (kM e) e.pos
 | .fQ elt v k a b c,e=> .ListComp (fill elt (kid e 0)) [⟨v.at (kid e 1),k.fill (fill a) (fill b) (kid e 2),[fill c (kid e 3)],0⟩] (kM e) e.pos
 | .eG v,e=> .Call (G.list.at (kid e 0)) [.Call (G.map.at (kid (kid e 1) 0)) [.Attribute (G.Match.at (kid (kid (kid e 1) 1) 0)) "_make" (kid (kid e 1) 1).pos,v.at (kid (kid e 1) 2)] [] (kid e 1).pos] [] e.pos
 | .kK c a,e=> .Call (.Attribute (G.tuple.at (kid (kid e 0) 0)) "__new__" (kid e 0).pos) [fill c (kid e 1),fill a (kid e 2)] [] e.pos
noncomputable def bM:ME→Scope→Expr→Bool
 | .var v,sc,aj=>cE (sc.names.lookup v.name)
 | .glob g,sc,aj=>g.ok sc
 | .int _,_,_| .none,_,_| .bool _,_,_| .neg _,_,_| .kJ,_,_| .fJ,aj,br=>true
 | .bin aj a b,sc,e=>bM a sc (kid e 0)&&bM b sc (kid e 1)
 | .cmp op a b,sc,e=>(behindInMarks op (fill b (kid e 1))==false)&&(bM a sc (kid e 0)&&bM b sc (kid e 1))
 | .not a,sc,e=>bM a sc (kid e 0)
 | .gZ a b,sc,e=>bM a sc (kid e 0)&&bM b sc (kid e 1)
 | .ie a b c d,sc,e=>bM a sc (kid e 0)&&(bM b sc (kid e 1)&&(bM c sc (kid e 2)&&bM d sc (kid e 3)))
 | .Ej a b,sc,e=>bM a sc (kid e 0)&&bM b sc (kid e 1)
 | .idx a i,sc,e=>bM a sc (kid e 0)&&bM i sc (kid e 1)
 | .upto a n,sc,e=>bM a sc (kid e 0)&&bM n sc (kid (kid e 1) 0)
 | .jP f,sc,e=>isName (fill f (kid e 0))&&bM f sc (kid e 0)
 | .bH f a,sc,e=>isName (fill f (kid e 0))&&(bM f sc (kid e 0)&&bM a sc (kid e 1))
 | .call2 f a b,sc,e=>isName (fill f (kid e 0))&&(bM f sc (kid e 0)&&(bM a sc (kid e 1)&&bM b sc (kid e 2)))
 | .ig f a b c,sc,e=>isName (fill f (kid e 0))&&(bM f sc (kid e 0)&&(bM a sc (kid e 1)&&(bM b sc (kid e 2)&&bM c sc (kid e 3))))
 | .uH f a b c d,sc,e=>isName (fill f (kid e 0))&&(bM f sc (kid e 0)&&(bM a sc (kid e 1)&&(bM b sc (kid e 2)&&(bM c sc (kid e 3)&&bM d sc (kid e 4)))))
 | .fP a,sc,e=>bM a sc (kid e 0)
 | .An is,aj,br=>decide (is.length<100)
 | .wZ a b,sc,e=>bM a sc (kid e 0)&&bM b sc (kid e 1)
 | .dI a b c,sc,e=>bM a sc (kid e 0)&&(bM b sc (kid e 1)&&bM c sc (kid e 2))
 | .nj a b c d,sc,e=>bM a sc (kid e 0)&&(bM b sc (kid e 1)&&(bM c sc (kid e 2)&&bM d sc (kid e 3)))
 | .bX o aj,sc,e=>(!cH (fill o (kid (kid e 0) 0)))&&(((kid e 0).pos.endLine==e.pos.line)&&bM o sc (kid (kid e 0) 0))
 | .fH o aj a,sc,e=>(!cH (fill o (kid (kid e 0) 0)))&&(((kid e 0).pos.endLine==e.pos.line)&&(bM o sc (kid (kid e 0) 0)&&bM a sc (kid e 1)))
 | .mh o aj a b,sc,e=>(!cH (fill o (kid (kid e 0) 0)))&&(((kid e 0).pos.endLine==e.pos.line)&&(bM o sc (kid (kid e 0) 0)&&(bM a sc (kid e 1)&&bM b sc (kid e 2))))
 | .rG o aj a b c d,sc,e=>(!cH (fill o (kid (kid e 0) 0)))&&(((kid e 0).pos.endLine==e.pos.line)&&(bM o sc (kid (kid e 0) 0)&&(bM a sc (kid e 1)&&(bM b sc (kid e 2)&&(bM c sc (kid e 3)&&bM d sc (kid e 4))))))
 | .kH o aj a,sc,e=>(!cH (fill o (kid (kid e 0) 0)))&&(bM o sc (kid (kid e 0) 0)&&bM a sc (kid (kid e 1) 0))
 | .kI o aj a b,sc,e=>(!cH (fill o (kid (kid e 0) 0)))&&(bM o sc (kid (kid e 0) 0)&&(bM a sc (kid e 1)&&bM b sc (kid (kid e 2) 0)))
 | .attr o aj,sc,e=>(!cH (fill o (kid e 0)))&&bM o sc (kid e 0)
 | .iu o aj,sc,e=>(!cH (fill o (kid e 0)))&&bM o sc (kid e 0)
 | .Jp v a,sc,e=>decide (sc.names.lookup v.name=some .local)&&bM a sc (kid e 1)
 | .comp elt v k a b,sc,e=>oH sc (kM e) v&&(k.ok (fill a) (bM a sc) (bM b sc) sc (kid e 2)&&bM elt (ek (kM e) sc) (kid e 0))
 | .fQ elt v k a b c,sc,e=>oH sc (kM e) v&&(k.ok (fill a) (bM a sc) (bM b sc) sc (kid e 2)&&(bM elt (ek (kM e) sc) (kid e 0)&&(bM c (ek (kM e) sc) (kid e 3)&&fL c)))
 | .eG v,sc,aj=>G.list.ok sc&&(G.map.ok sc&&(G.Match.ok sc&&cE (sc.names.lookup v.name)))
 | .kK c a,sc,e=>G.tuple.ok sc&&(((kid e 0).pos.endLine==e.pos.line)&&(bM c sc (kid e 1)&&bM a sc (kid e 2)))
theorem bW{me:ME}{e:Expr}:isStar (fill me e)=false:=by cases me<;>rfl
theorem xC{me:ME}{e:Expr}:isSlice (fill me e)=false:=by cases me<;>rfl
section
variable(prog:Program)(w:World)(B:Addr→Option Obj)
structure gR(l:Nat)(C:Cx)(A:Around):Prop where
 kind:C.env.scope.kind= .function
 cells:∀v:V,C.env.kindOf v.name≠some .local→cE (C.env.kindOf v.name)=true→(C.env.cells.lookup v.name).isSome=true
 base:∀a o,B a=some o→C.K a=some o∧¬C.os.F a
 frs:∃l,A.frames=some l∧∀e∈l,e.scope.kind≠ .module∧∃L,e.frame=some L∧((C.os.F L∧∃o,C.K L=some o∧∀vs,o.data≠ .fields vs)∨L=C.env.locals)
 room:nT l A
 Jr:C.env.globals=mainGlobals
 blt:C.env.builtins=builtinsNs
 inter:interactive C.env=false
end
theorem G.nH(g:G):(g.name==("__debug__":Str))=false:=by cases g<;>kernel_rfl!
theorem bJ{a b:Bool}(h:(a&&b)=true):a=true∧b=true:=by simpa using h
theorem aB{a b:Bool}{g:Prop}(h:(a&&b)=true)(k:a=true→b=true→g):g:=k (bJ h).1 (bJ h).2
theorem aD{e:Expr}{r:List Expr}{env:Env}(h:isStar e=false):starEach (e::r) env=(false,eval e env)::starEach r env:=by
 cases e<;>first|rfl|cases h
theorem aK{pos:Pos}{t:Sem Value}{r:List (Bool×Sem Value)}:backTo pos ((false,t)::r)=(false,t)::backTo pos r:=rfl
theorem nT.up{l:Nat}{A:Around}(h:nT l A)(hl:l<60):qo (l+1) A:=⟨h.1,by have:=h.2.1;exact Ky this,by have:=h.2.2.1;exact Tg this,h.2.2.2.1,Nat.succ_le_of_lt hl⟩
section
variable{prog:Program}{w:World}{B:Addr→Option Obj}{l:Nat}{C:Cx}{A:Around}{K:Addr→Option Obj}{os:Oz}{Ω:aa}{s:Shared}
theorem Rep.xD{st:St}(R:Rep prog w C st s)(hb:∀a o,B a=some o→C.K a=some o∧¬C.os.F a):∀a o,B a=some o→s.heap.get? a=some o:=
 λa o e=>by
  obtain⟨h1,h2⟩:=hb a o e;obtain⟨o',h3,h4⟩:=R.H.kept a o h1;rw[h3,h4.eq h2]
theorem AB{b:BI}{vs:List Value}{xs:List af}{Q:af→aa→Prop}(bf:BF prog w B)(hB:∀a o,B a=some o→K a=some o∧¬os.F a)(R:aA prog w K os Ω s)(hr:nT l A)(hv:aP vs xs)
  (h:biA b xs Q Ω):wpAny (model prog w) A (call (.builtin b.id) vs) (PH prog w K os Q) bS s:=by
 cases h with
 |LX e hl h=>
  obtain⟨items,n,g1,g2,g3⟩:=R.list e;refine aP.bg hv (call_len_list (cB g1) (sJ (by rw[g3];exact hl)) ?_);rw[g3];exact⟨.int _,Ω,VR.mkInt,R.toks,h⟩
 |LY e hl h=>
  obtain⟨items,n,g1,g2,g3⟩:=R.tup e;refine aP.bg hv (PySem.P.len_tuple (show IsT s.heap _ items n from g1) (Int.not_le.mpr (sJ (by rw[g3];exact hl))) ?_);rw[g3];exact⟨.int _,Ω,VR.mkInt,R.toks,h⟩
 |LZ e hl h=>exact aP.bg hv (ED bf hB R e hl h)
 |L4 e hl h=>
  obtain⟨kvs,g1,g2,g3⟩:=R.dict e;refine aP.bg hv (call_len_dict g3 g1.dictOf (sJ (by rw[g2.length];exact hl)) ?_);rw[g2.length];exact⟨.int _,Ω,VR.mkInt,R.toks,h⟩
 |sorted e ht h64 hq=>exact aP.bg hv (qA bf hB R e ht h64 hq)
 |nQ e ht h64 hq=>exact aP.bg hv (sN bf hB R (by have:=hr.2.2.1;have:=hr.2.2.2.2;exact Th (by assumption) this) e ht h64 hq)
 |max2 h=>
  rw[Ic]at h;exact aP.dS hv λu us hu hs=>aP.dS hs λu' us' mz hs'=>aP.jS hs' (VR.bC hu λt=>VR.bC mz λt'=>max_two_ints hr.1 λh' tk hk=>by
   split
   ·rename_i hc;rw[if_pos hc]at h;exact⟨.int _,Ω,VR.mkInt,R.ext hk,h⟩
   ·rename_i hc;rw[if_neg hc]at h;exact⟨.int _,Ω,VR.mkInt,R.ext hk,h⟩)
 |L5 e hne hq=>exact aP.bg hv (max_list R hr.1 e hne hq)
 |iter e h=>
  obtain⟨items,n,g1,g2,g3⟩:=R.list e;exact aP.bg hv (oj (cB g1) (R.uM (t:=s.toks) rfl (o:= .d9 _ 0) ⟨rfl,rfl,rfl⟩ h))
 |pop e hl hq=>exact aP.bg hv (pop_list R e hl hq)
 |append e hl hq=>
  obtain⟨items,n,g1,g5,hsz⟩:=R.list e;exact aP.Cw hv λu hw=>append_at g1 (λh' hs ho=>⟨.none,_,rfl,R.upd (t:=s.toks) (o':= .list (_++[_])) e hs ho (OO.uL (by rw[Array.toList_push];exact g5.append ⟨hw,trivial⟩)),hq⟩) (dU (by rw[hsz];exact hl))
 |extend hne e1 e2 l1 l2 hq=>
  obtain⟨items,n,g1,g2,g3⟩:=R.list e1;obtain⟨items2,n2,k1,k2,k3⟩:=R.list e2;unfold lim at l1 l2;refine aP.Cw hv λu hu=>VR.bg hu (call_meets PySem.F.slot_list_extend ⟨_,g1,rfl⟩ PySem.F.entry_list_extend (PySem.F.args_list_extend_2 _ _) (AutoSeq1.list_extend_list_list_0 _ items n _ items2 n2 (by simp[Builtin.List.listTooLong,sizeLine];omega) (by rw[g3,sizeLine_eq];exact O8 l1) (by rw[g3,k3,sizeLine_eq];exact Ti l1 l2)) ⟨g1,k1, .none,_,rfl,R.upd (t:=s.toks) (o':= .list (_++_)) e1 (Heap.SameBut.update ..) (PySem.IsL.update (n:=n) g1 _) (OO.uL ?_),hq⟩)
  rw[Array.toList_append];exact g2.append k2
 |clear e l1 hq=>
  obtain⟨items,n,g1,g2,g3⟩:=R.list e;exact aP.bg hv (call_meets PySem.F.slot_list_clear ⟨_,g1,rfl⟩ PySem.F.entry_list_clear (PySem.F.args_list_clear_1 _) (AutoSeq1.list_clear_list_0 _ items n (dU (by rw[g3];exact l1))) ⟨g1, .none,_,rfl,R.upd (t:=s.toks) (o':= .list []) e (Heap.SameBut.update ..) (PySem.IsL.update (n:=n) g1 _) (OO.uL (show aP ([]:List Value) []from trivial)),hq⟩)
 |L6 e h=>
  obtain⟨kvs,g1,g2,g3⟩:=R.dict e;refine aP.WX hv λt=>call_meetsIn F.slot_dict_get g1.dictOf.typeIs F.entry_dict_get (F.args_dict_get_2 _ _) (meets_dict_get (intKind prog w) _ cu g3) ⟨_,g1.dictOf.mapOf,?_⟩
  rcases g2.look _ with⟨v,x,e1,e2,e3⟩|⟨e1,e2⟩
  ·rw[e1];rw[e2]at h;exact⟨x,Ω,e3,R.toks,h⟩
  ·rw[e1];rw[e2]at h;exact⟨.none,Ω,rfl,R.toks,h⟩
 |get3 e h=>
  obtain⟨kvs,g1,g2,g3⟩:=R.dict e;refine aP.Ib hv λt u hu=>call_meetsIn F.slot_dict_get g1.dictOf.typeIs F.entry_dict_get (F.args_dict_get_3 _ _ _) (meets_dict_get_default (intKind prog w) _ cu g3 _) ⟨_,g1.dictOf.mapOf,?_⟩
  rcases g2.look _ with⟨v,x,e1,e2,e3⟩|⟨e1,e2⟩
  ·rw[e1];rw[e2]at h;exact⟨x,Ω,e3,R.toks,h⟩
  ·rw[e1];rw[e2]at h;exact⟨_,Ω,hu,R.toks,h⟩
 |Ce e l1 ey hq=>
  obtain⟨kvs,g1,g2,g3⟩:=R.dict e;refine aP.Ib hv λt u hu=>call_meetsIn F.slot_dict_setdefault g1.dictOf.typeIs F.entry_dict_setdefault (F.args_dict_setdefault_3 _ _ _) (fX _ cu g3 _) ⟨_,g1.dictOf,dU (by rw[g2.length];exact l1),λv hv=>?_,λhn h' hd hs=>?_⟩
  all_goals rcases g2.look _ with⟨v',x,e1,e2,e3⟩|⟨e1,e2⟩<;>rw[e2]at ey<;>cases ey
  ·rw[e1]at hv;cases hv;exact⟨_,Ω,e3,R.toks,hq⟩
  ·rw[e1]at hn;cases hn
 |Cf e l1 ey hq=>
  obtain⟨kvs,g1,g2,g3⟩:=R.dict e;refine aP.Ib hv λt u hu=>call_meetsIn F.slot_dict_setdefault g1.dictOf.typeIs F.entry_dict_setdefault (F.args_dict_setdefault_3 _ _ _) (fX _ cu g3 _) ⟨_,g1.dictOf,dU (by rw[g2.length];exact l1),λv hv=>?_,λhn h' hd hs=>?_⟩
  ·rcases g2.look _ with⟨v',x,e1,e2,e3⟩|⟨e1,e2⟩
   ·rw[e2]at ey;cases ey
   ·rw[e1]at hv;cases hv
  ·obtain⟨cK,ob,k1,k2⟩:=OO.dictOf hd (g2.put _ hu)
   exact⟨_,_,hu,R.upd e hs k1 k2,hq cK⟩
 |uF e l1 hq=>
  refine aP.WX hv λt=>call_set_add (knd:=intKind prog w) cu rfl (R.set e) (by show _+1<4096;exact Nat.lt_of_le_of_lt l1 (by decide)) λh' hs hS=>?_
  obtain⟨ob,k1,k2⟩:=OO.setOf hS;exact⟨.none,_,rfl,R.upd e hs k1 k2,hq⟩
 |dM e h=>exact aP.WX hv λt=>qw (R.set e) ⟨.bool _,Ω,rfl,R.toks,h⟩
theorem ny:isSubtype (.type "dict") (.type "module")=pure false:=by rw[isSubtype_type];kernel_rfl
theorem oJ:isSubtype (.type "set") (.type "module")=pure false:=by rw[isSubtype_type];kernel_rfl
theorem mL{E:Value→Shared→Prop}{T id:String}{d:Addr}{vs:List Value}{Q:Unit→Shared→Prop}{o:Obj}{sig:Manifest.Signature}(hx:s.heap.get? d=some o)(hc:o.cls= .type T)(hn:notCls o=true)
  (W3:Manifest.signature? id=some sig) (hkind:builtinKind id=some .method) (hva:Manifest.varargsMethods.contains id=false) (hm:isSubtype (.type T) (.type "module")=pure false)
  (hargs:Bind.checkArgs id {sig with full:=toString (Bind.lastOf T)++toString "."++toString (Bind.lastOf id)} ⟨.ref d::vs,[]⟩=pure ()) (h:Q () s):wpAny (model prog w) A (checkBoundCall id ⟨.ref d::vs,[]⟩) Q E s:=by
 have L0:Looks (model prog w) s.heap (typeOf (.ref d)) (.type T):=hc▸(Looks.ld hx).andThen .now;unfold checkBoundCall;rw[W3,hkind];dsimp only;rw[if_neg (by decide)];refine wpAny_bind (m:=isInstance _ _) (wpAny_bind (L0.here (wpAny_of_eq hm ?_)));rw[hva,Bool.false_or,if_neg (by decide)];have hty:Looks (model prog w) s.heap (isType (.ref d)) false:=by
  refine(Looks.ld (part:=none) hx).andThen ?_;obtain⟨_,_,N7,_⟩:=o;cases N7<;>first|exact .now|cases hn
 refine wpAny_bind (hty.here ?_);rw[if_neg (by decide)];refine wpAny_bind (L0.here ?_);dsimp only;rw[hargs];exact wpAny_pure h
theorem xE{E:Value→Shared→Prop}{d:Addr}{k x:Value}{Q:Unit→Shared→Prop}{kvs:List (Int×Value)}(hm:s.heap.DictOf (intKind prog w) d kvs)(h:Q () s):wpAny (model prog w) A (checkBoundCall "dict.get" ⟨[.ref d,k,x],[]⟩) Q E s:=by
 obtain⟨o,es,ep,ho,hc,hd,_⟩:=hm;refine mL (sig:=⟨.positional,"dict.get","get", .self,[⟨"key", .posOnly,true⟩,⟨"default", .posOnly,false⟩]⟩) ho hc.1 (by unfold notCls;rw[hd]) (by kernel_rfl) (by decide+kernel) (by decide+kernel) ny (by kernel_rfl) h
theorem EM:Manifest.signature? "set.__contains__"=some ⟨.oneArg,"set.__contains__","__contains__", .self,[⟨"object", .posOnly,true⟩]⟩:=by kernel_rfl
theorem EN:builtinKind "set.__contains__"=some .method:=by decide+kernel
theorem EO:Manifest.varargsMethods.contains "set.__contains__"=false:=by decide+kernel
theorem EP(d k:Value):Bind.checkArgs "set.__contains__" ⟨.oneArg,toString (Bind.lastOf "set")++toString "."++toString (Bind.lastOf "set.__contains__"),"__contains__", .self,[⟨"object", .posOnly,true⟩]⟩ ⟨[d,k],[]⟩=pure ():=by kernel_rfl
theorem xF{E:Value→Shared→Prop}{d:Addr}{k:Value}{Q:Unit→Shared→Prop}{n:Nat}{S:Int→Bool}(hS:s.heap.SetOf (intKind prog w) d S n)(h:Q () s):wpAny (model prog w) A (checkBoundCall "set.__contains__" ⟨[.ref d,k],[]⟩) Q E s:=by
 obtain⟨o,es,ep,t,ho,hc,hd,h2⟩:=hS;have hn:notCls o=true:=by unfold notCls;rw[hd]
 refine mL (T:="set") (id:="set.__contains__") (vs:=[k]) ho hc.1 hn EM EN EO oJ ?_ h;have:=EP (.ref d) k;exact this
theorem sR(bf:BF prog w B)(hB:∀a o,B a=some o→K a=some o∧¬os.F a)(hfr:qp K os A)(hr:nT l A){fv:Value}{f:af}{vs:List Value}{xs:List af}{Q:af→aa→Prop}(R:aA prog w K os Ω s)(hf:VR fv f)(hv:aP vs xs)
  (h:aZ prog w B l f xs Q Ω):wpAny (model prog w) A (call fv vs) (PH prog w K os Q) bS s:=by
 cases h with
 |bi h=>cases hf;exact AB bf hB R hr hv h
 |ty h=>cases hf;exact As R hv h
 |get e ed h=>
  obtain⟨ob,g1,g2,g3⟩:=R.objs _ _ e;obtain⟨kvs,k1,k2,k3⟩:=R.dict ed;refine VR.bg hf (aP.ixE hv λt u hu=>gp g1 g2 g3 (.inl rfl) (F.slot_dict_get.plain) F.entry_dict_get (xE k1.dictOf (meets_dict_get_default (intKind prog w) _ cu k3 _ A _ s ⟨_,k1.dictOf.mapOf,?_⟩)))
  rcases k2.look _ with⟨v,x,e1,e2,e3⟩|⟨e1,e2⟩
  ·rw[e1];rw[e2]at h;exact⟨x,Ω,e3,R.toks,h⟩
  ·rw[e1];rw[e2]at h;exact⟨_,Ω,hu,R.toks,h⟩
 |cont e ed h=>
  obtain⟨ob,g1,g2,g3⟩:=R.objs _ _ e;exact VR.bg hf (aP.iE hv λt=>gp g1 g2 g3 (.inl rfl) (F.slot_set_contains.plain) entry_set_contains (xF (R.set ed) (jh (R.set ed) ⟨.bool _,Ω,rfl,R.toks,h⟩)))
 |fn h1 h2 h3=>exact VR.bg hf (wpAny_call (h3 K os A s _ vs hB hfr (hr.up h2) rfl hv R))
end
section
variable{prog:Program}{w:World}{B:Addr→Option Obj}{l:Nat}{C:Cx}{A:Around}{s:Shared}
theorem keep_base{st:St}(hb:∀a o,B a=some o→C.K a=some o∧¬C.os.F a)(R:Rep prog w C st s):∀a o,B a=some o→bG st.Ω s.heap a=some o∧¬C.qk.F a:=λa o e=>by
 have h1:=hb a o e;have jb:=R.H.gh h1.1;refine⟨?_,λq=>?_⟩
 ·unfold bG
  rw[jb];exact R.xD hb a o e
 ·rcases q with q|q
  ·exact h1.2 q
  ·have:=h1.1;rw[q,R.lk]at this;cases this
theorem sS{C:Cx}{st:St}(R:Rep prog w C st s):∀a o,C.K a=some o→C.qk.F a→C.os.F a:=λa o e h=>by
 rcases h with h|h
 ·exact h
 ·rw[h,R.lk]at e;cases e
theorem lift{t:Sem Value}{st:St}{Q:af→St→Prop}(hb:∀a o,B a=some o→C.K a=some o∧¬C.os.F a)(R:Rep prog w C st s)
  (h:∀K os,(∀a o,B a=some o→K a=some o∧¬os.F a)→aA prog w K os st.Ω s→wpAny (model prog w) A t (PH prog w K os λx Ω=>Q x {st with Ω}) bS s):wpAny (model prog w) A t (PE prog w C Q) bS s:=
 ay (h (bG st.Ω s.heap) C.qk (keep_base hb R) (R.H.enter.N3 (os':=C.qk) rfl (λaj h=> .inl h) R.sC)) λv s' ⟨x,az,h1,h2,h3⟩=>⟨x,_,h1,R.kG (os':=C.qk) rfl (sS R) h2,h3⟩
theorem CR(ok:gR B l C A){t:Sem Value}{st:St}{Q:af→St→Prop}(R:Rep prog w C st s)
  (h:∀K os,(∀a o,B a=some o→K a=some o∧¬os.F a)→qp K os A→aA prog w K os st.Ω s→wpAny (model prog w) A t (PH prog w K os λx Ω=>Q x {st with Ω}) bS s):wpAny (model prog w) A t (PE prog w C Q) bS s:=by
 refine ay (h (bG st.Ω s.heap) C.qk (keep_base ok.base R) ?_ (R.H.enter.N3 (os':=C.qk) rfl (λaj h=> .inl h) R.sC)) λv s' ⟨x,az,h1,h2,h3⟩=>⟨x,_,h1,R.kG (os':=C.qk) rfl (sS R) h2,h3⟩
 obtain⟨fl,f1,f2⟩:=ok.frs;refine⟨fl,f1,λe he=>?_⟩;obtain⟨g1,L,g2,g3⟩:=f2 e he;refine⟨g1,L,?_⟩
 rcases g3 with⟨g3,o,g4,g5⟩|rfl
 ·obtain⟨o',k1,k2⟩:=R.H.kept L o g4
  exact⟨o',g2, .inl g3,by unfold bG;rw[R.H.gh g4];exact k1,λvs q=>g5 vs (by rw[←k2.data];exact q)⟩
 ·obtain⟨⟨ml,⟨o,es,ep,ho,hd,_⟩,_⟩,_⟩:=R.loc
  exact⟨o,g2, .inr rfl,by unfold bG;rw[R.qn];exact ho,λvs q=>by rw[hd]at q;cases q⟩
theorem jW{α:Type}{t:Sem α}{st:St}{Q:α→aa→Prop}(hb:∀a o,B a=some o→C.K a=some o∧¬C.os.F a)(R:Rep prog w C st s)
  (h:∀K os,(∀a o,B a=some o→K a=some o∧¬os.F a)→aA prog w K os st.Ω s→wpAny (model prog w) A t (λx s'=>∃az,aA prog w K os az s'∧Q x az) bS s):
  wpAny (model prog w) A t (λx s'=>∃az,Rep prog w C {st with Ω:=az} s'∧Q x az) bS s:=
 ay (h (bG st.Ω s.heap) C.qk (keep_base hb R) (R.H.enter.N3 (os':=C.qk) rfl (λaj h=> .inl h) R.sC)) λv s' ⟨az,h2,h3⟩=>⟨az,R.kG (os':=C.qk) rfl (sS R) h2,h3⟩
theorem rP(hb:∀a o,B a=some o→C.K a=some o∧¬C.os.F a)(hr:nT l A){op:CmpOp}{v u:Value}{x y:af}{st:St}{Q:Bool→Prop}(R:Rep prog w C st s)(hv:VR v x)(hu:VR u y)
  (h:gm op x y Q st.Ω):wpAny (model prog w) A (compareOp op v u) (λr s'=>∃b,r= .bool b∧Rep prog w C st s'∧Q b) bS s:=by
 refine ay (jW (B:=B) (Q:=λr Ω=>∃b,r= .bool b∧Ω=st.Ω∧Q b) hb R λK os hK RH=>?_) λr s' ⟨az,R',b,e1,e2,q⟩=>⟨b,e1,by subst e2;exact R',q⟩
 have hun:A.units<9000:=by have:=hr.2.2.1;have:=hr.2.2.2.2;exact UQ (by assumption) this
 exact ay (w9 RH hv hu (λe q=>xu RH hun e q) (λe q=>xy RH hun e q) h) λr s' ⟨b,e1,R',q⟩=>⟨_,R',b,e1,rfl,q⟩
theorem cL(hb:∀a o,B a=some o→C.K a=some o∧¬C.os.F a){v:Value}{x:af}{st:St}{Q:Bool→Prop}(R:Rep prog w C st s)(hv:VR v x)
  (h:cW x Q st.Ω):wpAny (model prog w) A (truthy v) (λt s'=>Rep prog w C st s'∧Q t) bS s:=
 ay (jW (B:=B) (Q:=λr Ω=>Ω=st.Ω∧Q r) hb R λK os hK RH=>ay (sI RH hv h) λr s' ⟨R',q⟩=>⟨_,R',rfl,q⟩) λr s' ⟨az,R',e2,q⟩=>⟨by subst e2;exact R',q⟩
theorem AD(bf:BF prog w B)(hb:∀a o,B a=some o→C.K a=some o∧¬C.os.F a){v u:Value}{x y:af}{st:St}{value slice:Expr}{Q:af→Prop}(R:Rep prog w C st s)(hv:VR v x)(hu:VR u y)
  (hs:∀a b p,slice≠ .Slice a b none p)
  (h:Al x y Q st.Ω):wpAny (model prog w) A (subscriptTail value slice v u) (λr s'=>∃z,VR r z∧Rep prog w C st s'∧Q z) bS s:=by
 have hs':∀o i,subscripted slice false o i=operate [o,i] (getItem o i):=λo i=>by
  cases slice with
  |Slice a b c p=>cases c with
   |none=>exact absurd rfl (hs _ _ _)
   |some aj=>rfl
  |_=>rfl
 refine ay (jW (B:=B) (Q:=λr Ω=>∃z,VR r z∧Ω=st.Ω∧Q z) hb R λK os hK RH=>?_) λr s' ⟨az,R',z,e1,e2,q⟩=>⟨z,e1,by subst e2;exact R',q⟩
 cases h with
 |list e h3 h4 h5 h6=>
  obtain⟨items,n,g1,g2,g3⟩:=RH.list e;obtain⟨r,h7,h8⟩:=g2.get h5;exact VR.bg hv (VR.bC hu λt=>tail_any (cB g1).typeIs slot_list_getitem.lookup (wpAny_getItem_list (cB g1) h3 (Wn h4) (by simpa using h7) ⟨_,RH,_,h8,rfl,h6⟩) (hs' _ _))
 |@last p xs z e h5 h6 h7=>
  obtain⟨items,n,g1,g2,g3⟩:=RH.list e;obtain⟨ys,rfl⟩:∃ys,xs=ys++[z]:=List.getLast?_eq_some_iff.mp h5
  obtain⟨r,k1,k2⟩:=g2.get (i:=ys.length) (x:=z) (by simp);unfold lim at h6;have hsz:items.size=ys.length+1:=by rw[g3];simp
  refine VR.bg hv (VR.bC hu λt=>tail_any (cB g1).typeIs slot_list_getitem.lookup (wpAny_getItem_list_neg (x:=r) (cB g1) (by decide) (Wo hsz) (by decide) ?_ ⟨_,RH,z,k2,rfl,h7⟩) (hs' _ _));rw[show ((-1:Int)+items.size).toNat=ys.length by exact Qj hsz];simpa using k1
 |cZ e h3 h4 h5 h6=>exact VR.bg hv (VR.bC hu λt=>ay (EF bf hK RH e h3 h4 h5 hs') λr s' ⟨a,b⟩=>⟨_,b,_,a,rfl,h6⟩)
 |dict e h5 h6=>
  obtain⟨kvs,g1,g2,g3⟩:=RH.dict e
  rcases g2.look _ with⟨v,x,e1,e2,e3⟩|⟨e1,e2⟩
  ·rw[e2]at h5;cases h5
   exact VR.bg hv (VR.bC hu λt=>tail_any g1.dictOf.typeIs slot_dict_getitem.lookup (wpAny_getItem_of (knd:=intKind prog w) cu g1.dictOf.mapOf e1 ⟨_,RH.toks,_,e3,rfl,h6⟩) (hs' _ _))
  ·rw[e2]at h5;cases h5
def AE(h:Heap)(a:Addr):It→Prop
 | .nk x left step=>IsRangeIter h a x left step
 | .lst p i=>h.IsListIter a p i
 | .tup p i=>h.IsTupleIter a p i
 | .keys d ep n i=>h.IsKeyIter a d i n ep
 | .vals d ep n i=>h.IsValIter a d i n ep
theorem AE.at{h:Heap}{a:Addr}{I:It}(x:AE h a I):∃o,h.get? a=some o:=by
 cases I with
 |nk aj br dg=>exact⟨_,x⟩
 |_=>obtain⟨o,h1,_⟩:=x;exact⟨o,h1⟩
theorem AE.same{h h':Heap}{a:Addr}{I:It}(x:AE h a I)(e:h'.get? a=h.get? a):AE h' a I:=by
 cases I with
 |nk aj br dg=>exact e.trans x
 |_=>obtain⟨o,h1,r⟩:=x;exact⟨o,e.trans h1,r⟩
theorem AE.dP{h:Heap}{a:Addr}{I:It}(x:AE h a I)(y:Option Value):¬h.IsCell a y:=by
 intro aH;obtain⟨oc,h1,h2⟩:=aH;cases I with
 |nk aj br dg=>have:=(show h.get? a=_ from x);rw[h1]at this;cases this;cases h2
 |_=>obtain⟨o,h3,_,h4⟩:=x;rw[h1]at h3;cases h3;rw[h2]at h4;cases h4
structure Own(C:Cx)(st:St)(s:Shared)(a:Addr)(I:It):Prop where
 at_:AE s.heap a I
 K:C.K a=none
 Ω:st.Ω a=none
 L:C.env.locals≠a
theorem iV{st:St}{a:Addr}{I:It}{r:Option (af×It)}(R:Rep prog w C st s)(hh:A.handled=none)(O:Own C st s a I)(hn:BZ I st.Ω=some r):
  wpAny (model prog w) A (pyNext (.ref a)) (λo s'=>Rep prog w C st s'∧(∃h' t',s'={s with heap:=h',toks:=t'}∧Heap.ExtBut a s.heap h')∧match r with
   |none=>o=none
   |some (x,I')=>∃v,o=some v∧VR v x∧AE s'.heap a I') bS s:=by
 have fin:∀h',Heap.ExtBut a s.heap h'→Rep prog w C st {s with heap:=h'}:=λh' he=>R.wX (t:=s.toks) O.K O.Ω O.L O.at_.dP (λb o hb e=>he b o hb e)
 have go:∀h' t,Heap.SameBut a s.heap h'→Rep prog w C st {s with heap:=h',toks:=t}:=λh' t he=>R.wX O.K O.Ω O.L O.at_.dP (λb o hb e=>(he.2 b hb).trans e)
 cases I with
 |nk x left step=>
  have hn:(if 0<left then some (some (af.int x,It.nk (x+step) (left-1) step))else some none)=some r:=hn
  by_cases q:0<left
  ·rw[if_pos q]at hn;cases hn
   exact wpAny_pyNext_range_item O.at_ q λh' h1 h2=>⟨go h' _ h2,⟨h',_,rfl,h2.extBut⟩,_,rfl,VR.mkInt,h1⟩
  ·rw[if_neg q]at hn;cases hn
   exact wpAny_pyNext_range_end hh O.at_ (Int.le_of_not_gt q) λh' h1=>⟨fin h' h1,⟨h',_,rfl,h1⟩,rfl⟩
 |lst p i=>
  obtain⟨xs,e,q⟩:=zy hn;obtain⟨items,n,h1,h2,h3⟩:=R.H.list (HX e);cases ex:xs[i]? with
  |some x=>
   rw[ex]at q;cases q;obtain⟨v,h3,h4⟩:=h2.get ex;exact wpAny_pyNext_list_item O.at_ (cB h1) (by simpa using h3) λh' g1 g2=>⟨go h' s.toks g2,⟨h',_,rfl,g2.extBut⟩,v,rfl,h4,g1⟩
  |none=>
   rw[ex]at q;cases q;exact wpAny_pyNext_list_end hh O.at_ (cB h1) (by simpa using h2.jK ex) λh' g1=>⟨fin h' g1,⟨h',_,rfl,g1⟩,rfl⟩
 |tup p i=>
  obtain⟨xs,e,q⟩:=zy hn;obtain⟨items,n,h1,h2,h3⟩:=R.H.tup (HY e);have hT:s.heap.IsTuple p items:=⟨_,h1,rfl,n,rfl⟩;cases ex:xs[i]? with
  |some x=>
   rw[ex]at q;cases q;obtain⟨v,h3,h4⟩:=h2.get ex;exact wpAny_pyNext_tuple_item O.at_ hT (by simpa using h3) λh' g1 g2=>⟨go h' s.toks g2,⟨h',_,rfl,g2.extBut⟩,v,rfl,h4,g1⟩
  |none=>
   rw[ex]at q;cases q;exact wpAny_pyNext_tuple_end hh O.at_ hT (by simpa using h2.jK ex) λh' g1=>⟨fin h' g1,⟨h',_,rfl,g1⟩,rfl⟩
 |keys d ep n i=>
  obtain⟨es,e0,q⟩:=zy hn;obtain⟨e,hq⟩:=Cm e0;subst hq;obtain⟨kvs,h1,h2,h3⟩:=R.H.dict e;have hit:s.heap.IsKeyIter a d i kvs.length ep:=by rw[h2.length];exact O.at_
  cases ex:es[i]? with
  |some x=>
   rw[ex]at q;cases q;obtain⟨v,g1,g2⟩:=h2.get ex;refine wpAny_pyNext_dict_item hit h1 g1 λkey h' k1 k2 k3=>⟨go h' s.toks k3,⟨h',_,rfl,k3.extBut⟩,key,rfl,?_,by rw[h2.length]at k2;exact k2⟩
   obtain⟨t,rfl⟩:=Value.isInt_shape k1;exact VR.mkInt
  |none=>
   rw[ex]at q;cases q;exact wpAny_pyNext_dict_end hh hit h1 (h2.jK ex) λh' g1=>⟨fin h' g1,⟨h',_,rfl,g1⟩,rfl⟩
 |vals d ep n i=>
  obtain⟨es,e0,q⟩:=zy hn;obtain⟨e,hq⟩:=Cm e0;subst hq;obtain⟨kvs,h1,h2,h3⟩:=R.H.dict e;have hit:s.heap.IsValIter a d i kvs.length ep:=by rw[h2.length];exact O.at_
  cases ex:es[i]? with
  |some x=>
   rw[ex]at q;cases q;obtain⟨v,g1,g2⟩:=h2.get ex;exact wpAny_pyNext_values_item hit h1 g1 λh' k2 k3=>⟨go h' s.toks k3,⟨h',_,rfl,k3.extBut⟩,v,rfl,g2,by rw[h2.length]at k2;exact k2⟩
  |none=>
   rw[ex]at q;cases q;exact wpAny_pyNext_values_end hh hit h1 (h2.jK ex) λh' g1=>⟨fin h' g1,⟨h',_,rfl,g1⟩,rfl⟩
theorem AF{E:Value→Shared→Prop}{a:Addr}{I:It}{Q:Value→Shared→Prop}(x:AE s.heap a I)(h:Q (.ref a) s):wpAny (model prog w) A (pyIter (.ref a)) Q E s:=by
 cases I with
 |nk aj br dg=>exact rO x h
 |lst aj br=>exact wpAny_pyIter_listiter x h
 |tup aj br=>exact wpAny_pyIter_tupleiter x h
 |keys aj br dg gM=>exact wpAny_pyIter_keyiter x h
 |vals aj br dg gM=>exact wpAny_pyIter_valiter x h
theorem gx{st:St}{ob:Obj}{I:It}{Q:It→St→Prop}(R:Rep prog w C st s)(hI:AE (s.heap.push ob) s.heap.objs.size I)(hq:Q I st):
  ∃a I st2,Value.ref s.heap.objs.size= .ref a∧Rep prog w C st2 {s with heap:=s.heap.push ob}∧Own C st2 {s with heap:=s.heap.push ob} a I∧Q I st2:=
 ⟨_,I,st,rfl,R.push (t:=s.toks) ob,⟨hI,R.H.eT,R.H.bE,Nat.ne_of_lt R.loc.lt⟩,hq⟩
theorem jX(p q:Int):Builtin.Range.rangeSize p q 1=max (q-p) 0:=by
 rw[rangeSize_one]
 split<;>omega
theorem ji{p q:Int}(h:p≤q):Builtin.Range.rangeSize p q 2=(q-p+1)/2:=by
 unfold Builtin.Range.rangeSize;rw[if_pos (by decide)]
 split<;>omega
theorem vc{p q:Int}(h1:-2^40<p)(h2:p<2^40)(h3:-2^40<q)(h4:q<2^40):Builtin.Range.small p q 1=true:=by
 unfold Builtin.Range.small;rw[jX];simp only[Builtin.Range.rangeFitsLong,Bool.and_eq_true,decide_eq_true_eq,Bool.or_eq_true,beq_iff_eq];refine⟨⟨⟨⟨⟨Ll h1,Vm h2⟩,Ll h3,Vm h4⟩,(by decide),(by decide)⟩,Wq,Wr h1 h4⟩, .inr ?_⟩;simp;exact⟨Ws h3,Wu h4⟩
theorem sU{p q:Int}(h1:0≤p)(h2:p≤q)(h4:q<2^40):Builtin.Range.small p q 2=true:=by
 unfold Builtin.Range.small;rw[ji h2];simp only[Builtin.Range.rangeFitsLong,Bool.and_eq_true,decide_eq_true_eq,Bool.or_eq_true,beq_iff_eq];refine⟨⟨⟨⟨⟨O91 h1,Wv h2 h4⟩,Ww h1 h2,Vm h4⟩,(by decide),(by decide)⟩,Wx h2,Wy h1 h4⟩, .inr ?_⟩;simp;exact⟨Wz h1 h2,WA h4⟩
theorem oK{p q:Int}{t u v:Tok}{r:Addr}{st:St}{Q:It→St→Prop}(R:Rep prog w C st s)(hr:IsRange s.heap r p q 1 t u v)(h1:-2^40<p)(h2:p<2^40)(h3:-2^40<q)(h4:q<2^40)(h:Q (.nk p (max (q-p) 0) 1) st):
  wpAny (model prog w) A (pyIter (.ref r)) (λit s2=>∃a I st2,it= .ref a∧Rep prog w C st2 s2∧Own C st2 s2 a I∧Q I st2) bS s:=by
 refine wpAny_pyIter_range hr (vc h1 h2 h3 h4) ?_;rw[jX];exact gx (I:= .nk p (max (q-p) 0) 1) R (Heap.get?_push_size _ rfl) h
def oM(prog:Program)(w:World)(C:Cx)(A:Around)(fa:Expr→Expr)(oa:Expr→Bool)(ee:(af→St→Prop)→St→Prop):Prop:=
 ∀(e:Expr),oa e=true→isStar (fa e)=false∧∀{st:St} {s:Shared} {Q:af→St→Prop},Rep prog w C st s→ee Q st→wpAny (model prog w) A (eval (fa e) C.env) (PE prog w C Q) bS s
theorem bQ(bf:BF prog w B)(ok:gR B l C A){g:G}(h:g.ok C.env.scope=true){e:Expr}{st:St}(R:Rep prog w C st s){Q:Value→Shared→Prop}{E:Value→Shared→Prop}(hq:∀v,VR v g.val→Q v s):wpAny (model prog w) A (eval (g.at e) C.env) Q E s:=by
 obtain⟨v,hv,hl⟩:=bf.glob g C.env ok.Jr ok.blt s.heap (R.xD ok.base);exact Name_function_global ok.kind (of_decide_eq_true h) (hl.here (hq v hv)) (G.nH _)
theorem PE.to{Q:af→St→Prop}{t:Sem Value}{K:Value→Shared→Prop}(h:wpAny (model prog w) A t (PE prog w C Q) bS s)(k:∀v s1 x st1,VR v x→Rep prog w C st1 s1→Q x st1→K v s1):wpAny (model prog w) A t K bS s:=
 ay h λv s1 ⟨x,st1,h1,h2,h3⟩=>k v s1 x st1 h1 h2 h3
theorem vd(bf:BF prog w B)(ok:gR B l C A){k:IK}{fa fb:Expr→Expr}{oa ob:Expr→Bool}{ea eb:(af→St→Prop)→St→Prop}(ha:oM prog w C A fa oa ea)(hb:oM prog w C A fb ob eb)(e:Expr)(he:k.ok fa oa ob C.env.scope e=true){st:St}{Q:It→St→Prop}(R:Rep prog w C st s)(h:w6 k ea eb Q st):
  wpAny (model prog w) A (eval (k.fill fa fb e) C.env) (λx s1=>wpAny (model prog w) A (pyIter x) (λit s2=>∃a I st2,it= .ref a∧Rep prog w C st2 s2∧Own C st2 s2 a I∧Q I st2) bS s1) bS s:=by
 cases k with
 |wY=>
  refine aB he λh2 h3=>?_
  obtain⟨hst,ha⟩:=ha _ h3;refine wpAny_Call_ofName (bQ bf ok h2 R λv hv=>?_);cases hv;rw[aD hst,aK];refine PySem.callWith_type rfl (evalArgs_plain (spliced_cons (PE.to (ha R h) λv s2 x st2 hx R2 h2=>spliced_nil ?_)));cases h2 with
  |mk g1 g2 g3=>exact VR.bC hx λt=>call_range_1 (oK (p:=0) (R2.push _) (IsRange.new ..) (by decide) (by decide) g1 g2 (by rw[Int.sub_zero];exact g3))
 |Am=>
  refine aB he λh2 h3=>aB h3 λha1 hb1=>?_
  obtain⟨W6,ha⟩:=ha _ ha1;obtain⟨W7,hb⟩:=hb _ hb1;refine wpAny_Call_ofName (bQ bf ok h2 R λv hv=>?_);cases hv;rw[aD W6,aD W7,aK,aK];refine PySem.callWith_type rfl (evalArgs_plain (spliced_cons (PE.to (ha R h) λv s1 x st1 hx R1 h1=>spliced_cons (PE.to (hb R1 h1) λu s2 y st2 hy R2 h2=>spliced_nil ?_))));cases h2 with
  |mk g1 g2 g3 g4 g5=>exact VR.bC hx λt=>VR.bC hy λt'=>call_range_2 (oK (R2.push _) (IsRange.new ..) g1 g2 g3 g4 g5)
 |nX=>
  refine aB he λh2 h3=>aB h3 λha1 hb1=>?_
  obtain⟨W6,ha⟩:=ha _ ha1;obtain⟨W7,hb⟩:=hb _ hb1;refine wpAny_Call_ofName (bQ bf ok h2 R λv hv=>?_);cases hv;rw[aD W6,aD W7,aD rfl,aK,aK,aK];refine PySem.callWith_type rfl (evalArgs_plain (spliced_cons (PE.to (ha R h) λv s1 x st1 hx R1 h1=>spliced_cons (PE.to (hb R1 h1) λu s2 y st2 hy R2 h2=>spliced_cons (wpAny_Constant_int (spliced_nil ?_))))));cases h2 with
  |mk g1 g2 g3 g5=>
   refine VR.bC hx λt=>VR.bC hy λt'=>call_range_3 (by decide) ?_ (.inl (PyProof.noPylong_small (PS)))
   refine wpAny_pyIter_range (IsRange.new ..) (sU g1 g2 g3) ?_;rw[ji g2];exact gx (I:= .nk _ _ 2) (R2.toks.push _) (Heap.get?_push_size _ rfl) g5
 |rev=>
  refine aB he λh2 h3=>aB h3 λh4 h5=>?_
  obtain⟨hst,ha⟩:=ha _ h5;refine wpAny_Call_ofName (bQ bf ok h2 R λv hv=>?_);cases hv;rw[aD rfl,aK];refine PySem.callWith_type rfl (evalArgs_plain (spliced_cons (wpAny_Call_ofName (bQ bf ok h4 R λv hv=>?_))));cases hv;rw[aD hst,aK];refine PySem.callWith_type rfl (evalArgs_plain (spliced_cons (PE.to (ha R h) λv s2 x st2 hx R2 h2=>spliced_nil ?_)));cases h2 with
  |mk g1 g2 g3=>
   refine VR.bC hx λt=>call_range_1 (spliced_nil (je g1 g2 (IsRange.new ..) (rO (Heap.get?_push_size _ rfl) ?_)))
   exact gx (I:= .nk _ _ (-1)) (R2.push _) (Heap.get?_push_size _ rfl) g3
 |vals=>
  refine aB he λh5 h3=>aB h3 λh3 h1=>?_
  obtain⟨hst,ha⟩:=ha _ h1;refine MethodCall_ (PE.to (ha R h) λv s1 x st1 hv R1 h1=>?_) (iU (by simpa using h5) rfl (by simp) h3);cases h1 with
  |@mk p ep es e h1=>
   obtain⟨kvs,g1,g2,g3⟩:=R1.H.dict e;refine VR.bg hv (getMethod_builtin g1.dictOf.typeIs F.plainAttrs_dict F.slot_dict_values F.type_dict_values g1.dictOf.mapOf.noDict ?_);refine callWith_method0 (call_meetsIn F.slot_dict_values g1.dictOf.typeIs F.entry_dict_values (F.args_dict_values_1 _) (meets_dict_values (intKind prog w) _ g3) ⟨⟨_,g1.dictOf⟩,?_⟩);refine wpAny_pyIter_values (v:=s1.heap.objs.size) (knd:=intKind prog w) ⟨_,Heap.get?_push_size _ rfl,rfl,rfl⟩ (g1.push _) ?_;rw[g2.length];exact gx (I:= .vals _ ep es.length 0) (R1.push (t:=s1.toks) _) ⟨_,Heap.get?_push_size _ rfl,rfl,rfl⟩ h1
 |ex=>
  obtain⟨hst,ha⟩:=ha _ he;refine PE.to (ha R h) λv s1 x st1 hx R1 h1=>?_
  cases h1 with
  |list e h1=>
   obtain⟨items,n,g1,g2,g3⟩:=R1.H.list e;exact VR.bg hx (wpAny_pyIter_list (cB g1) (gx (I:= .lst _ 0) R1 ⟨_,Heap.get?_push_size _ rfl,rfl,rfl⟩ h1))
  |tup e h1=>
   obtain⟨items,n,g1,g2,g3⟩:=R1.H.tup e;exact VR.bg hx (wpAny_pyIter_tuple ⟨_,g1,rfl,n,rfl⟩ (gx (I:= .tup _ 0) R1 ⟨_,Heap.get?_push_size _ rfl,rfl,rfl⟩ h1))
  |dict e h1=>
   obtain⟨kvs,g1,g2,g3⟩:=R1.H.dict e;refine VR.bg hx (wpAny_pyIter_dict (knd:=intKind prog w) g3 g1 ?_);rw[g2.length];exact gx (I:= .keys _ _ _ 0) R1 ⟨_,Heap.get?_push_size _ rfl,rfl,rfl⟩ h1
end
section
variable{prog:Program}{w:World}{B:Addr→Option Obj}{l:Nat}{C:Cx}{A:Around}{s:Shared}{K:Addr→Option Obj}{os:Oz}{Ω:aa}
theorem cM{v:V}{r:Value}{x:af}{st:St}(R:Rep prog w C st s)(hk:C.env.scope.kind= .function)(hl:C.env.kindOf v.name=some .local)(hr:VR r x):
  wpAny (model prog w) A (storeName C.env v.name r) (λaj s'=>Rep prog w C {st with m:=st.m.set v x} s') bS s:=by
 obtain⟨⟨ml,hn,hv⟩,hc⟩:=R.loc;refine wpAny_storeName_local hl hn (λh' hn' hs=>?_) (by rw[hk];rfl);refine⟨⟨R.H.gens,R.H.os,λa o e=>?_,λa o e=>?_,R.H.apart,R.H.two,R.H.sys,R.H.nG⟩,⟨⟨_,hn',λu hu=>?_⟩,λu c h1 h2=>?_⟩,R.lk,R.qn⟩
 ·have:a≠C.env.locals:=λq=>by rw[q,R.lk]at e;cases e
  obtain⟨o',k1,k2⟩:=R.H.kept a o e;exact⟨o',(hs.2 a this).trans k1,k2⟩
 ·have:a≠C.env.locals:=λq=>by rw[q,R.qn]at e;cases e
  obtain⟨ob,h1,h2⟩:=R.H.objs a o e;exact⟨ob,(hs.2 a this).trans h1,h2⟩
 ·show jg (if u.name=v.name then some r else ml u.name) (if u=v then some x else st.m u)
  by_cases q:u=v
  ·subst q
   rw[if_pos rfl,if_pos rfl];exact⟨r,rfl,hr⟩
  ·rw[if_neg (λe=>q (V.dK e)),if_neg q]
   exact hv u hu
 ·obtain⟨y,hi,hy⟩:=hc u c h1 h2
  have hne:u≠v:=λq=>by subst q;rw[hl]at h1;rcases h1 with h1|h1<;>cases h1
  have hcl:c≠C.env.locals:=λq=>by
   subst q;obtain⟨o,ho,hd⟩:=hi;obtain⟨o',es,ep,ho',hd',_⟩:=hn;rw[ho]at ho';cases ho';rw[hd]at hd';cases hd'
  obtain⟨o,ho,hd⟩:=hi;refine⟨y,⟨o,(hs.2 c hcl).trans ho,hd⟩,?_⟩;show jg y (if u=v then some x else st.m u);rw[if_neg hne];exact hy
noncomputable def aV(p:Addr)(Ω:aa)(h:Heap):Addr→Option Obj:=λa=>if a=p then none else bG Ω h a
theorem aA.CS(R:aA prog w K os Ω s){p:Addr}(hp:K p=none):aA prog w (aV p Ω s.heap) os Ω s:=by
 have E:=R.enter;refine⟨E.gens,E.os,λa o e=>?_,E.objs,λa h=>?_,?_,E.sys,λa ha=>?_⟩
 rotate_right
 ·obtain⟨o,h1⟩:=E.nG a ha
  obtain⟨o2,h2⟩:=R.nG a ha;exact⟨o,by unfold aV;rw[if_neg (λq=>by rw[q,hp]at h2;cases h2)];exact h1⟩
 ·unfold aV at e
  split at e
  ·cases e
  ·exact E.kept a o e
 ·unfold aV
  split
  ·rfl
  ·exact E.apart a h
 ·obtain⟨a,o,h1,h2⟩:=R.two
  obtain⟨o',k1,k2⟩:=R.kept a o h2;refine⟨a,o',h1,?_⟩;unfold aV bG;rw[if_neg (λq=>by rw[q,hp]at h2;cases h2),R.gh h2];exact k1
theorem Rep.ER{st:St}(R:Rep prog w C st s){p:Addr}(hp:C.K p=none)(hL:C.env.locals≠p)(hc:∀x,¬s.heap.IsCell p x){az:aa}{s':Shared}(R':aA prog w (aV p st.Ω s.heap) C.qk az s'):Rep prog w C {st with Ω:=az} s':=by
 have hk:∀a o,a≠p→st.Ω a=none→s.heap.get? a=some o→wW C.qk.F s'.heap a o:=λa o h0 h1 h2=>R'.kept a o (by unfold aV bG;rw[if_neg h0,h1];exact h2)
 refine⟨⟨R'.gens,R'.os,λa o e=>?_,R'.objs,λa h=>?_,R.H.two,R'.sys,R.H.nG⟩,R.loc.upTo (λo ho=>hk _ o hL R.qn ho) (λc x o hi ho=>hk c o (λq=>hc x (q▸hi)) (R.H.dP hi) ho),R.lk,?_⟩
 ·obtain⟨o1,h1,h2⟩:=R.H.kept a o e
  obtain⟨o2,h3,h4⟩:=hk a o1 (λq=>by rw[q,hp]at e;cases e) (R.H.gh e) h1;exact⟨o2,h3,h2.trans (h4.mono (sS R a o e))⟩
 ·have:=R'.apart a h
  cases q:C.K a with
  |none=>rfl
  |some o=>
   obtain⟨o1,h1,h2⟩:=R.H.kept a o q;unfold aV bG at this;rw[if_neg (λq'=>by rw[q',hp]at q;cases q),R.H.gh q]at this;dsimp only at this;rw[h1]at this;cases this
 ·cases q:az C.env.locals with
  |none=>exact q
  |some x=>
   exfalso;have h1:=R'.apart C.env.locals (by rw[q];simp);unfold aV bG at h1;rw[if_neg hL,R.qn]at h1;obtain⟨⟨ml,⟨o,es,ep,ho,_⟩,_⟩,_⟩:=R.loc;dsimp only at h1;rw[ho]at h1;cases h1
theorem aA.CT(R:aA prog w K os Ω s){a:Addr}{ob:Obj}{o:bI}(hK:K a=none)(hs:a≠sysModules)(hg:s.heap.get? a=some ob)(ho:OO prog w o ob):aA prog w K os (Ω.set a o) s:=by
 refine⟨R.gens,R.os,R.kept,λb o' e=>?_,λb e=>?_,R.two,by rw[aa.ai (Ne.symm hs)];exact R.sys,R.nG⟩
 ·by_cases h:b=a
  ·subst h;rw[aa.set_same]at e;cases e;exact⟨ob,hg,ho⟩
  ·rw[aa.ai h]at e;exact R.objs b o' e
 ·by_cases h:b=a
  ·subst h;exact hK
  ·rw[aa.ai h]at e;exact R.apart b e
theorem aA.other(R:aA prog w K os Ω s){a:Addr}{h':Heap}{t:Nat}(hK:K a=none)(jb:Ω a=none)(k:∀b o,b≠a→s.heap.get? b=some o→h'.get? b=some o):aA prog w K os Ω {s with heap:=h',toks:=t}:=
 ⟨R.gens,R.os,λb o e=>let ⟨o',h1,h2⟩:=R.kept b o e;⟨o',k b o' (λq=>by rw[q,hK]at e;cases e) h1,h2⟩,λb o e=>let ⟨ob,h1,h2⟩:=R.objs b o e;⟨ob,k b ob (λq=>by rw[q,jb]at e;cases e) h1,h2⟩,R.apart,R.two,R.sys,R.nG⟩
theorem lookup_mem{β:Type}{l:List (Str×β)}{k:Str}{v:β}(e:l.lookup k=some v):(k,v)∈l:=by
 induction l with
 |nil=>cases e
 |cons p l ih=>
  obtain⟨k',v'⟩:=p;rw[List.lookup_cons]at e;cases q:k==k' with
  |true=>rw[q]at e;cases e;rw[eq_of_beq q];exact .head _
  |false=>rw[q]at e;exact .tail _ (ih e)
theorem xG{env:Env}:∀(names:List (Str×NameKind)),(∀n,(n,NameKind.free)∈names→(env.cells.lookup n).isSome=true)→∀Iv:List (Str×Addr),
  ∃cs:List (Str×Addr),(forIn names Iv (λ(x:Str×NameKind) (r:List (Str×Addr))=>if (x.2== .free)=true then do let c←cellOf env x.1;pure (ForInStep.yield ((x.1,c)::r))else pure (ForInStep.yield r)):Sem (List (Str×Addr)))=pure cs∧
   ∀n,cs.lookup n=if (n,NameKind.free)∈names then env.cells.lookup n else Iv.lookup n:=by
 intro names
 induction names with
 |nil=>intro _ Iv;exact⟨Iv,rfl,λn=>by simp⟩
 |cons p names ih=>
  obtain⟨n,k⟩:=p;intro h Iv;rw[List.forIn_cons]
  by_cases hk:k= .free
  ·subst hk
   obtain⟨c,hc⟩:=Option.isSome_iff_exists.mp (h n (.head _));have e1:(cellOf env n:Sem Addr)=pure c:=by unfold cellOf;rw[hc]
   obtain⟨cs,h1,h2⟩:=ih (λm hm=>h m (.tail _ hm)) ((n,c)::Iv);refine⟨cs,?_,λm=>?_⟩
   ·dsimp only
    rw[if_pos (show (NameKind.free==NameKind.free)=true by decide),e1];exact h1
   ·rw[h2 m,List.lookup_cons]
    by_cases hm:(m,NameKind.free)∈names
    ·rw[if_pos hm,if_pos (.tail _ hm)]
    ·rw[if_neg hm]
     cases q:m==n with
     |true=>have q:=eq_of_beq q;subst q;rw[if_pos (.head _),hc]
     |false=>
      rw[if_neg];intro h';cases h' with
      |head=>simp at q
      |tail aj h'=>exact hm h'
  ·obtain⟨cs,h1,h2⟩:=ih (λm hm=>h m (.tail _ hm)) Iv
   refine⟨cs,?_,λm=>?_⟩
   ·dsimp only
    rw[if_neg (by simpa using hk)];exact h1
   ·rw[h2 m]
    by_cases hm:(m,NameKind.free)∈names
    ·rw[if_pos hm,if_pos (.tail _ hm)]
    ·rw[if_neg hm,if_neg]
     intro h';cases h' with
     |head=>exact hk rfl
     |tail aj h'=>exact hm h'
theorem qC{scope:Scope}{env:Env}(h:∀n,(n,NameKind.free)∈scope.names→(env.cells.lookup n).isSome=true):∃cl,closureFor scope env=pure cl∧∀n,cl.lookup n=if (n,NameKind.free)∈scope.names then env.cells.lookup n else none:=by
 obtain⟨cs,h1,h2⟩:=xG (env:=env) scope.names h [];refine⟨cs,?_,λn=>by rw[h2 n];simp⟩;unfold closureFor;rw[←bind_pure (pure cs),←h1]
structure CU(sc scope:Scope)(v:V):Prop where
 kind:scope.kind= .function
 var:scope.names.lookup v.name=some .local
 dP:∀x∈scope.names,x.2≠ .cell
 loc:∀n,(n,NameKind.local)∈scope.names→(n=(".0":Str)∨n=v.name)∧scope.names.lookup n=some .local
 free:∀n,(n,NameKind.free)∈scope.names→(∃u:V,u.name=n∧u≠v)∧cE (sc.names.lookup n)=true∧sc.names.lookup n≠some .local
theorem AG{sc scope:Scope}{v:V}(h:oH sc scope v=true):CU sc scope v:=by
 unfold oH at h;obtain⟨h1,h⟩:=bJ h;obtain⟨h2,h⟩:=bJ h;obtain⟨h3,h4⟩:=bJ h;have h3:=List.all_eq_true.mp h3;refine⟨of_decide_eq_true h1,of_decide_eq_true h2,λx hx=>?_,λn hn=>?_,λn hn=>?_⟩
 ·have:=h3 x hx
  simp only[Bool.and_eq_true]at this;exact λq=>by rw[q]at this;simp at this
 ·have:=h3 _ hn
  simp only[Bool.and_eq_true,Bool.or_eq_true,bne_iff_ne,ne_eq,not_true_eq_false,false_or,beq_iff_eq,decide_eq_true_eq]at this;exact this.1.2
 ·have:=h3 _ hn
  simp only[Bool.and_eq_true,Bool.or_eq_true,bne_iff_ne,ne_eq,not_true_eq_false,false_or,beq_iff_eq,decide_eq_true_eq,List.any_eq_true]at this;obtain⟨_,⟨⟨u,hu1,Mu,W8⟩,h5⟩,h6⟩:=this;exact⟨⟨u,Mu,W8⟩,h5,h6⟩
theorem gy{scope sc:Scope}{n:Str}:(ek scope sc).names.lookup n=(scope.names.lookup n).map λk=>if (k== .free&&sc.kind== .function&&sc.names.lookup n==some .cell)then .cell else k:=by
 unfold ek;dsimp only;generalize scope.names=names
 induction names with
 |nil=>rfl
 |cons p names ih=>
  obtain⟨n',k⟩:=p;rw[List.map_cons];cases e:n==n' with
  |true=>
   have e:=eq_of_beq e;subst e
   by_cases q:(k==NameKind.free&&sc.kind==ScopeKind.function&&List.lookup n sc.names==some NameKind.cell)=true
   ·dsimp only;rw[if_pos q,List.lookup_cons,List.lookup_cons,beq_self_eq_true]
    show some NameKind.cell=some _;dsimp only;rw[if_pos q]
   ·dsimp only;rw[if_neg q,List.lookup_cons,List.lookup_cons,beq_self_eq_true]
    show some k=some _;dsimp only;rw[if_neg q]
  |false=>
   by_cases q:(k==NameKind.free&&sc.kind==ScopeKind.function&&List.lookup n' sc.names==some NameKind.cell)=true
   ·dsimp only;rw[if_pos q,List.lookup_cons,List.lookup_cons,e];exact ih
   ·dsimp only;rw[if_neg q,List.lookup_cons,List.lookup_cons,e];exact ih
noncomputable def Mv(C:Cx)(p:Addr)(st:St)(s:Shared)(scope:Scope)(cl:List (Str×Addr))(L:Addr):Cx:=⟨aV p st.Ω s.heap,compEnvC scope cl L C.env,C.qk⟩
theorem AH(v:V):v.name≠(".0":Str):=by simpa using V.check (p:=λv=>decide (v.name≠(".0":Str))) (by decide+kernel) v
theorem AJ(bf:BF prog w B)(ok:gR B l C A){elt iter:Expr}{px:Pos}{ifs:List Expr}{scope:Scope}{pos:Pos}{v:V}{cl:List (Str×Addr)}(co:CU C.env.scope scope v)(hcl:closureFor scope C.env=pure cl)(ES:∀n,cl.lookup n=if (n,NameKind.free)∈scope.names then C.env.cells.lookup n else none)
  {ee:(af→St→Prop)→St→Prop} {cc:(Bool→St→Prop)→St→Prop}
  (hE:∀C' A',gR B l C' A'→C'.env.scope=ek scope C.env.scope→∀{st:St} {s:Shared} {Q:af→St→Prop},Rep prog w C' st s→ee Q st→wpAny (model prog w) A' (eval elt C'.env) (PE prog w C' Q) bS s)
  (hT:∀C' A',gR B l C' A'→C'.env.scope=ek scope C.env.scope→∀{st:St} {s:Shared} {Q:Bool→St→Prop},Rep prog w C' st s→cc Q st→
   wpAny (model prog w) A' (forIn ifs true λc r=>if r=true then do let ok←isTrue c C'.env (eval c C'.env);pure (ForInStep.yield ok)else pure (ForInStep.yield r)) (PB prog w C' Q) bS s)
  {p:Addr} {I:It} {st:St} {Q:List af→St→Prop} {n:Nat} (R:Rep prog w C st s) (O:Own C st s p I) (h:eH ee cc v Q n I [] ⟨st.m.unset v,st.Ω⟩)
  {RR:Value→Addr→Result→Shared→Prop} (hRR:∀D L s' ys st2 ob,D≠L→s'.heap.get? D=some ob→OO prog w (.list ys) ob→(∃m,s'.heap.Ns L m)→aA prog w (aV p st.Ω s.heap) C.qk st2.Ω s'→aV p st.Ω s.heap D=none→aV p st.Ω s.heap L=none→st2.Ω D=none→st2.Ω L=none→L≠C.env.locals→C.K L=none→D≠sysModules→Q ys st2→RR (.ref D) L (.ok .next) s'):
  wpAny (model prog w) A (newList []) (λacc s₃=>wpAny (model prog w) A (newFunctionEnv scope C.env.globals cl [] C.env.qual none .none (some C.env)) (λcenv s₄=>
   codeAny (model prog w) A (.compStart (.ListComp elt [⟨.Name v.name px,iter,ifs,0⟩] scope pos) 0 (.ref p) acc {cenv with scope:=relabel scope C.env}) (RR acc cenv.locals) s₄) bS s₃) bS s:=by
 refine wpAny_newObj_type (wpAny_newFunctionEnv co.dP (by intro y hy;simp at hy) (λh₁ sV oN=>?_) co.kind);dsimp only at sV oN ⊢;generalize W9:s.heap.push {cls:= .type "list",dict:=none,data:= .seq ([]:List Value).toArray}=H2 at sV oN ⊢;have hC:H2.objs.size=s.heap.objs.size+1:=by rw[←W9,Heap.size_push]
 generalize YK:H2.objs.size=L at sV oN hC ⊢;have hDL:s.heap.objs.size≠L:=by rw[hC];exact Nat.ne_of_lt (Nat.lt_succ_self _)
 have hlt:∀b o,s.heap.get? b=some o→b≠L∧b≠s.heap.objs.size:=λb o e=>⟨by rw[hC];exact Nat.ne_of_lt (Nat.lt_succ_of_lt (Heap.lt_size e)),Nat.ne_of_lt (Heap.lt_size e)⟩
 have old:∀b o,s.heap.get? b=some o→h₁.get? b=some o:=λb o e=>oN.extBut b o (hlt b o e).1 (Heap.get?_push_of_some _ (W9▸Heap.get?_push_of_some _ e))
 have hacc:h₁.get? s.heap.objs.size=some {cls:= .type "list",dict:=none,data:= .seq #[]}:=oN.extBut _ _ hDL (Heap.get?_push_of_some _ (W9▸Heap.get?_push_size _ rfl));have eT:∀a,s.heap.objs.size≤a→aV p st.Ω s.heap a=none:=λa ha=>by
  unfold aV bG
  split
  ·rfl
  ·split
   ·exact Heap.get?_none_of_le ha
   ·rfl
 have Iw:∀a,s.heap.objs.size≤a→C.K a=none:=λa ha=>by
  cases e:C.K a with
  |none=>rfl
  |some o=>obtain⟨o',k1,_⟩:=R.H.kept _ _ e;exact absurd (Heap.lt_size k1) (Nat.not_lt.mpr ha)
 have bE:∀a,s.heap.objs.size≤a→st.Ω a=none:=λa ha=>by
  cases e:st.Ω a with
  |none=>rfl
  |some o=>exact absurd (R.H.lt (a:=a) (by rw[e];simp)) (Nat.not_lt.mpr ha)
 have CV:s.heap.objs.size≤L:=by rw[hC];exact Nat.le_succ _
 let fY:Cx:=Mv C p st s scope cl L
 have zH:aA prog w (aV p st.Ω s.heap) C.qk st.Ω {s with heap:=h₁}:=((R.H.CS O.K).N3 (os':=C.qk) rfl (λaj h=> .inl h) λa ha=>by
  obtain⟨o,h1⟩:=R.sC a ha;refine⟨o,?_⟩;unfold aV;rw[if_neg (λq=>by
   rcases ha with ha|ha
   ·obtain⟨o2,h2⟩:=R.H.nG a ha;rw[q,O.K]at h2;cases h2
   ·exact O.L (ha.symm.trans q))]
  exact h1).ext (t:=s.toks) old
 have hkind:∀u:V,fY.env.kindOf u.name=some .local→u=v:=λu hu=>by
  have hu:(ek scope C.env.scope).names.lookup u.name=some .local:=hu;rw[gy]at hu;cases e:scope.names.lookup u.name with
  |none=>rw[e]at hu;cases hu
  |some k=>
   rw[e]at hu;have hk:k= .local:=by
    simp only[Option.map_some,Option.some.injEq]at hu
    split at hu
    ·cases hu
    ·exact hu
   subst hk
   rcases (co.loc _ (lookup_mem e)).1 with q|q
   ·exact absurd q (AH u)
   ·exact V.dK q
 have hfree:∀u:V,(fY.env.kindOf u.name=some .cell∨fY.env.kindOf u.name=some .free)→(u.name,NameKind.free)∈scope.names:=λu hu=>by
  have mz:(ek scope C.env.scope).names.lookup u.name=some .cell∨(ek scope C.env.scope).names.lookup u.name=some .free:=hu;rw[gy]at mz;cases e:scope.names.lookup u.name with
  |none=>rw[e]at mz;rcases mz with q|q<;>cases q
  |some k=>
   rw[e]at mz;have hk:k= .free:=by
    cases k with
    |free=>rfl
    |cell=>exact absurd rfl (co.dP _ (lookup_mem e))
    |«local»=>rcases mz with q|q<;>cases q
    |globalExplicit=>rcases mz with q|q<;>cases q
    |globalImplicit=>rcases mz with q|q<;>cases q
   subst hk;exact lookup_mem e
 have GN:∀a o,B a=some o→aV p st.Ω s.heap a=some o∧¬C.qk.F a:=λa o e=>by
  have h1:=ok.base a o e;obtain⟨k1,k2⟩:=keep_base ok.base R a o e;refine⟨?_,k2⟩;unfold aV;rw[if_neg (λq=>by have:=h1.1;rw[q,O.K]at this;cases this)];exact k1
 have Mw:∀C',C'.env=fY.env→C'.os=C.qk→(∀a o,aV p st.Ω s.heap a=some o→C'.K a=some o)→gR B l C' A:=λC' he ho hb=>by
  refine⟨?_,λu h1 h2=>?_,λa o e=>?_,?_,ok.room,?_,?_,?_⟩
  rotate_left 2
  ·rw[ho]
   exact⟨hb a o (GN a o e).1,(GN a o e).2⟩
  ·obtain⟨fl,f1,f2⟩:=ok.frs
   refine⟨fl,f1,λe he=>?_⟩;obtain⟨g1,LL,g2,g3⟩:=f2 e he;refine⟨g1,LL,g2, .inl ?_⟩;rw[ho]
   rcases g3 with⟨g3,o,g4,g5⟩|rfl
   ·obtain⟨o',k1,k2⟩:=R.H.kept LL o g4
    refine⟨.inl g3,o',hb _ _ ?_,λvs q=>g5 vs (by rw[←k2.data];exact q)⟩;unfold aV bG;rw[if_neg (λq=>by rw[q,O.K]at g4;cases g4),R.H.gh g4];exact k1
   ·obtain⟨⟨ml,⟨o,es,ep,ho,hd,_⟩,_⟩,_⟩:=R.loc
    refine⟨.inr rfl,o,hb _ _ ?_,λvs q=>by rw[hd]at q;cases q⟩;unfold aV bG;rw[if_neg O.L,R.qn];exact ho
  rotate_right 2
  ·rw[he];exact co.kind
  ·rw[he]at h1 h2 ⊢
   have hf:(u.name,NameKind.free)∈scope.names:=hfree u (by
    cases e:fY.env.kindOf u.name with
    |none=>rw[e]at h2;cases h2
    |some k=>cases k with
     |«local»=>exact absurd e h1
     |cell=>exact .inl rfl
     |free=>exact .inr rfl
     |globalExplicit=>rw[e]at h2;cases h2
     |globalImplicit=>rw[e]at h2;cases h2)
   show (cl.lookup u.name).isSome=true;rw[ES,if_pos hf];obtain⟨_,f1,f2⟩:=co.free _ hf;exact ok.cells u f2 f1
  ·rw[he];exact ok.Jr
  ·rw[he];exact ok.blt
  ·rw[he]
   show (scope.kind== .module&&_)=false;rw[co.kind];rfl
 have Iz:Loc fY.env (st.m.unset v) h₁:=by
  refine⟨⟨_,sV,λu hu=>?_⟩,λu c h1 h2=>?_⟩
  ·rw[hkind u hu]
   show jg _ (if v=v then none else _);rw[if_pos rfl];trivial
  ·have hf:=hfree u h1
   have h2:cl.lookup u.name=some c:=h2;rw[ES,if_pos hf]at h2;obtain⟨⟨u',hu1,Mu⟩,f1,f2⟩:=co.free _ hf;have hcu:C.env.kindOf u.name=some .cell∨C.env.kindOf u.name=some .free:=by
    cases e:C.env.scope.names.lookup u.name with
    |none=>rw[e]at f1;cases f1
    |some k=>cases k with
     |«local»=>exact absurd e f2
     |cell=>exact .inl e
     |free=>exact .inr e
     |globalExplicit=>rw[e]at f1;cases f1
     |globalImplicit=>rw[e]at f1;cases f1
   obtain⟨x,hi,hx⟩:=R.loc.2 u c hcu h2;refine⟨x,hi.keeps old,?_⟩;show jg x (if u=v then none else st.m u);have:u≠v:=λq=>Mu (by rw[←q];exact V.dK hu1)
   rw[if_neg this];exact hx
 have Xa:Rep prog w fY ⟨st.m.unset v,st.Ω⟩ {s with heap:=h₁}:=⟨zH,Iz,eT L CV,bE L CV⟩;have hpL:p≠L:=by obtain⟨o,ho⟩:=O.at_.at;exact(hlt p o ho).1
 have Oa:p≠s.heap.objs.size:=by obtain⟨o,ho⟩:=O.at_.at;exact(hlt p o ho).2
 have Mx:Own fY ⟨st.m.unset v,st.Ω⟩ {s with heap:=h₁} p I:=by
  refine⟨?_,?_,O.Ω,?_⟩
  ·obtain⟨o,ho⟩:=O.at_.at
   exact O.at_.same ((old p o ho).trans ho.symm)
  ·show aV p st.Ω s.heap p=none
   unfold aV;rw[if_pos rfl]
  ·show L≠p
   exact Ne.symm hpL
 have IA:∃a o,1<a∧fY.K a=some o:=zH.two
 have hFp:¬C.qk.F p:=λq=>by
  obtain⟨o,h1⟩:=zH.nG p q;unfold aV at h1;rw[if_pos rfl]at h1;cases h1
 have hFD:¬C.qk.F s.heap.objs.size:=λq=>by
  obtain⟨o,h1⟩:=zH.nG _ q;rw[eT _ (Nat.le_refl _)]at h1;cases h1
 have loop:∀s₃:Shared,s₃={s with heap:=h₁,toks:=s.toks+([]:List (Str×Value)).length}→
   codeAny (model prog w) A (.compLoop (.ListComp elt [⟨.Name v.name px,iter,ifs,0⟩] scope pos) 0 (.ref p) (.ref s.heap.objs.size) fY.env) (RR (.ref s.heap.objs.size) L) s₃:=by
  intro s₃ aH;subst aH;refine codeAny_compLoop_tests (I:=λn s'=>∃I ys ob st',Rep prog w fY st' s'∧Own fY st' s' p I∧s'.heap.get? s.heap.objs.size=some ob∧OO prog w (.list ys) ob∧st'.Ω s.heap.objs.size=none∧eH ee cc v Q n I ys st'∧ys.length<n+ys.length) ?_ n
   ⟨I,[],_,_,Xa,Mx,hacc,⟨#[],0,rfl,trivial⟩,bE _ (Nat.le_refl _),h,?_⟩
  ·intro n s' aH;obtain⟨I,ys,ob,st',R',O',hg,My,ET,hcd,_⟩:=aH
   refine Ez hcd (λen hcd=>?_) λk' x I' hk en hcd=>?_
   ·refine ck (iV R' ok.room.1 O' en) λo s₁ ⟨CW,⟨h',t',e1,e2⟩,e⟩=>?_
    dsimp only at e;subst e;have hg₂:s₁.heap.get? s.heap.objs.size=some ob:=by rw[e1];exact e2 _ _ (Ne.symm Oa) hg
    obtain⟨⟨ml,hml,_⟩,_⟩:=CW.loc;exact hRR _ _ _ ys st' ob hDL hg₂ My ⟨_,hml⟩ CW.H (eT _ (Nat.le_refl _)) (eT L CV) ET CW.qn (Ne.symm (Nat.ne_of_lt (Nat.lt_of_lt_of_le R.loc.lt CV))) (Iw L CV) R.H.big hcd
   ·refine ck (iV R' ok.room.1 O' en) λo s₁ ⟨CW,⟨h',t',e1,e2⟩,r,e,hr,hI⟩=>?_
    subst e;obtain⟨oi,Js⟩:=hI.at;have hg₂:s₁.heap.get? s.heap.objs.size=some ob:=by rw[e1];exact e2 _ _ (Ne.symm Oa) hg
    have Mz:=CW.hold O'.K Js O'.Ω O'.L;have Ob:(fY.hold p oi).K s.heap.objs.size=none:=by
     show (if s.heap.objs.size=p then some oi else aV p st.Ω s.heap s.heap.objs.size)=none;rw[if_neg (Ne.symm Oa)];exact eT _ (Nat.le_refl _)
    have Xb:=Mz.hold Ob hg₂ ET (show L≠s.heap.objs.size from Ne.symm hDL);have B0:gR B l ((fY.hold p oi).hold s.heap.objs.size ob) A:=Mw _ rfl rfl λa o this=>by
     show (if a=s.heap.objs.size then some ob else if a=p then some oi else aV p st.Ω s.heap a)=some o;rw[if_neg (λq=>by rw[q,eT _ (Nat.le_refl _)]at this;cases this),if_neg (λq=>by rw[q]at this;unfold aV at this;rw[if_pos rfl]at this;cases this)];exact this
    have hvl:((fY.hold p oi).hold s.heap.objs.size ob).env.kindOf v.name=some .local:=by
     show (ek scope C.env.scope).names.lookup v.name=some .local;rw[gy,co.var];rfl
    refine wpAny_assign_Name (ck (cM (C:=(fY.hold p oi).hold s.heap.objs.size ob) Xb co.kind hvl hr) λaj s₂ Xc=>?_);refine ck (hT _ A B0 rfl Xc hcd) λt s₃ ⟨oO,EU,hc⟩=>?_
    have back:∀{oO:St} {s₃:Shared},Rep prog w ((fY.hold p oi).hold s.heap.objs.size ob) oO s₃→Rep prog w fY oO s₃∧Own fY oO s₃ p I'∧s₃.heap.get? s.heap.objs.size=some ob∧oO.Ω s.heap.objs.size=none:=λ{oO s₃} EU=>by
     obtain⟨IB,k1,k2⟩:=EU.gV hFD Ob Mz.H.two;obtain⟨CX,k3,k4⟩:=IB.gV hFp O'.K IA;exact⟨CX,⟨hI.same (k3.trans Js.symm),O'.K,k4,O'.L⟩,k1,k2⟩
    cases t with
    |false=>
     rw[if_neg (by decide)]at hc ⊢;obtain⟨CX,AK,k1,k2⟩:=back EU;exact⟨k',hk,I',ys,ob,oO,CX,AK,k1,My,k2,hc,by cases k' with|zero=>exact hc.elim|succ n=>exact Sk⟩
    |true=>
     rw[if_pos rfl]at hc ⊢;refine ck (hE _ A B0 rfl EU hc) λy s₄ ⟨z,GO,hz,IB,hlen,hc'⟩=>?_
     obtain⟨CX,AK,k1,k2⟩:=back IB;obtain⟨items,c,rfl,hvs⟩:=My;have hys:k'≠0:=λq=>by subst q;exact hc'.elim
     refine append_at k1 (λh' hs ho=>?_) ?_
     ·have Xd:Rep prog w fY GO {s₄ with heap:=h'}:=CX.wX (t:=s₄.toks) (eT _ (Nat.le_refl _)) k2 (show L≠_ from Ne.symm hDL) (λx ⟨oc,e1,e2⟩=>by rw[k1]at e1;cases e1;cases e2) (λb o hb e=>(hs.2 b hb).trans e)
      refine⟨k',hk,I',ys++[z],_,GO,Xd,⟨AK.at_.same (hs.2 p Oa),AK.K,AK.Ω,AK.L⟩,ho,OO.uL ?_,k2,hc',Sl hys⟩;rw[Array.toList_push];exact hvs.append ⟨hz,trivial⟩
     ·have:items.size=ys.length:=by rw[←Array.length_toList];exact hvs.length
      rw[this];show _≤2^24;unfold lim at hlen;exact Nat.le_of_lt_succ (Nat.lt_of_lt_of_le hlen (by decide))
  ·cases n with
   |zero=>exact h.elim
   |succ n=>simp
 exact codeAny_compStart_list (loop _ rfl) (AF (s:={s with heap:=h₁,toks:=_}) Mx.at_ (loop _ rfl))
end
section
variable{prog:Program}{w:World}{B:Addr→Option Obj}{l:Nat}{C:Cx}{A:Around}{s:Shared}
theorem sW{me:ME}{x:Expr}:∀a b p,fill me x≠ .Slice a b none p:=λa b p q=>by
 have:=xC (me:=me) (e:=x);rw[q]at this;cases this
theorem oQ{k:IK}{me mb:ME}{e:Expr}{env:Env}(x:Value):foldedSetIterable (k.fill (fill me) (fill mb) e) env x=pure x:=by
 cases k with
 |ex=>cases me<;>rfl
 |_=>rfl
theorem Rep.AL{st:St}(R:Rep prog w C st s){a:Addr}(h:C.K a=none):¬C.os.F a:=λq=>by
 obtain⟨o,h1⟩:=R.H.nG a q;rw[h]at h1;cases h1
theorem gR.hold(ok:gR B l C A){a:Addr}{o:Obj}(ha:C.K a=none):gR B l (C.hold a o) A:=by
 have hk:∀b ob,C.K b=some ob→(C.hold a o).K b=some ob:=λb ob e=>by
  show (if b=a then some o else C.K b)=some ob;rw[if_neg (λq=>by rw[q,ha]at e;cases e)];exact e
 refine⟨ok.kind,ok.cells,λb ob e=>⟨hk b ob (ok.base b ob e).1,(ok.base b ob e).2⟩,?_,ok.room,ok.Jr,ok.blt,ok.inter⟩;obtain⟨fl,f1,f2⟩:=ok.frs;refine⟨fl,f1,λe he=>?_⟩;obtain⟨g1,L,g2,g3⟩:=f2 e he;refine⟨g1,L,g2,?_⟩
 rcases g3 with⟨g3,ob,g4,g5⟩|g3
 ·exact .inl ⟨g3,ob,hk L ob g4,g5⟩
 ·exact .inr g3
theorem vf(bf:BF prog w B){fv:Value}{f:af}{xs:List af}{Q:af→aa→Prop}{st:St}(hf:VR fv f)(R:Rep prog w C st s)(hb:∀a o,B a=some o→C.K a=some o∧¬C.os.F a)(hc:aZ prog w B l f xs Q st.Ω):
  ∃k,(k=Keeper.frame∨k=Keeper.machine∨k=Keeper.boundFrame)∧Looks (model prog w) s.heap (keeperOf fv) k:=by
 have hbd:∀{a b p},st.Ω a=some (.bound b p)→∃k,(k=Keeper.frame∨k=Keeper.machine∨k=Keeper.boundFrame)∧Looks (model prog w) s.heap (keeperOf (.ref a)) k:=λ{a b p} e=>by
  obtain⟨ob,h1,h2,h3⟩:=R.H.objs _ _ e;refine⟨.machine, .inr (.inl rfl),(Looks.ld (part:=none) h1).andThen ?_⟩;rw[h3,h2];cases b<;>exact Looks.of_pure rfl
 cases hc with
 |bi=>cases hf;exact⟨.machine, .inr (.inl rfl),Looks.of_pure rfl⟩
 |ty=>cases hf;exact⟨.machine, .inr (.inl rfl),Looks.of_pure rfl⟩
 |get e=>exact VR.bg hf (hbd e)
 |cont e=>exact VR.bg hf (hbd e)
 |fn ha=>
  obtain⟨k,hk,L⟩:=looks_keep (M:=model prog w) (KX.keep w.params _ ha) (R.H.eU bf hb);exact VR.bg hf ⟨k,hk.imp id .inl,L⟩
theorem oR(bf:BF prog w B)(ok:gR B l C A){fv:Value}{f:af}{vs:List Value}{xs:List af}{st:St}{Q:af→St→Prop}(hf:VR fv f)(hv:aP vs xs)(R:Rep prog w C st s)
  (h:aZ prog w B l f xs (λr Ω=>Q r {st with Ω}) st.Ω):wpAny (model prog w) A (call fv vs) (PE prog w C Q) bS s:=
 CR ok R λK os hK hfr RH=>sR bf hK hfr ok.room RH hf hv h
theorem oS(bf:BF prog w B)(ok:gR B l C A){fv:Value}{f:af}(hf:VR fv f){first:List Value}{B3:List af}(kN:aP first B3){x:Sem Value}{rest:List (Bool×Sem Value)}{pos:Pos}{Q:af→St→Prop}(hplain:rest.any (·.1)=false)
  (h:wpAny (model prog w) A (spliced ((false,x)::rest)) (λvs s1=>∃xs st1,aP vs xs∧Rep prog w C st1 s1∧aZ prog w B l f (B3++xs) (λr Ω=>Q r {st1 with Ω}) st1.Ω) bS s):
  wpAny (model prog w) A (callWith pos fv first ((false,x)::rest) []) (PE prog w C Q) bS s:=by
 refine callWith_of (P:=λh=>∃k,(k=Keeper.frame∨k=Keeper.machine∨k=Keeper.boundFrame)∧Looks (model prog w) h (keeperOf fv) k) (by show ((false||rest.any (·.1))||false)=false;rw[hplain];rfl) (λaj p=>p) ?_;refine evalArgs_plain (wpAny_mono h (λvs s1 hx=>?_) λaj aj x=>x);obtain⟨xs,st1,h1,R1,h3⟩:=hx;exact⟨vf bf hf R1 ok.base h3,oR bf ok hf (kN.append h1) R1 h3⟩
theorem nA(bf:BF prog w B)(ok:gR B l C A){fv:Value}{f:af}(hf:VR fv f){first:List Value}{B3:List af}(kN:aP first B3){pos:Pos}{st:St}{Q:af→St→Prop}(R:Rep prog w C st s)
  (h:aZ prog w B l f B3 (λr Ω=>Q r {st with Ω}) st.Ω):
  wpAny (model prog w) A (callWith pos fv first [] []) (PE prog w C Q) bS s:=by
 refine callWith_of (P:=λh=>∃k,(k=Keeper.frame∨k=Keeper.machine∨k=Keeper.boundFrame)∧Looks (model prog w) h (keeperOf fv) k) rfl (λaj p=>p) ?_;exact evalArgs_nil3 ⟨vf bf hf R ok.base h,by rw[List.append_nil];exact oR bf ok hf kN R h⟩
theorem gz(bf:BF prog w B)(ok:gR B l C A){elt iter:Expr}{px:Pos}{ifs:List Expr}{scope:Scope}{pos:Pos}{v:V}{k:IK}{a b:ME}
  (ha:oM prog w C A (fill a) (bM a C.env.scope) (ev prog w B l a)) (hb:oM prog w C A (fill b) (bM b C.env.scope) (ev prog w B l b)) (hit:k.ok (fill a) (bM a C.env.scope) (bM b C.env.scope) C.env.scope iter=true) (hco:oH C.env.scope scope v=true)
  {ee:(af→St→Prop)→St→Prop} {cc:(Bool→St→Prop)→St→Prop}
  (hE:∀C' A',gR B l C' A'→C'.env.scope=ek scope C.env.scope→∀{st:St} {s:Shared} {Q:af→St→Prop},Rep prog w C' st s→ee Q st→wpAny (model prog w) A' (eval elt C'.env) (PE prog w C' Q) bS s)
  (hT:∀C' A',gR B l C' A'→C'.env.scope=ek scope C.env.scope→∀{st:St} {s:Shared} {Q:Bool→St→Prop},Rep prog w C' st s→cc Q st→
   wpAny (model prog w) A' (forIn ifs true λc r=>if r=true then do let ok←isTrue c C'.env (eval c C'.env);pure (ForInStep.yield ok)else pure (ForInStep.yield r)) (PB prog w C' Q) bS s)
  {st:St} {Q:af→St→Prop} (R:Rep prog w C st s)
  (h:w6 k (ev prog w B l a) (ev prog w B l b) (λI s1=>∃n,eH ee cc v (λys s2=>∀r,s2.Ω r=none→Q (.ref r) ⟨s1.m,s2.Ω.set r (.list ys)⟩) n I [] ⟨s1.m.unset v,s1.Ω⟩) st)
  {use:Option (Value→Sem Unit)} {QQ:Value→Shared→Prop}
  (hQ:∀D L ms (s':Shared) st',s'.heap.Ns L ms→C.K L=none→st'.Ω L=none→L≠C.env.locals→D≠L→Rep prog w C st' s'→Q (.ref D) st'→match use with
   |none=>∀h',Heap.SameBut L s'.heap h'→QQ (.ref D) {s' with heap:=h'}
   |some u=>wpAny (model prog w) A (u (.ref D)) (λaj s''=>∃m,s''.heap.Ns L m∧∀h',Heap.SameBut L s''.heap h'→QQ .none {s'' with heap:=h'}) bS s'):
  wpAny (model prog w) A (comprehension (.ListComp elt [⟨.Name v.name px,k.fill (fill a) (fill b) iter,ifs,0⟩] scope pos) scope C.env (firstIterPos [⟨.Name v.name px,k.fill (fill a) (fill b) iter,ifs,0⟩] pos) (newList []) false (firstIter [⟨.Name v.name px,k.fill (fill a) (fill b) iter,ifs,0⟩] C.env) use) QQ bS s:=by
 have co:=AG hco;obtain⟨cl,hcl,ES⟩:=qC (scope:=scope) (env:=C.env) λn hn=>by
  obtain⟨⟨u,hu,_⟩,f1,f2⟩:=co.free n hn;subst hu;exact ok.cells u f2 f1
 refine wpAny_comprehension_free (g:=⟨.Name v.name px,k.fill (fill a) (fill b) iter,ifs,0⟩) (gs:=[]) rfl (λx=>oQ x) hcl co.kind (λx hx hl=>by
  obtain⟨n,kd⟩:=x;dsimp only at hl;subst hl;exact(co.loc n hx).2) ?_
 show wpAny _ _ (eval (k.fill (fill a) (fill b) iter) C.env) _ _ _;refine ay (vd bf ok ha hb iter hit R h) λx s1 h1=>ay h1 λit s2 ⟨p,I,st2,e,R2,O,n,hn⟩=>?_
 subst e;refine AJ (RR:=λacc C'=>compPost (model prog w) A bS use QQ acc C') bf ok co hcl ES hE hT R2 O hn ?_;intro D L s' ys st3 ob hDL hg My ⟨ms,hms⟩ RH Ob hKL ET Xe YK hCL hDs hq;have R3:Rep prog w C ⟨st2.m,st3.Ω.set D (.list ys)⟩ s':=R2.ER O.K O.L O.at_.dP (RH.CT Ob hDs hg My);have:=hQ D L ms s' _ hms hCL (by show st3.Ω.set D _ L=none;rw[aa.ai (Ne.symm hDL)];exact Xe) YK hDL R3 (hq D ET);unfold compPost;cases use with
 |none=>exact⟨ms,hms,this⟩
 |some u=>exact this
theorem oU{env:Env}{pos:Pos}{st:St}{E:Value→Shared→Prop}:∀(is:List Int) (es:List Expr) {s:Shared} {Q:List Value→Shared→Prop},Rep prog w C st s→
  (∀vs s',aP vs (av is)→Rep prog w C st s'→Q vs s')→wpAny (model prog w) A (spliced (backTo pos (starEach (sQ is es) env))) Q E s
 |[],aj,s,Q,R,h=>spliced_nil (h [] s trivial R)
 |i::is,es,s,Q,R,h=>spliced_cons (wpAny_Constant_int (k:=ql (es.headD default)) (pos:=(es.headD default).pos) (oU is es.tail R.toks λvs s' hv R'=>h _ _ ⟨VR.mkInt,hv⟩ R'))
theorem oV{me:ME}{e:Expr}{env:Env}{whole:Sem Value}(h1:fL me=true)(h5:∀op a b,me≠ .cmp op a b):
  isTrue (fill me e) env whole=(do let v←whole;standAt (fill me e).pos;holding [v] (truthy v)):=by
 cases me<;>first|(cases h1;done)|exact absurd rfl (h5 _ _ _)|rfl
end
theorem gY.ofBool{b:Bool}{Q:Bool→Prop}{Ω:aa}(h:gY Q Ω (.bool b)):Q b:=by cases h;assumption
theorem oW(items:Array Value)(k:Nat):slicePick items none (some (k:Int)) none=(items.toList.take k).toArray:=by
 by_cases h:k≤items.size
 ·exact slicePick_upto items k h
 ·have e:slicePick items none (some (k:Int)) none=slicePick items none (some (items.size:Int)) none:=by
   unfold slicePick sliceBounds;have h1:(k:Int)>items.size:=Vu h;simp
   congr 2
   omega
  rw[e,slicePick_upto items items.size (Nat.le_refl _),List.take_of_length_le (by simp),List.take_of_length_le (by simp;exact Nat.le_of_lt (Nat.lt_of_not_le h))]
theorem gA{prog:Program}{w:World}{A:Around}{E:Value→Shared→Prop}{s:Shared}{env:Env}{value:Expr}{attr:Str}{pos:Pos}{Q:Value→Shared→Prop}(ho:cH value=false)
  (h:wpAny (model prog w) A (eval value env) (λo s₁=>wpAny (model prog w) A (getAttr o attr true) Q E s₁) E s):wpAny (model prog w) A (eval (.Attribute value attr pos) env) Q E s:=by
 rw[arm_eval_Attribute,fu ho];refine wpAny_bind (wpAny_mono h (λo s₁ h₁=>wpAny_bind (wpAny_standAt (wpAny_bind (wpAny_holding (wpAny_mono h₁ (λr s₂ h₂=>?_) λaj aj x=>x))))) λaj aj x=>x);exact wpAny_bind (wpAny_letTemporaryGo (wpAny_pure h₂))
namespace KX
variable(P:Params)
theorem fget(C:Addr)(m:MN)(f:Addr)(h:jq C m=some f):specialIn (KF P) (.ref f) "__get__"=some (some (.builtin "function.__get__"))∧takesIn (KF P) (.ref f)=some false∧copiedNames.contains m.name=false∧hasDictIn (KF P) C=true∧fnIn (KF P) f=true:=by
 refine zx h ?_ ?_ ?_ ?_ ?_ ?_ ?_ ?_ ?_ ?_ ?_ ?_ ?_<;>exact⟨by kernel_rfl!,by kernel_rfl!,by decide+kernel,by kernel_rfl!,by kernel_rfl!⟩
end KX
section
variable{prog:Program}{w:World}{B:Addr→Option Obj}{l:Nat}{C:Cx}{A:Around}{s:Shared}
theorem mO(bf:BF prog w B)(hb:∀a o,B a=some o→C.K a=some o∧¬C.os.F a){m:MN}{v:Value}{x:af}{f:Addr}{st:St}(R:Rep prog w C st s)(hv:VR v x)(h:fG st.Ω m x (.ref f)):
  wpAny (model prog w) A (getAttr v m.name true) (λfv s'=>∃q,fv= .ref q∧s'.heap.get? q=some (methodObj (.ref f) v)∧Rep prog w C st s'∧C.K q=none∧st.Ω q=none∧C.env.locals≠q∧fnIn (KF w.params) f=true) bS s:=by
 cases h with
 |@own p Cl d fa k ms e ed h1=>
  obtain⟨hC,g1,g2,g3⟩:=KX.Mp w.params Cl m f h1;obtain⟨k1,k2,k3,k4,k5⟩:=KX.fget w.params Cl m f h1;obtain⟨es,n,I,hd,hk',hns⟩:=R.H.sL e ed;have X:=R.H.eU bf hb;have Mq:=plainGet_of (KX.pg w.params hC m.name);exact VR.bg hv (get_bind X I Mq.1 (findObj_fn k4 g1 k1 k2 k3 (by rw[lookIn_dict,hns.2 m.name (λt aj=>uR t m)])) Mq.2
   (wpAny_call (fn_get (s:={s with toks:=s.toks+1}) X g2 (handed_on rfl ⟨_,rfl,Heap.get?_push_size _ rfl,R.push _,R.H.eT,R.H.bE,Nat.ne_of_lt R.loc.lt,k5⟩))))
theorem oX{st:St}{v:Value}{y:af}{K:List af→Prop}{Q:List Value→Shared→Prop}(R:Rep prog w C st s)(hv:VR v y)(h:uI K st.Ω y)
  (hq:∀ys vs s',K ys→aP vs ys→Rep prog w C st s'→Q vs s'):StarOf (model prog w) A bS v Q s:=by
 unfold StarOf notIterableAtAll;cases h with
 |list e hl hK=>
  obtain⟨items,n,g1,g2,g3⟩:=R.H.list e;exact VR.bg hv (wpAny_bind (wpAny_specialOf (cB g1).typeIs PySem.F.slot_list_iter.lookup (wpAny_pure ⟨rfl,wpAny_collect_seq _ (.inl rfl) g1 rfl rfl (λh' hk=>hq _ _ _ hK g2 (R.ext (t:=s.toks) hk)) (dU (by rw[g3];exact hl))⟩)))
 |tup e hl hK=>
  obtain⟨items,n,g1,g2,g3⟩:=R.H.tup e;have hT:∀{p},s.heap.get? p=some {cls:= .type "tuple",data:= .seq items n}→s.TypeIs (.ref p) "tuple":=λg1=>⟨_,g1,rfl⟩
  exact VR.bg hv (wpAny_bind (wpAny_specialOf (hT g1) PySem.F.slot_tuple_iter.lookup (wpAny_pure ⟨rfl,wpAny_collect_seq _ (.inr rfl) g1 rfl rfl (λh' hk=>hq _ _ _ hK g2 (R.ext (t:=s.toks) hk)) (dU (by rw[g3];exact hl))⟩)))
theorem mP{q f:Addr}{v:Value}{h:Heap}(X:(KF w.params).In h)(hg:h.get? q=some (methodObj (.ref f) v))(hf:fnIn (KF w.params) f=true):Looks (model prog w) h (keeperOf (.ref q)) .boundFrame:=by
 refine(Looks.ld (part:=none) hg).andThen ?_;unfold fnIn at hf
 split at hf
 ·rename_i e
  dsimp only;rw[if_neg (by decide)];exact(Looks.ld (part:=none) (X _ _ e)).andThen (Looks.of_pure rfl)
 ·cases hf
theorem iA(bf:BF prog w B)(ok:gR B l C A){q f:Addr}{v:Value}{x:af}{vs:List Value}{xs:List af}{st:St}{Q:af→St→Prop}(hg:s.heap.get? q=some (methodObj (.ref f) v))(hv:VR v x)(hvs:aP vs xs)(R:Rep prog w C st s)(hl:l<60)
  (h:aF prog w B (l+1) (.ref f) (x::xs) (λr Ω=>Q r {st with Ω}) st.Ω):wpAny (model prog w) A (call (.ref q) vs) (PE prog w C Q) bS s:=
 CR ok R λK os hK hfr RH=>wpAny_call (method_call hg (h K os A s _ (v::vs) hK hfr (ok.room.up hl) rfl ⟨hv,hvs⟩ RH))
end
end
section
set_option maxHeartbeats 4000000
open PySem PySem.W PyProof.Rows PySem.Calls
namespace MP
theorem AM:Slot "map" "__init__" "object.__init__":=
 .of (owner:="object") (n:="__init__") (by rw[typeLookup_type,builtinLookup_eq_fast];kernel_rfl) (by decide+kernel) (by decide+kernel) (by decide+kernel)
  (by first|exact .inl (by decide+kernel)|exact .inr (by decide+kernel)) (by rw[isSubtype_type];kernel_rfl)
theorem rQ:Slot "map" "__iter__" "map.__iter__":=
 .of (owner:="map") (n:="__iter__") (by rw[typeLookup_type,builtinLookup_eq_fast];kernel_rfl) (by decide+kernel) (by decide+kernel) (by decide+kernel)
  (by first|exact .inl (by decide+kernel)|exact .inr (by decide+kernel)) (by rw[isSubtype_type];kernel_rfl)
theorem slot_next:Slot "map" "__next__" "map.__next__":=
 .of (owner:="map") (n:="__next__") (by rw[typeLookup_type,builtinLookup_eq_fast];kernel_rfl) (by decide+kernel) (by decide+kernel) (by decide+kernel)
  (by first|exact .inl (by decide+kernel)|exact .inr (by decide+kernel)) (by rw[isSubtype_type];kernel_rfl)
theorem AN(a:Value):argsOk "map.__iter__" ⟨[a],[]⟩:=by unfold argsOk;kernel_rfl
theorem args_next(a:Value):argsOk "map.__next__" ⟨[a],[]⟩:=by unfold argsOk;kernel_rfl
theorem entry_next:entryFor table "map.__next__"=some Builtin.«map.__next__»:=entryFor_of_tree (by kernel_rfl)
theorem AP:entryFor table "map.__new__"=some Builtin.«map.__new__»:=entryFor_of_tree (by kernel_rfl)
theorem xH:entryFor table "map.__iter__"=some Builtin.«dict_keyiterator.__iter__»:=
 entryFor_alias (id':="dict_keyiterator.__iter__") (by kernel_rfl) (by first|rfl|decide+kernel|(unfold String.splitOn;simp+decide [String.splitOnAux])) (by decide+kernel) (by kernel_rfl)
theorem mro:mroOf (.type "map")=pure [.type "map", .type "object"]:=by rw[mroOf_type];kernel_rfl
theorem xJ:typeLookup (.type "map") "__new__"=pure (some (.builtin "map.__new__")):=by rw[typeLookup_type,builtinLookup_eq_fast];kernel_rfl
theorem called:TypeCalled "map" "map.__new__" "object.__init__":=
 ⟨by decide+kernel,by decide+kernel,⟨_,_,mro⟩,madeBy_type mro xJ (by decide+kernel),by decide+kernel,by rw[isSubtype_type];kernel_rfl,AM⟩
theorem typeCall(a b:Value):checkTypeCall "map" ⟨[a,b],[]⟩=pure ():=by kernel_rfl
theorem EW(a b:Value):checkBuiltinCall "map.__new__" ⟨[.type "map",a,b],[]⟩=pure ():=by kernel_rfl
theorem sub:isSubtype (.type "map") (.type "map")=pure true:=by rw[isSubtype_type];kernel_rfl
theorem IC:typeLookup (.type "map") "__len__"=pure none:=by rw[typeLookup_type,builtinLookup_eq_fast];kernel_rfl
theorem EX:typeLookup (.type "map") "__length_hint__"=pure none:=by rw[typeLookup_type,builtinLookup_eq_fast];kernel_rfl
end MP
noncomputable abbrev iB(h:Heap)(z T:Addr)(f:Value):Prop:=h.get? z=some {cls:= .type "map",dict:=none,data:= .fields #[.ref T,f],slots:=#[]}
noncomputable abbrev rR(h:Heap)(T:Addr)(a:Value):Prop:=h.get? T=some {cls:= .type "tuple",data:= .seq #[a]}
noncomputable abbrev zI(h:Heap)(l:Addr):Heap:=h.push {cls:= .type "list_iterator",data:= .fields #[.ref l, .int 0 0]}
noncomputable abbrev zJ(h:Heap)(l:Addr):Heap:=(zI h l).push {cls:= .type "tuple",data:= .seq #[.ref h.objs.size]}
noncomputable abbrev zK(h:Heap)(f:Value)(l:Addr):Heap:=(zJ h l).push {cls:= .type "map",data:= .fields #[.ref (zI h l).objs.size,f]}
theorem qD(f:Value)(l:Addr)(xs:Array Value):
  Meets (Builtin.«map.__new__» ⟨[.type "map",f, .ref l],[]⟩) (λaj R s=>s.heap.IsList l xs∧
   R (.ok (.ret (.ref (zJ s.heap l).objs.size))) {s with heap:=zK s.heap f l}):=
 .of_wp λprog w A R s h=>by
  obtain⟨hp,g,d,tk,os⟩:=s;obtain⟨hl,h⟩:=h;have hsub:=MP.sub;have hL:Heap.IsList (Shared.heap ⟨hp,g,d,tk,os⟩) l xs:=hl
  wp_walk using wpAny_pyIter_list hL
  exact⟨_,rfl,h⟩
section
variable{prog:Program}{w:World}{A:Around}{E:Value→Shared→Prop}{s:Shared}
theorem CZ{f:Value}{l:Addr}{xs:Array Value}{Q:Value→Shared→Prop}(hl:s.heap.IsList l xs)
  (h:∀h',iB h' (s.heap.objs.size+2) (s.heap.objs.size+1) f→rR h' (s.heap.objs.size+1) (.ref s.heap.objs.size)→h'.IsListIter s.heap.objs.size l 0→
   (∀c o,s.heap.get? c=some o→h'.get? c=some o)→Q (.ref (s.heap.objs.size+2)) {s with heap:=h'}):
  wpAny (model prog w) A (call (.type "map") [f, .ref l]) Q E s:=by
 refine callType_new MP.called (by decide) (MP.typeCall _ _) (MP.EW _ _) (λobj=>F.args_object_init_3 obj _ _) MP.AP
  (qD f l xs) ⟨hl,?_⟩
 have z1:(zI s.heap l).objs.size=s.heap.objs.size+1:=Heap.size_push ..;have z2:(zJ s.heap l).objs.size=s.heap.objs.size+2:=by rw[Heap.size_push,z1]
 have g3:(zK s.heap f l).get? (zJ s.heap l).objs.size=some _:=Heap.get?_push_size _ rfl;have g2:(zK s.heap f l).get? (zI s.heap l).objs.size=some _:=Heap.get?_push_of_some _ (Heap.get?_push_size _ rfl);have g1:(zK s.heap f l).get? s.heap.objs.size=some _:=Heap.get?_push_of_some _ (Heap.get?_push_of_some _ (Heap.get?_push_size _ rfl));show _∧_;rw[z1,z2]at g3;rw[z1]at g2;rw[z2];exact⟨⟨_,g3,rfl⟩,h _ g3 g2 ⟨_,g1,rfl,rfl⟩ λc o x=>Heap.get?_push_of_some _ (Heap.get?_push_of_some _ (Heap.get?_push_of_some _ x))⟩
theorem qE{z T it l:Addr}{k:Nat}{xs:Array Value}{x f:Value}{Q:Value→Shared→Prop}
  (hz:iB s.heap z T f) (hT:rR s.heap T (.ref it)) (h1:s.heap.IsListIter it l k) (hl:s.heap.IsList l xs) (hx:xs[k]?=some x)
  (hQ:∀h',h'.IsListIter it l (k+1)→Heap.SameBut it s.heap h'→wpAny (model prog w) A (call f [x]) Q E {s with heap:=h'}):
  wpAny (model prog w) A (Builtin.«map.__next__» ⟨[.ref z],[]⟩) (λfin s'=>∃v,fin= .done (.ret v)∧Q v s') E s:=by
 have MB:z≠it:=λe=>by subst e;obtain⟨o,ho,hc,_⟩:=h1;rw[hz]at ho;cases ho;simp at hc
 show wpAny _ _ (field (.ref z) 0>>=_) _ _ _;refine wpAny_bind (wpAny_field hz rfl (x:= .ref T) rfl ?_);refine wpAny_bind (wpAny_seqItems hT rfl ?_);dsimp only;rw[←Array.forIn_toList];simp only[List.forIn_cons,List.forIn_nil];refine wpAny_bind (wpAny_bind (wpAny_bind (wpAny_holding (wpAny_nextOf_list_item h1 hl hx λh' h1' hs=>wpAny_pure ?_))));refine wpAny_pure ?_;have hz':iB h' z T f:=hs.extBut _ _ MB hz;refine wpAny_bind (wpAny_field (s:={s with heap:=h'}) hz' rfl (x:=f) rfl ?_);refine wpAny_bind (wpAny_holding (wpAny_mono (hQ h' h1' hs) (λv s' hv=>?_) λaj aj x=>x));refine wpAny_bind (wpAny_letGo ?_);exact wpAny_pure ⟨v,rfl,hv⟩
theorem sX{z T it l:Addr}{k:Nat}{xs:Array Value}{f:Value}{Q:PySem.Fin→Shared→Prop}(hh:A.handled=none)
  (hz:iB s.heap z T f) (hT:rR s.heap T (.ref it)) (h1:s.heap.IsListIter it l k) (hl:s.heap.IsList l xs) (hx:xs[k]?=none)
  (hE:∀h' e,Heap.ExtBut it s.heap h'→(∃o,h'.get? e=some o∧o.cls= .type "StopIteration")→E (.ref e) {s with heap:=h'}):
  wpAny (model prog w) A (Builtin.«map.__next__» ⟨[.ref z],[]⟩) Q E s:=by
 show wpAny _ _ (field (.ref z) 0>>=_) _ _ _;refine wpAny_bind (wpAny_field hz rfl (x:= .ref T) rfl ?_);refine wpAny_bind (wpAny_seqItems hT rfl ?_);dsimp only;refine wpAny_bind ?_;rw[←Array.forIn_toList];simp only[List.forIn_cons,List.forIn_nil];exact wpAny_bind (wpAny_bind (wpAny_holding (wpAny_nextOf_list_end hh h1 hl hx hE)))
theorem nB{z T it l:Addr}{k:Nat}{xs:Array Value}{x f:Value}{Q:Option Value→Shared→Prop}
  (hz:iB s.heap z T f) (hT:rR s.heap T (.ref it)) (h1:s.heap.IsListIter it l k) (hl:s.heap.IsList l xs) (hx:xs[k]?=some x)
  (hQ:∀h',h'.IsListIter it l (k+1)→Heap.SameBut it s.heap h'→wpAny (model prog w) A.in1 (call f [x]) (λv=>Q (some v)) (λaj aj=>False) {s with heap:=h'}):
  wpAny (model prog w) A (pyNext (.ref z)) Q E s:=by
 have hZ:s.TypeIs (.ref z) "map":=⟨_,hz,rfl⟩;unfold pyNext;have main:wpAny (model prog w) A (callSpecial? (.ref z) (Str.ofString "__next__")) (λr s'=>∃v,r=some v∧Q (some v) s') (λaj aj=>False) s:=
  wpAny_callSpecial?_slot (name:=Str.ofString "__next__") hZ MP.slot_next
   (wpAny_call_entry MP.slot_next hZ MP.entry_next (Q:=λv s'=>∃v',some v=some v'∧Q (some v') s') (qE hz hT h1 hl hx λh' a1 a2=>wpAny_mono (hQ h' a1 a2) (λv s' hv=>⟨v,rfl,hv⟩) λaj aj x=>x) (MP.args_next _))
 refine wpAny_bind (wpAny_attempt (wpAny_mono main (λr s' ⟨v,e,hv⟩=>?_) λaj aj x=>x.elim));subst e;exact wpAny_pure hv
theorem oY{z T it l:Addr}{k:Nat}{xs:Array Value}{f:Value}{Q:Option Value→Shared→Prop}(hh:A.handled=none)
  (hz:iB s.heap z T f) (hT:rR s.heap T (.ref it)) (h1:s.heap.IsListIter it l k) (hl:s.heap.IsList l xs) (hx:xs[k]?=none)
  (hQ:∀h',Heap.ExtBut it s.heap h'→Q none {s with heap:=h'}):
  wpAny (model prog w) A (pyNext (.ref z)) Q E s:=by
 have hZ:s.TypeIs (.ref z) "map":=⟨_,hz,rfl⟩;unfold pyNext;refine wpAny_bind (wpAny_attempt (wpAny_callSpecial?_slot (name:=Str.ofString "__next__") hZ MP.slot_next
  (wpAny_call_entry MP.slot_next hZ MP.entry_next (sX hh hz hT h1 hl hx λh' e hk he=>?_) (MP.args_next _))))
 obtain⟨o,ho,hc⟩:=he;refine wpAny_bind (wpAny_isInstance (T:="StopIteration") (b:=true) ⟨o,ho,hc⟩ isSubtype_stop ?_);exact wpAny_pure (hQ _ hk)
theorem xK{z T:Addr}{f:Value}{Q:Value→Shared→Prop}(hz:iB s.heap z T f)(h:Q (.ref z) s):wpAny (model prog w) A (pyIter (.ref z)) Q E s:=by
 have hT:s.TypeIs (.ref z) "map":=⟨_,hz,rfl⟩;refine wpAny_pyIter_slot hT MP.rQ (wpAny_call_entry MP.rQ hT MP.xH ?_ (MP.AN _));show wpAny _ _ (ret (.ref z)) _ _ s;exact wpAny_pure ⟨_,rfl,"map",_,hT,MP.slot_next.lookup,h⟩
theorem xM{R:Result→Shared→Prop}{z T:Addr}{f:Value}(S:Addr)(res:Value)(hz:iB s.heap z T f)(hS:s.heap.get? S=some {cls:= .type "list",data:= .seq #[]})
  (vg:∀h' c,Heap.SameBut S s.heap h'→h'.get? S=some {cls:= .type "list",data:= .seq #[] c}→codeAny (model prog w) A (.builtin "list.extend.loop" ⟨[.ref S, .ref z,res],[]⟩) R {s with heap:=h'}):
  wpAny (model prog w) A.in1 (Builtin.List.listExtendWith (.ref S) (.ref z) res)
   (λfin s'=>match fin with| .done f=>R (.ok f) s'| .again c'=>c'.quiet=true∧codeAny (model prog w) A c' R s') (λe s'=>R (.error e) s') s:=by
 have Xf:S≠z:=λe=>by subst e;rw[hz]at hS;simp at hS
 have hT:s.TypeIs (.ref z) "map":=⟨_,hz,rfl⟩;unfold Builtin.List.listExtendWith;refine wpAny_bind (wpAny_typeOf hT ?_);have h1:Builtin.List.listSameRef (.ref S) (.ref z)=false:=by simp[Builtin.List.listSameRef,Xf]
 have h2:(Value.type "map"==Value.type "list")=false:=by decide
 have h3:(Value.type "map"==Value.type "tuple")=false:=by decide
 simp only[h1,h2,h3,Bool.or_false,Bool.false_eq_true,if_false];refine wpAny_bind (xK hz ?_);refine wpAny_bind (wpAny_holding ?_);unfold Builtin.List.listLengthHint;refine wpAny_bind (wpAny_specialOf hT MP.IC ?_);show wpAny _ A.in1 (specialOf (Value.ref z) (Str.ofString "__length_hint__")>>=_) _ _ _;refine wpAny_bind (wpAny_specialOf hT MP.EX ?_);refine wpAny_pure ?_;show wpAny _ A.in1 (rule "list.extend.makes-room">>=λaj=>Builtin.List.listTouch (.ref S)>>=λaj=>
  again (.builtin "list.extend.loop" ⟨[.ref S, .ref z,res],[]⟩)) _ _ _
 refine wpAny_bind (wpAny_rule ?_);refine wpAny_bind ?_;show wpAny _ A.in1 (updateSeq S (·.push .none)>>=λaj=>updateSeq S (·.pop)) _ _ _;refine wpAny_bind (wpAny_updateSeq hS rfl ?_);have zL:=Heap.get?_update_self (Obj.mapSeq (·.push Value.none)) hS rfl;refine wpAny_updateSeq (hz:=by seq_fits) zL rfl ?_;have MC:=Heap.get?_update_self (Obj.mapSeq (·.pop)) zL rfl;have sb:Heap.SameBut S s.heap ((s.heap.update S (Obj.mapSeq (·.push Value.none))).update S (Obj.mapSeq (·.pop))):=
  ⟨by rw[(Heap.SameBut.update _ _ _).1,(Heap.SameBut.update _ _ _).1],λb hb=>((Heap.SameBut.update _ _ _).2 b hb).trans ((Heap.SameBut.update _ _ _).2 b hb)⟩
 exact wpAny_pure ⟨plainId_quiet F.plain_extend_loop _,vg _ _ sb MC⟩
theorem qF{R:Result→Shared→Prop}{z T:Addr}{f:Value}(S:Addr)(hz:iB s.heap z T f)(hS:s.heap.get? S=some {cls:= .type "list",data:= .seq #[]})
  (vg:∀h' c,Heap.SameBut S s.heap h'→h'.get? S=some {cls:= .type "list",data:= .seq #[] c}→codeAny (model prog w) A (.builtin "list.extend.loop" ⟨[.ref S, .ref z, .none],[]⟩) R {s with heap:=h'}):
  wpAny (model prog w) A.in1 (Builtin.«list.__init__» ⟨[.ref S, .ref z],[]⟩)
   (λfin s'=>match fin with| .done f=>R (.ok f) s'| .again c'=>c'.quiet=true∧codeAny (model prog w) A c' R s') (λe s'=>R (.error e) s') s:=by
 have Xf:S≠z:=λe=>by subst e;rw[hz]at hS;simp at hS
 show wpAny _ A.in1 (do let old←Builtin.List.listItems (.ref S);Builtin.List.listUpdate (.ref S) (λaj=>#[]);letGo old.toList.reverse;Builtin.List.listExtendWith (.ref S) (.ref z) .none) _ _ s;refine wpAny_bind ?_;unfold Builtin.List.listItems;refine wpAny_bind (wpAny_seqItems hS rfl (wpAny_pure ?_));show wpAny _ A.in1 (updateSeq S (λaj=>#[])>>=λaj=>letGo (#[]:Array Value).toList.reverse>>=λaj=>Builtin.List.listExtendWith (.ref S) (.ref z) .none) _ _ s;refine wpAny_bind (wpAny_updateSeq hS rfl ?_);have zL:=Heap.get?_update_self (Obj.mapSeq (λaj=>(#[]:Array Value))) hS rfl;have sb:=Heap.SameBut.update s.heap S (Obj.mapSeq (λaj=>(#[]:Array Value)));refine wpAny_bind (wpAny_letGo ?_);refine xM S .none ((sb.2 _ (Ne.symm Xf)).trans hz) zL λh' c k1 k2=>vg h' c ⟨k1.1.trans sb.1,λb hb=>(k1.2 b hb).trans (sb.2 b hb)⟩ k2
theorem qG{Q:Value→Shared→Prop}{z T:Addr}{f:Value}(hz:iB s.heap z T f)
  (vg:∀h' c,Heap.SameBut s.heap.objs.size (s.heap.push {cls:= .type "list",data:= .seq #[]}) h'→h'.get? s.heap.objs.size=some {cls:= .type "list",data:= .seq #[] c}→
   codeAny (model prog w) A.in1 (.builtin "list.extend.loop" ⟨[.ref s.heap.objs.size, .ref z, .none],[]⟩) (wants (λr s₂=>r= .none∧Q (.ref s.heap.objs.size) s₂) E) {s with heap:=h'}):
  wpAny (model prog w) A (call (.type "list") [.ref z]) Q E s:=by
 refine callType_codes (Q₁:=λobj s₁=>obj= .ref s.heap.objs.size∧s₁={s with heap:=s.heap.push {cls:= .type "list",data:= .seq #[]}}) F.called_list (F.typeCall_list_1 _) F.entry_list_init
  (code_list_new _ ⟨rfl,rfl⟩) λobj s₁ h₁=>?_
 obtain⟨rfl,rfl⟩:=h₁;have hS:(s.heap.push {cls:= .type "list",data:= .seq #[]}).get? s.heap.objs.size=some {cls:= .type "list",data:= .seq #[]}:=Heap.get?_push_size _ rfl;exact⟨⟨_,hS,rfl⟩,F.args_list_init_2 _ _,qF (s:={s with heap:=s.heap.push {cls:= .type "list",data:= .seq #[]}}) _ (Heap.get?_push_of_some _ hz) hS vg⟩
end
theorem EY(P:Params):findCls (KF P) (.ref 135) (.type "type") "_make"=some (.get (.builtin "classmethod.__get__") (.ref 91) .none (.ref 135)):=by kernel_rfl!
theorem ID(P:Params):recIn (KF P) 91 "classmethod"=some [.ref 89, .bool false]:=by kernel_rfl!
theorem C0(P:Params):readsIn (KF P) 135 (.type "type")=true:=by kernel_rfl!
section
variable{prog:Program}{w:World}{B:Addr→Option Obj}{A:Around}{K:Addr→Option Obj}{os:Oz}{Ω:aa}{s:Shared}{l:Nat}
theorem aA.above(R:aA prog w K os Ω s){a:Addr}(h:s.heap.objs.size≤a):K a=none∧Ω a=none:=by
 constructor
 ·cases q:K a with
  |none=>rfl
  |some o=>obtain⟨o',h1,_⟩:=R.kept a o q;exact absurd (Heap.lt_size h1) (Nat.not_lt.mpr h)
 ·cases q:Ω a with
  |none=>rfl
  |some o=>obtain⟨o',h1,_⟩:=R.objs a o q;exact absurd (Heap.lt_size h1) (Nat.not_lt.mpr h)
theorem qp.enter(hfr:qp K os A)(R:aA prog w K os Ω s):qp (bG Ω s.heap) os A:=by
 obtain⟨fl,f1,f2⟩:=hfr;refine⟨fl,f1,λe he=>?_⟩;obtain⟨g1,L,o,g2,g3,g4,g5⟩:=f2 e he;obtain⟨o',k1,k2⟩:=R.kept L o g4;exact⟨g1,L,o',g2,g3,by unfold bG;rw[R.gh g4];exact k1,λvs q=>g5 vs (by rw[←k2.data];exact q)⟩
theorem EZ(hB:∀a o,B a=some o→K a=some o∧¬os.F a)(hfr:qp K os A)(hroom:qo (l+1) A)(R:aA prog w K os Ω s){fA:Addr}(hf:s.heap.get? fA=some (methodObj (.ref 89) (.ref 135))){zs:List (Addr×Int×Int×Int)}(mk:L8 prog w B l zs){z:Addr×Int×Int×Int}(hz:z∈zs)(ht:Ω z.1=some (.tup [.int z.2.1, .int z.2.2.1, .int z.2.2.2])):
  wpAny (model prog w) A (call (.ref fA) [.ref z.1]) (λv s'=>∃a az,v= .ref a∧aA prog w K os az s'∧Ω a=none∧az a=some (.cZ [.int z.2.1, .int z.2.2.1, .int z.2.2.2])∧(∀b o,Ω b=some o→az b=some o)∧
   ∀b o,K b=none→Ω b=none→s.heap.get? b=some o→s'.heap.get? b=some o∧az b=none) bS s:=by
 have hB':∀a o,B a=some o→bG Ω s.heap a=some o∧¬os.F a:=λa o e=>by
  obtain⟨h1,h2⟩:=hB a o e;obtain⟨o',k1,k2⟩:=R.kept a o h1;rw[k2.eq h2]at k1;exact⟨by unfold bG;rw[R.gh h1];exact k1,h2⟩
 refine wpAny_call (method_call hf (codeAny_mono (mk z hz Ω ht (bG Ω s.heap) os A s (.ref 89) [.ref 135, .ref z.1] hB' (hfr.enter R) hroom rfl ⟨rfl,rfl,trivial⟩ R.enter) λr s' q=>?_))
 rcases r with e|(v|_|_|_)<;>first|exact q.elim|skip
 obtain⟨x,az,h1,h2,a,rfl,h3,h4,h5⟩:=q;cases h1;refine⟨a,az,rfl,R.leave h2,h3,h4,h5,λb o hk ho hb=>?_⟩;have hkb:bG Ω s.heap b=some o:=by unfold bG;rw[ho];exact hb
 have hF:¬os.F b:=λhF=>by obtain⟨o',h⟩:=R.nG b hF;rw[hk]at h;cases h
 obtain⟨o',k1,k2⟩:=h2.kept b o hkb;rw[k2.eq hF]at k1;refine⟨k1,?_⟩;cases q:az b with
 |none=>rfl
 |some x=>have:=h2.apart b (by rw[q];simp);rw[hkb]at this;cases this
structure YL(prog:Program)(w:World)(K:Addr→Option Obj)(os:Oz)(fC:aa)(zs:List (Addr×Int×Int×Int))(S p:Addr)(i:Nat)(ws:List (Addr×Int×Int×Int))(Ω:aa)(s:Shared):Prop where
 R:aA prog w K os Ω s
 old:∀a o,fC a=some o→Ω a=some o
 vals:ws.map (·.2)=(zs.map (·.2)).take i
 new:∀z∈ws,fC z.1=none
 IE:bk .cZ Ω ws
 hS:∃c,s.heap.get? S=some {cls:= .type "list",data:= .seq (vz ws).toArray c}
 KS:K S=none
 Xg:Ω S=none
theorem E0(hB:∀a o,B a=some o→K a=some o∧¬os.F a)(hfr:qp K os A)(hr:qo (l+1) A.in1.in1){fC:aa}{zs:List (Addr×Int×Int×Int)}(mk:L8 prog w B l zs){S p fA mA tA lI:Addr}(e:fC p=some (.list (refsOf zs)))(ht:bk .tup fC zs)(hl:zs.length<lim){RR:Result→Shared→Prop}
  (k1:K fA=none) (k2:K mA=none) (k3:K tA=none) (k4:K lI=none)
  (hR:∀ws az s',YL prog w K os fC zs S p zs.length ws az s'→RR (.ok (.ret .none)) s'):
  ∀(k i:Nat) (ws:List (Addr×Int×Int×Int)) (Ω:aa) (s:Shared),zs.length-i=k→i≤zs.length→YL prog w K os fC zs S p i ws Ω s→
   s.heap.get? fA=some (methodObj (.ref 89) (.ref 135))→iB s.heap mA tA (.ref fA)→rR s.heap tA (.ref lI)→s.heap.IsListIter lI p i→Ω fA=none→Ω mA=none→Ω tA=none→Ω lI=none→
   codeAny (model prog w) A (.builtin "list.extend.loop" ⟨[.ref S, .ref mA, .none],[]⟩) RR s:=by
 intro k
 induction k with
 |zero=>
  intro i ws Ω s hk hi I hf hm hT hI o1 o2 o3 o4;have hin:i=zs.length:=SY hk hi;subst hin;obtain⟨items,n,g1,g2,g3⟩:=I.R.list (I.old _ _ e);have hnone:items[zs.length]?=none:=Array.getElem?_eq_none (by rw[g3,refsOf,List.length_map];exact Nat.le_refl _);refine codeAny_builtin F.entry_extend_loop ?_;rw[Around.under_plainId F.plain_extend_loop _];show wpAny _ A.in1 (pyNext (.ref mA)>>=_) _ _ s;refine wpAny_bind (oY hr.1 hm hT hI (cB g1) hnone λh' hx=>?_);have Oc:S≠lI:=λq=>by
   obtain⟨c,hS⟩:=I.hS;obtain⟨o,ho,hc,_⟩:=hI;rw[q,ho]at hS;cases hS;simp at hc
  refine wpAny_pure (hR ws Ω _ ⟨I.R.other (t:=s.toks) k4 o4 λb o hb ho=>hx b o hb ho,I.old,I.vals,I.new,I.IE,?_,I.KS,I.Xg⟩);obtain⟨c,hS⟩:=I.hS;exact⟨c,hx _ _ Oc hS⟩
 |succ k ih=>
  intro i ws Ω s hk hi I hf hm hT hI o1 o2 o3 o4;have hlt:i<zs.length:=S0 hk;obtain⟨items,n,g1,g2,g3⟩:=I.R.list (I.old _ _ e);have hit:items.toList=vz zs:=jU g2;have MB:zs[i]?=some zs[i]:=List.getElem?_eq_getElem hlt;have Xh:zs[i]∈zs:=List.getElem_mem hlt;generalize zs[i]=z at MB Xh;have hx:items[i]?=some (.ref z.1):=by
   rw[←Array.getElem?_toList,hit];unfold vz;rw[List.getElem?_map,MB];rfl
  obtain⟨c,hS⟩:=I.hS;have Oc:S≠lI:=λq=>by
   obtain⟨o,ho,hc,_⟩:=hI;rw[q,ho]at hS;cases hS;simp at hc
  have ml:mA≠lI:=λq=>by
   obtain⟨o,ho,hc,_⟩:=hI;rw[←q,hm]at ho;cases ho;simp at hc
  have tl:tA≠lI:=λq=>by
   obtain⟨o,ho,hc,_⟩:=hI;rw[←q,hT]at ho;cases ho;simp at hc
  have fl:fA≠lI:=λq=>by
   obtain⟨o,ho,hc,_⟩:=hI;rw[←q,hf]at ho;cases ho;simp[methodObj]at hc
  have mS:mA≠S:=λq=>by rw[←q,hm]at hS;simp at hS
  have tS:tA≠S:=λq=>by rw[←q,hT]at hS;simp at hS
  have fS:fA≠S:=λq=>by rw[←q,hf]at hS;simp[methodObj]at hS
  refine codeAny_builtin F.entry_extend_loop ?_;rw[Around.under_plainId F.plain_extend_loop _];show wpAny _ A.in1 (pyNext (.ref mA)>>=_) _ _ s;refine wpAny_bind (nB hm hT hI (cB g1) hx λh' hI' sb=>?_);have R1:aA prog w K os Ω {s with heap:=h'}:=I.R.other (t:=s.toks) k4 o4 λb o hb ho=>(sb.2 b hb).trans ho
  refine wpAny_mono (EZ (A:=A.in1.in1) hB hfr hr R1 ((sb.2 _ fl).trans hf) mk Xh (I.old _ _ (ht z Xh))) (λv s2 ⟨a,dB,q1,q2,q3,q4,q5,q6⟩=>?_) λaj aj x=>x
  subst q1;obtain⟨YM,o5⟩:=q6 S _ I.KS I.Xg ((sb.2 _ Oc).trans hS);obtain⟨hf2,o6⟩:=q6 fA _ k1 o1 ((sb.2 _ fl).trans hf);obtain⟨hm2,o7⟩:=q6 mA _ k2 o2 ((sb.2 _ ml).trans hm);obtain⟨hT2,o8⟩:=q6 tA _ k3 o3 ((sb.2 _ tl).trans hT);have Od:s2.heap.IsListIter lI p (i+1)∧dB lI=none:=by
   obtain⟨o,ho,hc,hd⟩:=hI';obtain⟨x1,x2⟩:=q6 lI o k4 o4 ho;exact⟨⟨o,x1,hc,hd⟩,x2⟩
  show wpAny _ A.in1 (updateSeq S (·.push (.ref a))>>=_) _ _ _;have hlen:ws.length=i:=by
   have:=congrArg List.length I.vals;rw[List.length_map,List.length_take,List.length_map]at this;exact S3 hk this
  have hsz:(vz ws).toArray.size<lim:=by rw[List.size_toArray,oG,hlen];exact S5 hk hl
  have bU:=Heap.SameBut.update s2.heap S (Obj.mapSeq (·.push (Value.ref a)));have R2:aA prog w K os dB {s2 with heap:=s2.heap.update S (Obj.mapSeq (·.push (Value.ref a)))}:=q2.other (t:=s2.toks) I.KS o5 λb o hb ho=>(bU.2 b hb).trans ho
  refine wpAny_bind (wpAny_updateSeq YM rfl (wpAny_pure ⟨plainId_quiet F.plain_extend_loop _,ih (i+1) (ws++[(a,z.2)]) dB _ (S7 hk) (S8 hk) ⟨R2,λb o hb=>q5 _ _ (I.old _ _ hb),?_,?_,?_,?_,I.KS,o5⟩ ((bU.2 _ fS).trans hf2) ((bU.2 _ mS).trans hm2) ((bU.2 _ tS).trans hT2) ?_ o6 o7 o8 Od.2⟩) (by unfold lim at hsz;rw[sizeLine_eq];exact O8 hsz) (by show ((vz ws).toArray.push (.ref a)).size≤sizeLine+1;rw[Array.size_push,sizeLine_eq];unfold lim at hsz;exact Nat.le_trans hsz (by decide)))
  ·rw[List.map_append,I.vals,List.take_add_one,List.getElem?_map,MB];rfl
  ·intro y hy
   rcases List.mem_append.mp hy with hy|hy
   ·exact I.new y hy
   ·rw[List.mem_singleton]at hy;subst hy
    cases q:fC a with
    |none=>rfl
    |some o=>rw[I.old a o q]at q3;cases q3
  ·intro y hy
   rcases List.mem_append.mp hy with hy|hy
   ·exact q5 _ _ (I.IE y hy)
   ·rw[List.mem_singleton]at hy;subst hy;exact q4
  ·have h1:=get?_update_seq (c:="list") (xs:=(vz ws).toArray) (n:=c) YM (·.push (Value.ref a))
   have e1:(vz ws).toArray.push (Value.ref a)=(vz (ws++[(a,z.2)])).toArray:=by simp[vz]
   rw[e1]at h1;exact⟨_,h1⟩
  ·obtain⟨o,ho,hc,hd⟩:=Od.1
   exact⟨o,(bU.2 _ (Ne.symm Oc)).trans ho,hc,hd⟩
theorem vh(bf:BF prog w B)(hB:∀a o,B a=some o→K a=some o∧¬os.F a)(R:aA prog w K os Ω s)(hfr:qp K os A)(hr:nT l A)(hl5:l<55){p:Addr}{zs:List (Addr×Int×Int×Int)}(e:Ω p=some (.list (refsOf zs)))(ht:bk .tup Ω zs)(hl:zs.length<lim)(mk:L8 prog w B l zs){Q:af→aa→Prop}
  (h:∀zs' az,zs'.map (·.2)=zs.map (·.2)→bk .cZ az zs'→(∀z∈zs',Ω z.1=none)→(∀a,Ω a≠none→az a=Ω a)→∀r,az r=none→Ω r=none→Q (.ref r) (az.set r (.list (refsOf zs')))):
  wpAny (model prog w) A (getAttr (.ref 135) "_make" true) (λf s1=>∃h' t',s1={s with heap:=h',toks:=t'}∧(∀b o,s.heap.get? b=some o→h'.get? b=some o)∧
   wpAny (model prog w) A (call (.type "map") [f, .ref p]) (λmo s2=>wpAny (model prog w) A (call (.type "list") [mo]) (PH prog w K os Q) bS s2) bS s1) bS s:=by
 have X:=R.eU bf hB;refine cls_bind X (C0 _) (EY _) (wpAny_call (cm_get (s:={s with toks:=s.toks+1}) X (ID _) (handed_on rfl ⟨s.heap.push (methodObj (.ref 89) (.ref 135)),s.toks+1,rfl,λb o q=>Heap.get?_push_of_some _ q,?_⟩)));have R1:aA prog w K os Ω {s with heap:=s.heap.push (methodObj (.ref 89) (.ref 135)),toks:=s.toks+1}:=R.push _;have hf1:(s.heap.push (methodObj (.ref 89) (.ref 135))).get? s.heap.objs.size=some (methodObj (.ref 89) (.ref 135)):=Heap.get?_push_size _ rfl;have Xi:=R.above (Nat.le_refl s.heap.objs.size);show wpAny (model prog w) A (call (.type "map") [.ref s.heap.objs.size, .ref p]) _ bS {s with heap:=s.heap.push (methodObj (.ref 89) (.ref 135)),toks:=s.toks+1};generalize s.heap.objs.size=fA at hf1 Xi;generalize (s.heap.push (methodObj (.ref 89) (.ref 135)))=h1 at R1 hf1;obtain⟨items,n,g1,g2,g3⟩:=R1.list e;refine CZ (cB g1) λh2 a1 a2 a3 a4=>?_
 have R2:aA prog w K os Ω {s with heap:=h2,toks:=s.toks+1}:=R1.ext a4;dsimp only at a1 a2 a3 a4;have p1:=R1.above (a:=h1.objs.size) (Nat.le_refl _);have p2:=R1.above (a:=h1.objs.size+1) (Nat.le_succ _);have p3:=R1.above (a:=h1.objs.size+2) (by show h1.objs.size≤_;exact Nat.le_add_right _ _);have hf2:=a4 _ _ hf1;refine qG a1 λh3 c sb hS=>?_
 dsimp only at sb hS;have pS:=R2.above (a:=h2.objs.size) (Nat.le_refl _);have R3:aA prog w K os Ω {s with heap:=h3,toks:=s.toks+1}:=(R2.push (t:=s.toks+1) _).other (t:=s.toks+1) pS.1 pS.2 λb o hb ho=>(sb.2 b hb).trans ho
 have up:∀{b o},h2.get? b=some o→h3.get? b=some o:=λ{b o} q=>(sb.2 _ (Nat.ne_of_lt (Heap.lt_size q))).trans (Heap.get?_push_of_some _ q)
 have hrm:qo (l+1) A.in1.in1.in1:=by
  obtain⟨r1,r2,r3,r4,r5⟩:=hr;refine⟨r1,?_,?_,r4,Nat.le_add_left_of_le hl5⟩
  ·show A.depth≤_;exact Ky r2
  ·show A.units+1+1+1≤_;exact S9 r3
 refine E0 (A:=A.in1) (p:=p) hB hfr hrm mk e ht hl Xi.1 p3.1 p2.1 p1.1 (λws az s' I=>?_) zs.length 0 [] Ω _ rfl (Nat.zero_le _) ⟨R3,λa o q=>q,by simp,(λz hz=>nomatch hz),(λz hz=>nomatch hz),⟨c,hS⟩,pS.1,pS.2⟩ (up hf2) (up a1) (up a2) ?_ Xi.2 p3.2 p2.2 p1.2
 ·obtain⟨c',hS'⟩:=I.hS
  have GP:=I.vals;rw[List.take_of_length_le (by rw[List.length_map];exact Nat.le_refl _)]at GP;refine⟨rfl, .ref _,_,rfl,I.R.CT I.KS ?_ hS' (OO.uL (sM ws)),h ws az GP I.IE I.new (λa ha=>?_) _ I.Xg pS.2⟩
  ·exact R2.big
  ·cases q:Ω a with
   |none=>exact absurd q ha
   |some o=>exact I.old a o q
 ·obtain⟨o,ho,hc,hd⟩:=a3
  exact⟨o,up ho,hc,hd⟩
end
end
section
open PySem PySem.W PyProof.Rows PySem.Calls
section
variable{prog:Program}{w:World}{B:Addr→Option Obj}{l:Nat}{C:Cx}{A:Around}{s:Shared}
theorem sY:findCls [] (.type "tuple") (.type "type") "__new__"=some (.val (.builtin "tuple.__new__")):=by kernel_rfl!
theorem C3:Manifest.isStub "tuple"=false:=by decide+kernel
theorem C4:typeOf (.type "tuple")=pure (.type "type"):=by first|rfl|kernel_rfl
theorem oZ{pl:Sem Bool}{E:Value→Shared→Prop}{Q:Value×List Value→Shared→Prop}(h:Q (.builtin "tuple.__new__",[]) {s with toks:=s.toks+1}):wpAny (model prog w) A (getMethod (.type "tuple") "__new__" pl) Q E s:=by
 have X:Frag.In [] s.heap:=λa o e=>by cases e
 have MD:opaqueClassAbove (.type "tuple")=pure none:=by unfold opaqueClassAbove;dsimp only;rw[C3];rfl
 have L0:Looks (model prog w) s.heap (typeOf (.type "tuple")) (.type "type"):=Looks.of_pure C4;have hg:findIn [] (.type "type") "__getattribute__"=some (some (.builtin "type.__getattribute__")):=type_tga;unfold getMethod specialOf;refine wpAny_bind (wpAny_bind (L0.here ((looks_findIn X hg).here ?_)));dsimp only;rw[if_pos canon_tga];refine wpAny_bind (wpAny_mono (Q:=λv=>Q (v,[])) (E:=E) ?_ (λaj aj z=>wpAny_pure z) λaj aj z=>z);have LO:Looks (model prog w) s.heap (opaqueClassAbove (.type "tuple")) none:=Looks.of_pure MD;exact cls_open X LO L0 hg (looks_hook X (r:=none) (by rfl)) (by show subIn [] _ _=_;rfl) sY
  (wpAny_pure (by show wpAny _ _ (handedOut _) _ _ _;rw[handedOut_of (by decide+kernel)];exact wpAny_pure h))
def fD(prog:Program)(w:World)(B:Addr→Option Obj)(l:Nat)(me:ME):Prop:=
 ∀{C:Cx} {A:Around},gR B l C A→∀(e:Expr),bM me C.env.scope e=true→∀{st:St} {s:Shared} {Q:af→St→Prop},Rep prog w C st s→ev prog w B l me Q st→wpAny (model prog w) A (eval (fill me e) C.env) (PE prog w C Q) bS s
theorem fD.to(h:fD prog w B l me)(ok:gR B l C A):oM prog w C A (fill me) (bM me C.env.scope) (ev prog w B l me):=λe he=>⟨bW,λR hh=>h ok e he R hh⟩
def xN(prog:Program)(w:World)(B:Addr→Option Obj)(l:Nat):ME→Prop
 | .cmp aj a b=>fD prog w B l a∧fD prog w B l b
 |_=>True
theorem jk{op:CmpOp}{a b:ME}(ha:fD prog w B l a)(hb:fD prog w B l b)(ok:gR B l C A){y:Expr}(he:bM (.cmp op a b) C.env.scope y=true){st:St}{P Q:Bool→St→Prop}(R:Rep prog w C st s)(hP:∀t st,P t st→Q t st)
  (h:ev prog w B l a (λx s1=>ev prog w B l b (λy s2=>gm op x y (λr=>P r s2) s2.Ω) s1) st):wpAny (model prog w) A (isTrue (fill (.cmp op a b) y) C.env (eval (fill (.cmp op a b) y) C.env)) (PB prog w C Q) bS s:=
 aB he λh3 h4=>aB h4 λh1 h2=>wpAny_isTrue_Compare1 (PE.to (ha ok _ h1 R h) λv s1 x st1 hv R1 h1=>PE.to (hb ok _ h2 R1 h1) λu s2 y st2 hu R2 h2=>
  ay (rP ok.base ok.room R2 hv hu h2) λr s' ⟨t,e1,R3,hq⟩=>e1▸wpAny_truthy_bool ⟨st2,R3,hP _ _ hq⟩) (eq_of_beq h3)
theorem mQ(bf:BF prog w B){c:ME}(hc:fD prog w B l c∧xN prog w B l c)(ok:gR B l C A){y:Expr}(he:bM c C.env.scope y=true)(hp:fL c=true){st:St}{Q:Bool→St→Prop}(R:Rep prog w C st s)
  (h:ev prog w B l c (λx s'=>cW x (λt=>Q t s') s'.Ω) st):wpAny (model prog w) A (isTrue (fill c y) C.env (eval (fill c y) C.env)) (PB prog w C Q) bS s:=by
 by_cases YN:∃op a b,c= .cmp op a b
 ·obtain⟨op,a,b,rfl⟩:=YN
  exact jk hc.2.1 hc.2.2 ok he R (λaj aj q=>gY.ofBool q) h
 ·exact isTrue_plain (PE.to (hc.1 ok _ he R h) λv s1 x st1 hv R1 h1=>ay (cL ok.base R1 hv h1) λt s2 q=>⟨st1,q.1,q.2⟩) (oV hp λop a b q=>YN ⟨op,a,b,q⟩)
noncomputable def fills(ps:List (ME×Expr)):List Expr:=ps.map λp=>fill p.1 p.2
def Jt(prog:Program)(w:World)(B:Addr→Option Obj)(l:Nat):List (ME×Expr)→(List af→St→Prop)→St→Prop
 |[],Q,st=>Q [] st
 |p::ps,Q,st=>ev prog w B l p.1 (λx s1=>Jt prog w B l ps (λxs s2=>Q (x::xs) s2) s1) st
def AQ(prog:Program)(w:World)(B:Addr→Option Obj)(l:Nat)(sc:Scope):List (ME×Expr)→Prop
 |[]=>True
 |p::ps=>(fD prog w B l p.1∧bM p.1 sc p.2=true)∧AQ prog w B l sc ps
theorem jv(ok:gR B l C A){pos:Pos}:∀(ps:List (ME×Expr)),AQ prog w B l C.env.scope ps→∀{st:St} {s:Shared} {Q:List af→St→Prop} {K:List Value→Shared→Prop},Rep prog w C st s→Jt prog w B l ps Q st→
  (∀vs s' xs st',vs.length=ps.length→aP vs xs→Rep prog w C st' s'→Q xs st'→K vs s')→wpAny (model prog w) A (spliced (backTo pos (starEach (fills ps) C.env))) K bS s
 |[],aj,st,s,Q,K,R,h,k=>spliced_nil (k [] s [] st rfl trivial R h)
 |p::ps,hl,st,s,Q,K,R,h,k=>by
  show wpAny _ _ (spliced (backTo pos (starEach (fill p.1 p.2::fills ps) C.env))) _ _ _;rw[aD bW,aK];exact spliced_cons (PE.to (hl.1.1 ok _ hl.1.2 R h) λv s1 x st1 hv R1 h1=>jv ok ps hl.2 R1 h1 λvs s2 xs st2 hn hvs R2 h2=>k _ _ (x::xs) st2 (congrArg (·+1) hn) ⟨hv,hvs⟩ R2 h2)
theorem o9{env:Env}{pos:Pos}:∀(ps:List (ME×Expr)),(backTo pos (starEach (fills ps) env)).any (·.1)=false
 |[]=>rfl
 |p::ps=>by
  show (backTo pos (starEach (fill p.1 p.2::fills ps) env)).any (·.1)=false;rw[aD bW,aK];exact o9 ps
theorem iC{env:Env}{pos:Pos}:∀(ps:List (ME×Expr)),(backTo pos (starEach (fills ps) env)).all (λx=> !x.1)=true
 |[]=>rfl
 |p::ps=>by
  show (backTo pos (starEach (fill p.1 p.2::fills ps) env)).all (λx=> !x.1)=true;rw[aD bW,aK];exact iC ps
theorem iD(bf:BF prog w B)(ok:gR B l C A){fv:Value}{f:af}(hf:VR fv f){first:List Value}{B3:List af}(kN:aP first B3)(ps:List (ME×Expr))(hl:AQ prog w B l C.env.scope ps){pos:Pos}{st:St}{Q:af→St→Prop}(R:Rep prog w C st s)
  (h:Jt prog w B l ps (λxs st1=>aZ prog w B l f (B3++xs) (λr Ω=>Q r {st1 with Ω}) st1.Ω) st):wpAny (model prog w) A (callWith pos fv first (backTo pos (starEach (fills ps) C.env)) []) (PE prog w C Q) bS s:=by
 cases ps with
 |nil=>exact nA bf ok hf kN R (by have h:aZ prog w B l f (B3++[]) _ _:=h;rw[List.append_nil]at h;exact h)
 |cons p ps=>
  have key:=jv (pos:=pos) ok (p::ps) hl R h (K:=λvs s1=>∃xs st1,aP vs xs∧Rep prog w C st1 s1∧aZ prog w B l f (B3++xs) (λr Ω=>Q r {st1 with Ω}) st1.Ω) λvs s' xs st' aj a b c=>⟨xs,st',a,b,c⟩
  have e:backTo pos (starEach (fills (p::ps)) C.env)=(false,eval (fill p.1 p.2) C.env)::backTo pos (starEach (fills ps) C.env):=by
   show backTo pos (starEach (fill p.1 p.2::fills ps) C.env)=_;rw[aD bW,aK]
  rw[e]at key ⊢;exact oS bf ok hf kN (o9 ps) key
theorem kO(ok:gR B l C A)(ps:List (ME×Expr))(hl:AQ prog w B l C.env.scope ps)(hlen:ps.length<30){pos:Pos}{k:Nat}{st:St}{Q:af→St→Prop}(R:Rep prog w C st s)
  (h:Jt prog w B l ps (λxs st1=>∀r,st1.Ω r=none→Q (.ref r) {st1 with Ω:=st1.Ω.set r (.tup xs)}) st):wpAny (model prog w) A (eval (.Tuple (fills ps) k pos) C.env) (PE prog w C Q) bS s:=
 Tuple_ (jv ok ps hl R h λvs s' xs st' hn a b c=>wpAny_newTuple ⟨.ref s'.heap.objs.size,_,rfl,b.make (t:=s'.toks) rfl (OO.N4 (show aP vs xs from a)),c _ b.H.bE⟩ (by rw[hn,sizeLine_eq];exact Nat.le_of_lt_succ (Nat.lt_of_lt_of_le hlen (by decide))))
theorem fZ(bf:BF prog w B)(ok:gR B l C A){f:ME}{e:Expr}(ps:List (ME×Expr))(hn:isName (fill f e)=true)(hf:fD prog w B l f)(he:bM f C.env.scope e=true)(hl:AQ prog w B l C.env.scope ps){pos:Pos}{st:St}{Q:af→St→Prop}(R:Rep prog w C st s)
  (h:ev prog w B l f (λg s0=>Jt prog w B l ps (λxs st1=>aZ prog w B l g xs (λr Ω=>Q r {st1 with Ω}) st1.Ω) s0) st):wpAny (model prog w) A (eval (.Call (fill f e) (fills ps) [] pos) C.env) (PE prog w C Q) bS s:=by
 have key:=hf ok e he R h;generalize fill f e=g at hn key;obtain⟨n,p,rfl⟩:=EL hn;exact wpAny_Call_ofName (PE.to key λfv s1 g st1 hv R1 h1=>iD bf ok hv (first:=[]) (B3:=[]) trivial ps hl R1 h1)
theorem call_meth(bf:BF prog w B)(ok:gR B l C A){o:ME}{m:MN}{e:Expr}(ps:List (ME×Expr))(hc:(!cH (fill o e))=true)(ho:fD prog w B l o)(he:bM o C.env.scope e=true)(hl:AQ prog w B l C.env.scope ps)(hlen:ps.length<30){ap pos:Pos}(hline:(ap.endLine==pos.line)=true){st:St}{Q:af→St→Prop}(R:Rep prog w C st s)
  (h:ev prog w B l o (λx s1=>rE s1.Ω m x λf=>Jt prog w B l ps (λxs st1=>aZ prog w B l f ([x]++xs) (λr Ω=>Q r {st1 with Ω}) st1.Ω) s1) st):wpAny (model prog w) A (eval (.Call (.Attribute (fill o e) m.name ap) (fills ps) [] pos) C.env) (PE prog w C Q) bS s:=by
 refine MethodCall_ (PE.to (ho ok _ he R h) λv s1 x st1 hv R1 h1=>?_) (iU (by simpa using hc) (iC ps) (by unfold fills;rw[List.length_map];exact hlen) hline);obtain⟨f,hr,h1⟩:=h1;refine ay (mF bf ok.base R1.H hv hr) λfx s2 q=>?_
 obtain⟨e1,fv,e2,hf⟩:=q;subst e1 e2;exact iD bf ok hf (first:=[v]) (B3:=[x]) ⟨hv,trivial⟩ ps hl R1 h1
theorem pA(ok:gR B l C A){ve ye:Expr}{ps:Pos}{p:Addr}{k:Int}{t:Nat}{st:St}{Q:af→St→Prop}(R:Rep prog w C st s)(items:Array Value)(xs:List af)(k1:s.heap.IsList p items)(k2:aP items.toList xs)(g1:0≤k)(g3:xs.length<lim)
  (g4:∀r,st.Ω r=none→Q (.ref r) {st with Ω:=st.Ω.set r (.list (xs.take k.toNat))}):
  wpAny (model prog w) A (subscriptTail ve (.Slice none (some ye) none ps) (.ref p) (.ref s.heap.objs.size)) (PE prog w C Q) bS {s with heap:=s.heap.push {cls:= .type "slice",data:= .fields #[.none, .int k t, .none]}}:=by
 have k3:items.size=xs.length:=by rw[←Array.length_toList];exact k2.length
 unfold lim at g3;obtain⟨kn,rfl⟩:∃kn:Nat,k=kn:=⟨k.toNat,PZ g1⟩
 refine tail_any (k1.push _).typeIs slot_list_getitem.lookup (wpAny_getItem_list_slice (k1.push _) (Heap.IsSliceOf.new ..) .none (.int _ _) .none (by simp) ?_ (by rw[k3,sizeLine_eq];exact O8 g3)) rfl;rw[oW];have R3:=R.push (t:=s.toks) {cls:= .type "slice",data:= .fields #[.none, .int kn t, .none]};refine⟨.ref _,_,rfl,R3.make (t:=s.toks) rfl (OO.uL ?_),g4 _ R3.H.bE⟩;have:=k2.take kn
 simpa using this
theorem vj{D L:Addr}{ms:Str→Option Value}{s':Shared}{st':St}{Q:af→St→Prop}(hn:s'.heap.Ns L ms)(hK:C.K L=none)(jb:st'.Ω L=none)(hL:L≠C.env.locals)(R':Rep prog w C st' s')(hq:Q (.ref D) st'):∀h',Heap.SameBut L s'.heap h'→PE prog w C Q (.ref D) {s' with heap:=h'}:=λh' hs=>
 ⟨.ref D,st',rfl,R'.wX (t:=s'.toks) hK jb (Ne.symm hL) (λx q=>by obtain⟨oc,e1,e2⟩:=q;obtain⟨o,es,ep,ho,hd,_⟩:=hn;rw[ho]at e1;cases e1;rw[hd]at e2;cases e2) (λb o hb e=>(hs.2 b hb).trans e),hq⟩
theorem rS(bf:BF prog w B){c:ME}(hc:fD prog w B l c∧xN prog w B l c){y:Expr}{sc:Scope}(he:bM c sc y=true)(hp:fL c=true):∀C' A',gR B l C' A'→C'.env.scope=sc→∀{st:St} {s:Shared} {Q:Bool→St→Prop},Rep prog w C' st s→ev prog w B l c (λx s'=>cW x (λt=>Q t s') s'.Ω) st→
  wpAny (model prog w) A' (forIn [fill c y] true λc r=>if r=true then do let ok←isTrue c C'.env (eval c C'.env);pure (ForInStep.yield ok)else pure (ForInStep.yield r)) (PB prog w C' Q) bS s:=λC' A' ok' hs st s Q R h=>by
 rw[List.forIn_cons];refine wpAny_bind ?_;rw[if_pos rfl];refine wpAny_bind (ay (mQ bf hc ok' (by rw[hs];exact he) hp R h) λt s' hx=>wpAny_pure ?_);dsimp only;rw[List.forIn_nil];exact wpAny_pure hx
theorem aT(bf:BF prog w B)(me:ME):fD prog w B l me∧xN prog w B l me:=by
 induction me with
 |var v=>
  refine⟨λ{C A} ok e he st s Q R h=>?_,trivial⟩;obtain⟨x,hx,hq⟩:=h;exact ay (eval_var R ok.kind he (λq=>ok.cells v q he) hx) λr s' q=>⟨x,st,q.1,q.2▸R,hq⟩
 |glob g=>exact⟨λ{C A} ok e he st s Q R h=>bQ bf ok he R λv hv=>⟨g.val,st,hv,R,h⟩,trivial⟩
 |int i=>exact⟨λ{C A} ok e he st s Q R h=>wpAny_Constant_int (k:=ql e) (pos:=e.pos) ⟨.int _,st,VR.mkInt,R.toks,h⟩,trivial⟩
 |none=>exact⟨λ{C A} ok e he st s Q R h=>Constant_none (k:=ql e) (pos:=e.pos) ⟨.none,st,rfl,R,h⟩,trivial⟩
 |bool b=>exact⟨λ{C A} ok e he st s Q R h=>Constant_bool (k:=ql e) (pos:=e.pos) ⟨.bool _,st,rfl,R,h⟩,trivial⟩
 |neg i=>exact⟨λ{C A} ok e he st s Q R h=>UnaryOp_ (wpAny_Constant_int (k:=ql (kid e 0)) (pos:=(kid e 0).pos) (neg_int ⟨.int _,st,VR.mkInt,R.toks.toks,h⟩)),trivial⟩
 |bin op a b cJ gG=>
  exact⟨λ{C A} ok e he st s Q R h=>aB he λha hb=>wpAny_BinOp (PE.to (cJ.1 ok _ ha R h) λv s1 x st1 hv R1 h1=>PE.to (gG.1 ok _ hb R1 h1) λu s2 y st2 hu R2 h2=>lift ok.base R2 λK os hK RH=>w7 RH hv hu h2),trivial⟩
 |cmp op a b cJ gG=>
  exact⟨λ{C A} ok e he st s Q R h=>aB he λh3 h4=>aB h4 λha hb=>wpAny_Compare1 (PE.to (cJ.1 ok _ ha R h) λv s1 x st1 hv R1 h1=>PE.to (gG.1 ok _ hb R1 h1) λu s2 y st2 hu R2 h2=>
   ay (rP ok.base ok.room R2 hv hu h2) λr s' q=>by obtain⟨t,e1,R3,hq⟩:=q;exact⟨.bool t,st2,e1,R3,hq⟩) (eq_of_beq h3),cJ.1,gG.1⟩
 |not a cJ=>
  exact⟨λ{C A} ok e he st s Q R h=>UnaryOp_ (PE.to (cJ.1 ok _ he R h) λv s1 x st1 hv R1 h1=>not_of (ay (cL ok.base R1 hv h1) λt s2 q=>⟨.bool _,st1,rfl,q.1,q.2⟩)),trivial⟩
 |gZ a b cJ gG=>
  refine⟨λ{C A} ok e he st s Q R h=>aB he λha hb=>BoolOp_and (PE.to (cJ.1 ok _ ha R h) λv s1 x st1 hv R1 h1=>ay (cL ok.base R1 hv h1) λt s2 q=>?_),trivial⟩;cases t with
  |true=>exact BoolOp_one (gG.1 ok _ hb q.1 q.2)
  |false=>exact⟨x,st1,hv,q.1,q.2⟩
 |ie a b c d cJ gG vm AR=>
  refine⟨λ{C A} ok e he st s Q R h=>aB he λha hb=>aB hb λhb hc=>aB hc λhc hd=>BoolOp_and (PE.to (cJ.1 ok _ ha R h) λv s1 x st1 hv R1 h1=>ay (cL ok.base R1 hv h1) λt s2 q=>?_),trivial⟩;cases t with
  |false=>exact⟨x,st1,hv,q.1,q.2⟩
  |true=>
   refine BoolOp_and (PE.to (gG.1 ok _ hb q.1 q.2) λv s1 x st1 hv R1 h1=>ay (cL ok.base R1 hv h1) λt s2 q=>?_);cases t with
   |false=>exact⟨x,st1,hv,q.1,q.2⟩
   |true=>
    refine BoolOp_and (PE.to (vm.1 ok _ hc q.1 q.2) λv s1 x st1 hv R1 h1=>ay (cL ok.base R1 hv h1) λt s2 q=>?_);cases t with
    |false=>exact⟨x,st1,hv,q.1,q.2⟩
    |true=>exact BoolOp_one (AR.1 ok _ hd q.1 q.2)
 |Ej a b cJ gG=>
  refine⟨λ{C A} ok e he st s Q R h=>aB he λha hb=>BoolOp_or (PE.to (cJ.1 ok _ ha R h) λv s1 x st1 hv R1 h1=>ay (cL ok.base R1 hv h1) λt s2 q=>?_),trivial⟩;cases t with
  |false=>exact BoolOp_one (gG.1 ok _ hb q.1 q.2)
  |true=>exact⟨x,st1,hv,q.1,q.2⟩
 |idx a i cJ ihi=>
  exact⟨λ{C A} ok e he st s Q R h=>aB he λha hb=>Subscript_ (PE.to (cJ.1 ok _ ha R h) λv s1 x st1 hv R1 h1=>PE.to (ihi.1 ok _ hb R1 h1) λu s2 y st2 hu R2 h2=>
   ay (AD bf ok.base R2 hv hu sW h2) λr s' q=>by obtain⟨z,e1,R3,hq⟩:=q;exact⟨z,st2,e1,R3,hq⟩),trivial⟩
 |upto a n cJ ihn=>
  refine⟨λ{C A} ok e he st s Q R h=>aB he λha hb=>Subscript_ (PE.to (cJ.1 ok _ ha R h) λv s1 x st1 hv R1 h1=>wpAny_Slice ?_),trivial⟩;rw[evalPart_none];refine wpAny_pure ?_;rw[evalPart_some];refine PE.to (ihn.1 ok _ hb R1 h1) λu s2 y st2 hu R2 h2=>wpAny_pure ?_
  cases h2 with
  |here ex g1 g2 g3 g4=>
   obtain⟨items,c,k1,k2,k3⟩:=R2.H.list ex;exact VR.bg hv (VR.bC hu λt=>pA ok R2 items _ (cB k1) k2 g1 g3 g4)
  |base ex g1 g2 hB hc hd k2 g3 g4=>
   obtain⟨b1,b2⟩:=ok.base _ _ hB;obtain⟨o',k1,k1'⟩:=R2.H.kept _ _ b1;rw[k1'.eq b2]at k1;exact VR.bg hv (VR.bC hu λt=>pA ok R2 _ _ ⟨_,k1,hc,_,hd⟩ k2 g1 g3 g4)
 |kJ=>exact⟨λ{C A} ok e he st s Q R h=>List_ (spliced_nil (wpAny_newList ⟨.ref s.heap.objs.size,_,rfl,R.make (t:=s.toks) rfl (OO.uL (show aP [] []from trivial)),h _ R.H.bE⟩)),trivial⟩
 |fJ=>
  refine⟨λ{C A} ok e he st s Q R h=>?_,trivial⟩;show wpAny _ _ (eval (.Dict [] [] e.pos) C.env) _ _ _;rw[eval_Dict_empty];refine wpAny_bind (wpAny_standAt (wpAny_newObj_type ?_));exact⟨.ref s.heap.objs.size,_,rfl,R.make (t:=s.toks) rfl (o:= .dict 0 []) ⟨⟨rfl,rfl,rfl⟩,#[],[],rfl,λaj he=>by simp at he,Pairs.nil,List.nodup_nil,trivial⟩,h _ R.H.bE⟩
 |fP a cJ=>
  refine⟨λ{C A} ok e he st s Q R h=>List_ ?_,trivial⟩;rw[aD bW,aK];exact spliced_cons (PE.to (cJ.1 ok _ he R h) λv s1 x st1 hv R1 h1=>spliced_nil (wpAny_newList ⟨.ref s1.heap.objs.size,_,rfl,R1.make (t:=s1.toks) rfl (OO.uL (show aP [v] [x]from⟨hv,trivial⟩)),h1 _ R1.H.bE⟩))
 |An is=>
  refine⟨λ{C A} ok e he st s Q R h=>List_ (oU is _ R λvs s' hv R'=>wpAny_newList ⟨.ref s'.heap.objs.size,_,rfl,R'.make (t:=s'.toks) rfl (OO.uL (by simpa using hv)),h _ R'.H.bE⟩ ?_),trivial⟩;have h1:=hv.length;have h2:=of_decide_eq_true he;unfold av at h1;rw[List.length_map]at h1;rw[h1,sizeLine_eq];exact Nat.le_of_lt_succ (Nat.lt_of_lt_of_le h2 (by decide))
 |wZ a b cJ gG=>exact⟨λ{C A} ok e he st s Q R h=>aB he λha hb=>kO ok [(a,kid e 0),(b,kid e 1)] ⟨⟨cJ.1,ha⟩,⟨gG.1,hb⟩,trivial⟩ (show 2<30 by decide) R h,trivial⟩
 |dI a b c cJ gG vm=>exact⟨λ{C A} ok e he st s Q R h=>aB he λha hr=>aB hr λhb hc=>kO ok [(a,kid e 0),(b,kid e 1),(c,kid e 2)] ⟨⟨cJ.1,ha⟩,⟨gG.1,hb⟩,⟨vm.1,hc⟩,trivial⟩ (show 3<30 by decide) R h,trivial⟩
 |nj a b c d cJ gG vm AR=>exact⟨λ{C A} ok e he st s Q R h=>aB he λha hr=>aB hr λhb hr=>aB hr λhc hd=>kO ok [(a,kid e 0),(b,kid e 1),(c,kid e 2),(d,kid e 3)] ⟨⟨cJ.1,ha⟩,⟨gG.1,hb⟩,⟨vm.1,hc⟩,⟨AR.1,hd⟩,trivial⟩ (show 4<30 by decide) R h,trivial⟩
 |jP f E1=>exact⟨λ{C A} ok e he st s Q R h=>aB he λhn hf=>fZ bf ok [] hn E1.1 hf trivial R h,trivial⟩
 |bH f a E1 cJ=>exact⟨λ{C A} ok e he st s Q R h=>aB he λhn hr=>aB hr λhf ha=>fZ bf ok [(a,kid e 1)] hn E1.1 hf ⟨⟨cJ.1,ha⟩,trivial⟩ R h,trivial⟩
 |call2 f a b E1 cJ gG=>exact⟨λ{C A} ok e he st s Q R h=>aB he λhn hr=>aB hr λhf hr=>aB hr λha hb=>fZ bf ok [(a,kid e 1),(b,kid e 2)] hn E1.1 hf ⟨⟨cJ.1,ha⟩,⟨gG.1,hb⟩,trivial⟩ R h,trivial⟩
 |ig f a b c E1 cJ gG vm=>exact⟨λ{C A} ok e he st s Q R h=>aB he λhn hr=>aB hr λhf hr=>aB hr λha hr=>aB hr λhb hc=>fZ bf ok [(a,kid e 1),(b,kid e 2),(c,kid e 3)] hn E1.1 hf ⟨⟨cJ.1,ha⟩,⟨gG.1,hb⟩,⟨vm.1,hc⟩,trivial⟩ R h,trivial⟩
 |uH f a b c d E1 cJ gG vm AR=>exact⟨λ{C A} ok e he st s Q R h=>aB he λhn hr=>aB hr λhf hr=>aB hr λha hr=>aB hr λhb hr=>aB hr λhc hd=>fZ bf ok [(a,kid e 1),(b,kid e 2),(c,kid e 3),(d,kid e 4)] hn E1.1 hf ⟨⟨cJ.1,ha⟩,⟨gG.1,hb⟩,⟨vm.1,hc⟩,⟨AR.1,hd⟩,trivial⟩ R h,trivial⟩
 |bX o m xO=>exact⟨λ{C A} ok e he st s Q R h=>aB he λhc hr=>aB hr λhl ho=>call_meth bf ok [] hc xO.1 ho trivial (show 0<30 by decide) hl R h,trivial⟩
 |fH o m a xO cJ=>exact⟨λ{C A} ok e he st s Q R h=>aB he λhc hr=>aB hr λhl hr=>aB hr λho ha=>call_meth bf ok [(a,kid e 1)] hc xO.1 ho ⟨⟨cJ.1,ha⟩,trivial⟩ (show 1<30 by decide) hl R h,trivial⟩
 |mh o m a b xO cJ gG=>exact⟨λ{C A} ok e he st s Q R h=>aB he λhc hr=>aB hr λhl hr=>aB hr λho hr=>aB hr λha hb=>call_meth bf ok [(a,kid e 1),(b,kid e 2)] hc xO.1 ho ⟨⟨cJ.1,ha⟩,⟨gG.1,hb⟩,trivial⟩ (show 2<30 by decide) hl R h,trivial⟩
 |rG o m a b c d xO cJ gG vm AR=>exact⟨λ{C A} ok e he st s Q R h=>aB he λhc hr=>aB hr λhl hr=>aB hr λho hr=>aB hr λha hr=>aB hr λhb hr=>aB hr λhcc hd=>call_meth bf ok [(a,kid e 1),(b,kid e 2),(c,kid e 3),(d,kid e 4)] hc xO.1 ho ⟨⟨cJ.1,ha⟩,⟨gG.1,hb⟩,⟨vm.1,hcc⟩,⟨AR.1,hd⟩,trivial⟩ (show 4<30 by decide) hl R h,trivial⟩
 |kH o m a xO cJ=>
  refine⟨λ{C A} ok e he st s Q R h=>aB he λh3 hr=>aB hr λh6 h7=>jV (by simpa using h3) rfl (PE.to (xO.1 ok _ h6 R h) λv s1 x st1 hv R1 h1=>?_),trivial⟩;obtain⟨f,hr,h1⟩:=h1;refine ay (mO bf ok.base R1 hv hr) λfv s2 q'=>?_
  obtain⟨q,e1,hg,R2,k1,k2,k3,k4⟩:=q';subst e1;have RH:=R2.hold k1 hg k2 k3;have B0:gR B l (C.hold q (methodObj (.ref f) v)) A:=ok.hold k1;refine ks_call (P:=λh=>h.get? q=some (methodObj (.ref f) v)∧(KF w.params).In h) rfl (λh p=>⟨_, .inr (.inr rfl),mP p.2 p.1 k4⟩) ?_;show wpAny _ _ (evalArgs (.ref q) true [(true,(do let v←eval (fill a (kid (kid e 1) 0)) C.env;standAt e.pos;pure v))] []) _ _ _;refine ks_lone (PE.to (cJ.1 B0 _ h7 RH h1) λyv s3 y st3 hy R3 h3=>?_);refine oX R3 hy h3 λys vs s4 hc hvs R5=>?_
  obtain⟨R6,g3,g4⟩:=R5.gV (R2.AL k1) k1 R2.H.two;exact⟨⟨g3,R6.H.eU bf ok.base⟩,iA bf ok g3 hv hvs R6 hc.1 hc.2⟩
 |kI o m a b xO cJ gG=>
  refine⟨λ{C A} ok e he st s Q R h=>aB he λh3 hr=>aB hr λh6 hr=>aB hr λh7 h8=>jV (by simpa using h3) (by rw[aD bW];rfl) (PE.to (xO.1 ok _ h6 R h) λv s1 x st1 hv R1 h1=>?_),trivial⟩;obtain⟨f,hr,h1⟩:=h1;refine ay (mO bf ok.base R1 hv hr) λfv s2 q'=>?_
  obtain⟨q,e1,hg,R2,k1,k2,k3,k4⟩:=q';subst e1;have RH:=R2.hold k1 hg k2 k3;have B0:gR B l (C.hold q (methodObj (.ref f) v)) A:=ok.hold k1;refine ks_call (P:=λh=>h.get? q=some (methodObj (.ref f) v)∧(KF w.params).In h) (by rw[aD bW];rfl) (λh p=>⟨_, .inr (.inr rfl),mP p.2 p.1 k4⟩) ?_;rw[aD bW,aK];refine evalArgs_plain (spliced_cons (PE.to (cJ.1 B0 _ h7 RH h1) λzv s3 z st3 hz R3 h3=>?_));show wpAny _ _ (spliced [(true,(do let v←eval (fill b (kid (kid e 2) 0)) C.env;standAt e.pos;pure v))]) _ _ _;refine ks_spliced (PE.to (gG.1 B0 _ h8 R3 h3) λyv s4 y YO hy R4 h4=>?_);refine oX R4 hy h4 λys vs s5 hc hvs R5=>spliced_nil ?_
  obtain⟨R6,g3,g4⟩:=R5.gV (R2.AL k1) k1 R2.H.two;rw[List.append_nil];exact⟨⟨g3,R6.H.eU bf ok.base⟩,iA bf ok g3 hv (vs:=zv::vs) (xs:=z::ys) ⟨hz,hvs⟩ R6 hc.1 hc.2⟩
 |attr o t xO=>
  exact⟨λ{C A} ok e he st s Q R h=>aB he λh3 h1=>gA (by simpa using h3) (PE.to (xO.1 ok _ h1 R h) λv s1 x st1 hv R1 h1=>
   ay (jW (B:=B) (Q:=λr Ω=>∃z,VR r z∧Ω=st1.Ω∧Q z st1) ok.base R1 λK os hK RH=>ay (mC bf hK RH hv h1) λr s' q=>by obtain⟨z,e1,R',q⟩:=q;exact⟨_,R',z,e1,rfl,q⟩) λr s' q=>by obtain⟨az,R',z,e1,e2,q⟩:=q;exact⟨z,st1,e1,by subst e2;exact R',q⟩),trivial⟩
 |iu o b xO=>
  refine⟨λ{C A} ok e he st s Q R h=>aB he λh3 h1=>gA (by simpa using h3) (PE.to (xO.1 ok _ h1 R h) λv s1 x st1 hv R1 h1=>?_),trivial⟩;cases h1 with
  |get e h1=>
   obtain⟨ob,g1,g2,Eu,kvs,g3,_⟩:=R1.H.objs _ _ e;exact VR.bg hv (jt FB.get g1 g2.1 g2.2.1 (by unfold notCls;rw[g3]) ⟨.ref _,_,rfl,R1.make (o:= .bound .aO _) rfl ⟨rfl,rfl⟩,h1 _ R1.H.bE⟩)
  |cont e h1=>
   obtain⟨ob,g1,g2,es,ep,t,g3,_⟩:=R1.H.objs _ _ e;exact VR.bg hv (jt FB.cont g1 g2.1 g2.2.1 (by unfold notCls;rw[g3]) ⟨.ref _,_,rfl,R1.make (o:= .bound .dM _) rfl ⟨rfl,rfl⟩,h1 _ R1.H.bE⟩)
  |next e h1=>
   obtain⟨ob,g1,g2,g3,g4⟩:=R1.H.objs _ _ e;exact VR.bg hv (jt FB.next g1 g2 g3 (by unfold notCls;rw[g4]) ⟨.ref _,_,rfl,R1.make (o:= .bound .dN _) rfl ⟨rfl,rfl⟩,h1 _ R1.H.bE⟩)
 |Jp v a cJ=>
  exact⟨λ{C A} ok e he st s Q R h=>aB he λh3 h1=>wpAny_NamedExpr (PE.to (cJ.1 ok _ h1 R h) λr s1 x st1 hr R1 h1=>wpAny_assign_Name (ay (cM R1 ok.kind (of_decide_eq_true h3) hr) λaj s2 R2=>⟨x,_,hr,R2,h1⟩)),trivial⟩
 |comp elt v k a b Xj cJ gG=>
  refine⟨λ{C A} ok e he st s Q R h=>aB he λhco hr=>aB hr λhit h1=>?_,trivial⟩;show wpAny _ _ (eval (.ListComp (fill elt (kid e 0)) [⟨.Name v.name (kid e 1).pos,k.fill (fill a) (fill b) (kid e 2),[],0⟩] (kM e) e.pos) C.env) _ _ _;rw[eval_ListComp];refine gz (use:=none) bf ok (fD.to cJ.1 ok) (fD.to gG.1 ok) hit hco (λC' A' ok' hs st s Q R h=>Xj.1 ok' _ (by rw[hs];exact h1) R h) (λC' A' ok' hs st s Q R h=>?_) R h (λD L ms s' st' hn hK jb hL hDL R' hq=>vj hn hK jb hL R' hq);rw[List.forIn_nil];exact wpAny_pure ⟨st,R,h⟩
 |fQ elt v k a b c Xj cJ gG vm=>
  refine⟨λ{C A} ok e he st s Q R h=>aB he λhco hr=>aB hr λhit hr=>aB hr λh1 hr=>aB hr λh6 h7=>?_,trivial⟩;show wpAny _ _ (eval (.ListComp (fill elt (kid e 0)) [⟨.Name v.name (kid e 1).pos,k.fill (fill a) (fill b) (kid e 2),[fill c (kid e 3)],0⟩] (kM e) e.pos) C.env) _ _ _;rw[eval_ListComp];exact gz (use:=none) bf ok (fD.to cJ.1 ok) (fD.to gG.1 ok) hit hco (λC' A' ok' hs st s Q R h=>Xj.1 ok' _ (by rw[hs];exact h1) R h) (rS bf vm h6 h7) R h (λD L ms s' st' hn hK jb hL hDL R' hq=>vj hn hK jb hL R' hq)
 |eG v=>
  refine⟨λ{C A} ok e he st s Q R h=>aB he λh2 hr=>aB hr λh4 hr=>aB hr λh6 h9=>?_,trivial⟩;obtain⟨p,zs,hm,hp,ht,hlen,hl,YJ,hq⟩:=h;refine CR ok R λK os hK hfr RH=>wpAny_Call_ofName (bQ bf ok h2 R λv hv=>?_)
  cases hv;rw[aD rfl,aK];refine PySem.callWith_type rfl (evalArgs_plain (spliced_cons (wpAny_Call_ofName (bQ bf ok h4 R λv hv=>?_))));cases hv;rw[aD rfl,aD rfl,aK,aK];refine PySem.callWith_type rfl (evalArgs_plain (spliced_cons (gA rfl (bQ bf ok h6 R λv hv=>?_))));cases hv;refine ay (vh (Q:=λx Ω=>Q x {st with Ω}) bf hK RH hfr ok.room hl hp ht hlen YJ hq) λf s1 q=>?_
  obtain⟨h',t',e1,hk,hw⟩:=q;subst e1;have R1:Rep prog w C st {s with heap:=h',toks:=t'}:=R.ext hk;refine spliced_cons (ay (eval_var R1 ok.kind h9 (λq=>ok.cells v q h9) hm) λr s2 q=>spliced_nil ?_);obtain⟨hr,e2⟩:=q;cases hr;subst e2;exact ay hw λmo s3 h3=>spliced_nil h3
 |kK c a vm cJ=>
  refine⟨λ{C A} ok e he st s Q R h=>aB he λh2 hr=>aB hr λh4 hr=>aB hr λhc ha=>MethodCall_ (bQ bf ok h2 R λv hv=>?_) (iU rfl (iC [(c,kid e 1),(a,kid e 2)]) (show 2<30 by decide) h4),trivial⟩;cases hv;refine oZ ?_;rw[aD bW,aD bW,aK,aK];refine callWith_builtin rfl (evalArgs_plain (spliced_cons (PE.to (vm.1 ok _ hc R.toks h) λv s1 x st1 hv R1 h1=>spliced_cons (PE.to (cJ.1 ok _ ha R1 h1) λu s2 y st2 hu R2 h2=>spliced_nil ?_))));cases h2 with
  |mk e hl h2=>exact VR.bg hv (VR.bg hu (lift ok.base R2 λK os hK RH=>qz bf hK RH e hl h2))
theorem rT(bf:BF prog w B)(me:ME):∀{C:Cx} {A:Around},gR B l C A→∀(e:Expr),bM me C.env.scope e=true→∀{st:St} {s:Shared} {Q:Bool→St→Prop},Rep prog w C st s→uJ prog w B l me Q st→wpAny (model prog w) A (isTrue (fill me e) C.env (eval (fill me e) C.env)) (PB prog w C Q) bS s:=by
 induction me with
 |not a cJ=>exact λok e he st s Q R h=>isTrue_not (ay (cJ ok _ he R h) λc s' hx=>by obtain⟨st,R,q⟩:=hx;exact⟨st,R,q⟩)
 |gZ a b cJ gG=>
  refine λok e he st s Q R h=>aB he λha hb=>isTrue_and (ay (cJ ok _ ha R h) λt s1 q=>?_)
  obtain⟨st1,R1,h1⟩:=q;cases t with
  |false=>exact⟨st1,R1,h1⟩
  |true=>
   refine isTrue_and (ay (gG ok _ hb R1 h1) λt s2 q=>?_);cases t with
   |false=>exact q
   |true=>exact isTrue_and_nil q
 |ie a b c d cJ gG vm AR=>
  refine λok e he st s Q R h=>aB he λha hb=>aB hb λhb hc=>aB hc λhc hd=>isTrue_and (ay (cJ ok _ ha R h) λt s1 q=>?_)
  obtain⟨st1,R1,h1⟩:=q;cases t with
  |false=>exact⟨st1,R1,h1⟩
  |true=>
   refine isTrue_and (ay (gG ok _ hb R1 h1) λt s2 q=>?_);obtain⟨st2,R2,h2⟩:=q;cases t with
   |false=>exact⟨st2,R2,h2⟩
   |true=>
    refine isTrue_and (ay (vm ok _ hc R2 h2) λt s2 q=>?_);obtain⟨st2,R2,h2⟩:=q;cases t with
    |false=>exact⟨st2,R2,h2⟩
    |true=>
     refine isTrue_and (ay (AR ok _ hd R2 h2) λt s2 q=>?_);cases t with
     |false=>exact q
     |true=>exact isTrue_and_nil q
 |Ej a b cJ gG=>
  refine λok e he st s Q R h=>aB he λha hb=>isTrue_or (ay (cJ ok _ ha R h) λt s1 q=>?_)
  obtain⟨st1,R1,h1⟩:=q;cases t with
  |true=>exact⟨st1,R1,h1⟩
  |false=>
   refine isTrue_or (ay (gG ok _ hb R1 h1) λt s2 q=>?_);cases t with
   |true=>exact q
   |false=>exact isTrue_or_nil q
 |cmp op a b=>exact λok e he st s Q R h=>jk (aT bf a).1 (aT bf b).1 ok he R (λaj aj q=>q) h
 |_=>exact λok e he st s Q R h=>mQ bf (aT bf _) ok he rfl R h
structure sZ(B:Addr→Option Obj)(l:Nat)(C:Cx)(A:Around):Prop where
 ok:gR B l C A
 cellK:∀(v:V) c,C.env.kindOf v.name=some .cell→C.env.cells.lookup v.name=some c→C.K c=none
 zM:∀(v u:V) c,C.env.cells.lookup v.name=some c→C.env.cells.lookup u.name=some c→v=u
 top:∃outer,A.frames=some (C.env::outer)
 own:C.env.frame=some C.env.locals
theorem sZ.hold(ok:sZ B l C A){st:St}(R:Rep prog w C st s){a:Addr}{o:Obj}(ha:C.K a=none)(hc:∀x,¬s.heap.IsCell a x):sZ B l (C.hold a o) A:=
 ⟨ok.ok.hold ha,λv c h1 h2=>by
  obtain⟨x,hi,_⟩:=R.loc.2 v c (.inl h1) h2;have hne:c≠a:=λq=>hc x (by rw[←q];exact hi)
  show (if c=a then some o else C.K c)=none;rw[if_neg hne];exact ok.cellK v c h1 h2,ok.zM,ok.top,ok.own⟩
noncomputable def cz:Option NameKind→Bool
 |some .local|some .cell=>true
 |_=>false
theorem gB(ok:sZ B l C A){v:V}{r:Value}{x:af}{st:St}(R:Rep prog w C st s)(hl:cz (C.env.kindOf v.name)=true)(hr:VR r x):
  wpAny (model prog w) A (storeName C.env v.name r) (λaj s'=>Rep prog w C {st with m:=st.m.set v x} s') bS s:=by
 cases e:C.env.kindOf v.name with
 |none=>rw[e]at hl;cases hl
 |some k=>
  cases k with
  |«local»=>exact cM R ok.ok.kind e hr
  |cell=>
   obtain⟨c,hc⟩:=Option.isSome_iff_exists.mp (ok.ok.cells v (by rw[e];simp) (by rw[e];rfl));obtain⟨x0,hi,_⟩:=R.loc.2 v c (.inl e) hc;have hK:=ok.cellK v c e hc;have jb:=R.H.dP hi;refine wpAny_storeName_cell ok.ok.kind e hc hi λh' hi' hs=>?_
   obtain⟨⟨ml,hn,hv⟩,hcs⟩:=R.loc;have hLc:C.env.locals≠c:=λq=>by
    obtain⟨o,es,ep,ho,hd,_⟩:=hn;obtain⟨oc,ho',hd'⟩:=hi;rw[q,ho']at ho;cases ho;rw[hd']at hd;cases hd
   refine⟨R.H.other (t:=s.toks) hK jb (λb o hb e=>(hs.2 b hb).trans e),⟨⟨ml,hn.sameBut hs hLc,λu hu=>?_⟩,λu c' h1 h2=>?_⟩,R.lk,R.qn⟩
   ·show jg _ (if u=v then some x else st.m u)
    rw[if_neg (λq=>by rw[q,e]at hu;cases hu)];exact hv u hu
   ·show ∃y,h'.IsCell c' y∧jg y (if u=v then some x else st.m u)
    by_cases q:u=v
    ·subst q
     rw[hc]at h2;cases h2;exact⟨_,hi',by rw[if_pos rfl];exact⟨r,rfl,hr⟩⟩
    ·have hne:c'≠c:=λq'=>q (ok.zM u v c (q'▸h2) hc)
     obtain⟨y,⟨oc,ho,hd⟩,hy⟩:=hcs u c' h1 h2;exact⟨y,⟨oc,(hs.2 c' hne).trans ho,hd⟩,by rw[if_neg q];exact hy⟩
  |free=>rw[e]at hl;cases hl
  |globalExplicit=>rw[e]at hl;cases hl
  |globalImplicit=>rw[e]at hl;cases hl
theorem rU(bf:BF prog w B)(ok:gR B l C A){v:Value}{x:af}{n:Nat}{st:St}{Q:List af→Prop}(R:Rep prog w C st s)(hv:VR v x)(h:uK x n Q st.Ω):
  wpAny (model prog w) A (unpackItems v n none) (λvs s'=>∃ys,aP vs ys∧ys.length=n∧Rep prog w C st s'∧Q ys) bS s:=by
 cases h with
 |tup e hn hq=>
  subst hn;obtain⟨items,c,g1,g2,g3⟩:=R.H.tup e;rw[←g3];exact VR.bg hv (unpackItems_tuple ok.room.1 ⟨_,g1,rfl,c,rfl⟩ λh' he=>⟨_,g2,g3.symm,R.ext (t:=s.toks) (λb o e=>he b o (Nat.ne_of_lt (Heap.lt_size e)) e),hq⟩)
 |@cZ p ys e hn hq=>
  subst hn;exact VR.bg hv (ay (jW (B:=B) (Q:=λvs Ω=>aP vs ys∧Ω=st.Ω) ok.base R λK os hK RH=>ay (EG bf hK RH ok.room.1 e) λvs s' ⟨a,b⟩=>⟨_,b,a,rfl⟩) λvs s' ⟨az,R',a,b⟩=>⟨ys,a,rfl,by subst b;exact R',hq⟩)
noncomputable def dW:List V→List Expr→List Expr
 |[],aj=>[]
 |v::vs,es=>v.at (es.headD default)::dW vs es.tail
noncomputable def storeOk(sc:Scope)(vs:List V):Bool:=vs.all λv=>cz (sc.names.lookup v.name)
theorem jw{env:Env}:∀(vs:List V) (es:List Expr),(assignEach (dW vs es) env).length=vs.length
 |[],aj=>rfl
 |aj::vs,es=>congrArg (·+1) (jw vs es.tail)
theorem fV{env:Env}:∀(vs:List V) (es:List Expr),(assignEach (dW vs es) env).findIdx? (·.1)=none
 |[],aj=>rfl
 |v::vs,es=>by
  show List.findIdx? (·.1) ((false,assign (v.at (es.headD default)) env)::assignEach (dW vs es.tail) env)=none;rw[List.findIdx?_cons,fV vs es.tail];rfl
theorem dX(ok:sZ B l C A):∀(vs:List V) (es:List Expr),storeOk C.env.scope vs=true→∀{us:List Value} {ys:List af} {st:St} {s:Shared},aP us ys→ys.length=vs.length→Rep prog w C st s→
  wpAny (model prog w) A (assignInOrder ((assignEach (dW vs es) C.env).map (·.2)) us) (λaj s'=>Rep prog w C {st with m:=fU st.m vs ys} s') bS s
 |[],aj,br,us,ys,st,s,hv,hl,R=>by
  cases ys with
  |nil=>rw[hv.zero];exact wpAny_pure R
  |cons aj br=>cases hl
 |v::vs,es,h,us,ys,st,s,hv,hl,R=>by
  refine aB h λh3 h2=>?_
  cases ys with
  |nil=>cases hl
  |cons y ys=>
   cases us with
   |nil=>exact hv.elim
   |cons u us=>
    show wpAny _ _ (do holding us (assign (.Name v.name (es.headD default).pos) C.env u);assignInOrder ((assignEach (dW vs es.tail) C.env).map (·.2)) us) _ _ _;refine wpAny_bind (wpAny_holding (wpAny_assign_Name (ay (gB ok R h3 hv.1) λaj s' R'=>?_)));exact dX ok vs es.tail h2 hv.2 (Nat.succ.inj hl) R'
noncomputable def rV:MT→Expr→Expr
 | .var v,e=>v.at e
 | .at o t,e=> .Attribute (fill o (kid e 0)) t.name e.pos
 | .idx a i,e=> .Subscript (fill a (kid e 0)) (fill i (kid e 1)) e.pos
 | .tup vs,e=> .Tuple (dW vs (kids e)) (ql e) e.pos
noncomputable def YQ(sc:Scope):MT→Expr→Bool
 | .var v,aj=>cz (sc.names.lookup v.name)
 | .at o _,e=>bM o sc (kid e 0)
 | .idx a i,e=>bM a sc (kid e 0)&&bM i sc (kid e 1)
 | .tup vs,aj=>storeOk sc vs
theorem jx(bf:BF prog w B)(ok:sZ B l C A)(t:MT)(e:Expr)(he:YQ C.env.scope t e=true){r:Value}{x:af}{k:St→Prop}{st:St}(R:Rep prog w C st s)(hr:VR r x)(h:Ma prog w B l t x k st):
  wpAny (model prog w) A (assign (rV t e) C.env r) (λaj s'=>∃st',Rep prog w C st' s'∧k st') bS s:=by
 cases t with
 |var v=>exact wpAny_assign_Name (ay (gB ok R he hr) λaj s' R'=>⟨_,R',h⟩)
 |«at» o t=>
  show wpAny _ _ (assign (.Attribute (fill o (kid e 0)) t.name e.pos) C.env r) _ _ _;rw[assign_Attribute];refine wpAny_bind (wpAny_holding (PE.to ((aT bf o).1 ok.ok _ he R h) λov s1 y st1 hy R1 h1=>wpAny_bind (wpAny_standAt (wpAny_bind (wpAny_holding ?_)))));exact ay (jW (B:=B) (Q:=λaj Ω=>k {st1 with Ω}) ok.ok.base R1 λK os hK RH=>iy bf hK RH hy hr h1) λaj s' q=>wpAny_release ⟨_,q.choose_spec⟩
 |idx a i=>
  refine aB he λh1 h2=>?_
  show wpAny _ _ (assign (.Subscript (fill a (kid e 0)) (fill i (kid e 1)) e.pos) C.env r) _ _ _;rw[assign_Subscript];refine wpAny_bind (wpAny_holding (PE.to ((aT bf a).1 ok.ok _ h1 R h) λov s1 y st1 hy R1 h1=>wpAny_bind (wpAny_holding (PE.to ((aT bf i).1 ok.ok _ h2 R1 h1) λiv s2 z st2 hz R2 h2=>wpAny_bind (wpAny_standAt (wpAny_bind (wpAny_holding ?_)))))));exact ay (jW (B:=B) (Q:=λaj Ω=>k {st2 with Ω}) ok.ok.base R2 λK os hK RH=>qv RH hy hz hr h2) λaj s' q=>wpAny_release ⟨_,q.choose_spec⟩
 |tup vs=>
  show wpAny _ _ (assign (.Tuple (dW vs (kids e)) (ql e) e.pos) C.env r) _ _ _;rw[assign_Tuple];refine wpAny_bind (wpAny_standAt ?_);unfold unpack;rw[jw,fV];refine wpAny_bind (wpAny_holding (ay (rU bf ok.ok R hr h) λus s1 q=>?_));obtain⟨ys,hv,hl,R1,hq⟩:=q;exact ay (dX ok vs _ he hv hl R1) λaj s' R'=>⟨_,R',hq⟩
noncomputable def iF:List MT→List Expr→List Expr
 |[],aj=>[]
 |t::ts,es=>rV t (es.headD default)::iF ts es.tail
noncomputable def IF(sc:Scope):List MT→List Expr→Bool
 |[],aj=>true
 |t::ts,es=>YQ sc t (es.headD default)&&IF sc ts es.tail
theorem jy{t:MT}{e:Expr}:isStar (rV t e)=false:=by cases t<;>rfl
theorem eV{e:Expr}{es:List Expr}{env:Env}(h:isStar e=false):assignEach (e::es) env=(false,assign e env)::assignEach es env:=by
 cases e<;>first|rfl|cases h
theorem mR(bf:BF prog w B)(ok:sZ B l C A):∀(ts:List MT) (es:List Expr),IF C.env.scope ts es=true→∀{r:Value} {x:af} {k:St→Prop} {st:St} {s:Shared},Rep prog w C st s→VR r x→zC prog w B l ts x k st→
  wpAny (model prog w) A (assignAll r ((assignEach (iF ts es) C.env).map (·.2))) (λaj s'=>∃st',Rep prog w C st' s'∧k st') bS s
 |[],aj,br,r,x,k,st,s,R,hr,h=>wpAny_pure ⟨st,R,h⟩
 |[t],es,hc,r,x,k,st,s,R,hr,h=>by
  show wpAny _ _ (assignAll r ((assignEach [rV t (es.headD default)] C.env).map (·.2))) _ _ _;rw[eV jy];exact jx bf ok t _ (bJ hc).1 R hr h
 |t::t'::ts,es,hc,r,x,k,st,s,R,hr,h=>by
  refine aB hc λh1 h2=>?_
  have e1:assignEach (iF (t'::ts) es.tail) C.env=(false,assign (rV t' (es.tail.headD default)) C.env)::assignEach (iF ts es.tail.tail) C.env:=eV jy;show wpAny _ _ (assignAll r ((assignEach (rV t (es.headD default)::iF (t'::ts) es.tail) C.env).map (·.2))) _ _ _;rw[eV jy,List.map_cons];have key:∀{st1 s1},Rep prog w C st1 s1→zC prog w B l (t'::ts) x k st1→_:=λ{st1 s1} R1 h1=>mR bf ok (t'::ts) es.tail h2 R1 hr h1
  rw[e1]at key ⊢;refine wpAny_bind (wpAny_holding (ay (jx bf ok t _ h1 R hr h) λaj s1 q=>?_));obtain⟨st1,R1,h1⟩:=q;exact key R1 h1
theorem jl{op:Operator}{v u:Value}{x y:af}{st:St}{Q:af→Prop}(R:Rep prog w C st s)(hv:VR v x)(hu:VR u y)
  (h:Ak op x y Q):wpAny (model prog w) A (inplaceOp op v u) (λr s'=>∃z,VR r z∧Rep prog w C st s'∧Q z) bS s:=by
 cases h with
 |add h=>exact VR.bC hv λt=>VR.bC hu λt'=>wpAny_iadd_int ⟨.int _,VR.mkInt,R.toks,h⟩
 |sub h=>exact VR.bC hv λt=>VR.bC hu λt'=>PyProof.Rows.isub_int ⟨.int _,VR.mkInt,R.toks,h⟩
end
noncomputable def iW:ME→Bool
 | .comp ..| .fQ ..=>true
 |_=>false
@[elab_as_elim] theorem rW{M:ME→Prop}{e:ME}(h:iW e=true)(p:∀elt v k a b,M (.comp elt v k a b))(q:∀elt v k a b c,M (.fQ elt v k a b c)):M e:=by
 cases e<;>first|exact p ..|exact q ..|(cases h;done)
noncomputable def C5(sc:Scope):Env:={scope:=sc,locals:=0,globals:=0,cells:=[],qual:=⟨#[]⟩,func:=none,code:= .none,frame:=none,builtins:=0}
noncomputable def nJ(sc:Scope)(ts:List Expr)(v:Expr)(n:Nat):Bool:=match pureOf (swapsWithSole ts v n (C5 sc))with
 |some b=> !b
 |none=>false
theorem pB{ts:List Expr}{v:Expr}{n:Nat}{env:Env}(h:nJ env.scope ts v n=true):swapsWithSole ts v n env=pure false:=by
 have e:swapsWithSole ts v n env=swapsWithSole ts v n (C5 env.scope):=by
  cases ts with
  |nil=>rfl
  |cons t ts=>cases ts<;>rfl
 unfold nJ at h;rw[e];cases q:pureOf (swapsWithSole ts v n (C5 env.scope))with
 |none=>rw[q]at h;cases h
 |some b=>rw[q]at h;cases b with
  |false=>exact of_pureOf q
  |true=>cases h
noncomputable def swapped(sc:Scope)(ts:List Expr)(v:Expr)(r:Option (List Str)):Bool:=match pureOf (swappedStores ts v (C5 sc))with
 |some r'=>decide (r'=r)
 |none=>false
theorem pC{ts:List Expr}{v:Expr}{r:Option (List Str)}{env:Env}(h:swapped env.scope ts v r=true):swappedStores ts v env=pure r:=by
 unfold swapped at h;cases q:pureOf (swappedStores ts v (C5 env.scope))with
 |none=>rw[q]at h;cases h
 |some b=>
  rw[q]at h;have h:=of_decide_eq_true h;subst h;exact of_pureOf q
noncomputable def IG(sc:Scope)(vs:List V):Bool:=
 decide (vs.Nodup)&&(decide (vs.length=2∨vs.length=3)&&(vs.all λv=>decide (sc.names.lookup v.name=some .local)))
inductive PF(prog:Program)(w:World)(C:Cx)(Q:bl→St→Prop)(f:Flow)(s':Shared):Prop
 |mk (fl:bl) (st':St) (h:FR f fl) (R:Rep prog w C st' s') (q:Q fl st'):PF prog w C Q f s'
theorem II{α:Type}{n:Nat}:∀{l:List α},l.length=n+1→∃a r,l=a::r∧r.length=n
 |[],h=>by cases h
 |a::r,h=>⟨a,r,rfl,Nat.succ.inj h⟩
theorem IJ{α:Type}{l:List α}(h:l.length=2):∃a b,l=[a,b]:=by
 obtain⟨a,r,rfl,h1⟩:=II h;obtain⟨b,r,rfl,h2⟩:=II h1;exact⟨a,b,by rw[List.eq_nil_of_length_eq_zero h2]⟩
theorem MF{α:Type}{l:List α}(h:l.length=3):∃a b c,l=[a,b,c]:=by
 obtain⟨a,r,rfl,h1⟩:=II h;obtain⟨b,c,rfl⟩:=IJ h1;exact⟨a,b,c,rfl⟩
theorem xP{vs:List V}{ys:List af}{m:eS}(h:vs.Nodup)(h3:vs.length=2∨vs.length=3)(hl:ys.length=vs.length):fU m vs.reverse ys.reverse=fU m vs ys:=by
 rcases h3 with h3|h3
 ·obtain⟨a,b,rfl⟩:=IJ h3
  obtain⟨x,y,rfl⟩:=IJ hl;have hab:a≠b:=λq=>by subst q;cases h with|cons h aj=>exact h a (.head _) rfl
  funext u
  show (if u=a then _ else if u=b then _ else _)=(if u=b then _ else if u=a then _ else _)
  by_cases q:u=a
  ·rw[if_pos q,if_neg λq'=>hab (q.symm.trans q'),if_pos q]
  ·rw[if_neg q,if_neg q]
 ·obtain⟨a,b,c,rfl⟩:=MF h3
  obtain⟨x,y,z,rfl⟩:=MF hl;have hab:a≠b:=λq=>by subst q;cases h with|cons h aj=>exact h a (.head _) rfl
  have hac:a≠c:=λq=>by subst q;cases h with|cons h aj=>exact h a (.tail _ (.head _)) rfl
  have hbc:b≠c:=λq=>by subst q;cases h with|cons aj h=>cases h with|cons h aj=>exact h b (.head _) rfl
  funext u
  show (if u=a then _ else if u=b then _ else if u=c then _ else _)=(if u=c then _ else if u=b then _ else if u=a then _ else _)
  by_cases q:u=a
  ·rw[if_pos q,if_neg λq'=>hac (q.symm.trans q'),if_neg λq'=>hab (q.symm.trans q'),if_pos q]
  ·by_cases q1:u=b
   ·rw[if_neg q,if_pos q1,if_neg λq'=>hbc (q1.symm.trans q'),if_pos q1]
   ·rw[if_neg q,if_neg q1,if_neg q1,if_neg q]
section
variable{prog:Program}{w:World}{B:Addr→Option Obj}{l:Nat}{C:Cx}{A:Around}{s:Shared}
theorem gH(ok:sZ B l C A):∀(vs:List V),(∀v∈vs,C.env.kindOf v.name=some .local)→∀{us:List Value} {ys:List af} {st:St} {s:Shared},aP us ys→ys.length=vs.length→Rep prog w C st s→
  wpAny (model prog w) A (assignInOrder ((vs.map V.name).map λn=>bindName C.env n) us) (λaj s'=>Rep prog w C {st with m:=fU st.m vs ys} s') bS s
 |[],aj,us,ys,st,s,hv,hl,R=>by
  cases ys with
  |nil=>rw[hv.zero];exact wpAny_pure R
  |cons aj br=>cases hl
 |v::vs,h,us,ys,st,s,hv,hl,R=>by
  cases ys with
  |nil=>cases hl
  |cons y ys=>
   cases us with
   |nil=>exact hv.elim
   |cons u us=>
    show wpAny _ _ (do holding us (bindName C.env v.name u);assignInOrder ((vs.map V.name).map λn=>bindName C.env n) us) _ _ _;refine wpAny_bind (wpAny_holding (wpAny_bindName (ay (cM R ok.ok.kind (h v (.head _)) hv.1) λaj s' R'=>?_)));exact gH ok vs (λu hu=>h u (.tail _ hu)) hv.2 (Nat.succ.inj hl) R'
structure SV where
 ts:List Expr:=[]
 v:Expr:=default
 b:List Stmt:=[]
 o:List Stmt:=[]
 h:ExceptHandler:=default
 p:Bool:=false
noncomputable def rX:Stmt→SV
 | .Assign ts v aj=>{ts:=ts,v:=v}
 | .AugAssign t aj v br=>{ts:=[t],v:=v}
 | .For t v b aj br=>{ts:=[t],v:=v,b:=b}
 | .Delete ts aj=>{ts:=ts}
 | .While v b o aj=>{v:=v,b:=b,o:=o}
 | .If v b o aj=>{v:=v,b:=b,o:=o}
 | .Return v aj=>{v:=v.getD default}
 | .Expr v aj=>{v:=v}
 | .Try b hs aj br dg=>{b:=b,h:=hs.headD default}
 | .Pass aj=>{p:=true}
 |_=>{}
noncomputable def vn(s:Stmt):List Expr:=(rX s).ts
noncomputable def cy(s:Stmt):Expr:=(rX s).v
noncomputable def sB(s:Stmt):List Stmt:=(rX s).b
noncomputable def sO(s:Stmt):List Stmt:=(rX s).o
noncomputable def sH(s:Stmt):ExceptHandler:=(rX s).h
noncomputable def E2(s:Stmt):Bool:=(rX s).p
noncomputable def hT:ExceptHandler→Expr
 | .ExceptHandler t aj br dg=>t.getD default
noncomputable def hB:ExceptHandler→List Stmt
 | .ExceptHandler aj br b dg=>b
noncomputable def hP:ExceptHandler→Pos
 | .ExceptHandler aj br dg p=>p
noncomputable def sT(st:Stmt):Expr:=(vn st).headD default
noncomputable def hd(b:List Stmt):Stmt:=b.headD default
noncomputable def MI.fill(it:MI)(e:Expr):Expr:=it.k.fill (Mine.Internal.fill it.a) (Mine.Internal.fill it.b) e
noncomputable def MI.ok(it:MI)(sc:Scope)(e:Expr):Bool:=it.k.ok (Mine.Internal.fill it.a) (bM it.a sc) (bM it.b sc) sc e
noncomputable def Xk(v its d xs:V)(st:Stmt):Stmt:=
 .Try [.Assign [v.at (sT (hd (sB st)))] (fill (.jP (.idx (.var its) (.neg 1))) (cy (hd (sB st)))) (hd (sB st)).pos, .Break (hd (sB st).tail).pos]
  [.ExceptHandler (some (G.StopIteration.at (hT (sH st)))) none [.Delete [fill (.idx (.var d) (.bX (.var xs) .pop)) (sT (hd (hB (sH st))))] (hd (hB (sH st))).pos, .Expr (fill (.bX (.var its) .pop) (cy (hd (hB (sH st)).tail))) (hd (hB (sH st)).tail).pos] (hP (sH st))] [] [] st.pos
noncomputable def C6(st:Stmt):Stmt:=if E2 st then .Pass st.pos else .Expr (.Constant (.str (strOf (cy st))) (ql (cy st)) (cy st).pos) st.pos
noncomputable def V.loc(v:V)(sc:Scope):Bool:=decide (sc.names.lookup v.name=some .local)
noncomputable def aL:MS→List Stmt→List Stmt
 | .nil,aj=>[]
 | .asg ts e k,b=> .Assign (iF ts (vn (hd b))) (fill e (cy (hd b))) (hd b).pos::aL k b.tail
 | .Cq v e k,b=> .Assign [v.at (sT (hd b))] (fill e (cy (hd b))) (hd b).pos::aL k b.tail
 | .jQ vs e k,b=> .Assign [.Tuple (dW vs (kids (sT (hd b)))) (ql (sT (hd b))) (sT (hd b)).pos] (fill e (cy (hd b))) (hd b).pos::aL k b.tail
 | .aug v op e k,b=> .AugAssign (v.at (sT (hd b))) op (fill e (cy (hd b))) (hd b).pos::aL k b.tail
 | .mq o t op e k,b=> .AugAssign (.Attribute (fill o (kid (sT (hd b)) 0)) t.name (sT (hd b)).pos) op (fill e (cy (hd b))) (hd b).pos::aL k b.tail
 | .ifs c a d k,b=> .If (fill c (cy (hd b))) (aL a (sB (hd b))) (aL d (sO (hd b))) (hd b).pos::aL k b.tail
 | .oh c a d k,b=> .While (fill c (cy (hd b))) (aL a (sB (hd b))) (aL d (sO (hd b))) (hd b).pos::aL k b.tail
 | .ret e,b=> .Return (some (fill e (cy (hd b)))) (hd b).pos::b.tail
 | .Aq,b=> .Return none (hd b).pos::b.tail
 | .exp e k,b=> .Expr (fill e (cy (hd b))) (hd b).pos::aL k b.tail
 | .brk,b=> .Break (hd b).pos::b.tail
 | .cont,b=> .Continue (hd b).pos::b.tail
 | .fR v it a k,b=> .For (v.at (sT (hd b))) (it.fill (cy (hd b))) (aL a (sB (hd b))) [] (hd b).pos::aL k b.tail
 | .Cr vs it a k,b=> .For (.Tuple (dW vs (kids (sT (hd b)))) (ql (sT (hd b))) (sT (hd b)).pos) (it.fill (cy (hd b))) (aL a (sB (hd b))) [] (hd b).pos::aL k b.tail
 | .Cs vi vx e a k,b=> .For (.Tuple (dW [vi,vx] (kids (sT (hd b)))) (ql (sT (hd b))) (sT (hd b)).pos) (.Call (G.enumerate.at (kid (cy (hd b)) 0)) [fill e (kid (cy (hd b)) 1)] [] (cy (hd b)).pos) (aL a (sB (hd b))) [] (hd b).pos::aL k b.tail
 | .er v its d xs k,b=>Xk v its d xs (hd b)::aL k b.tail
 | .pass k,b=>C6 (hd b)::aL k b.tail
 | .dead,b=>b
noncomputable def dJ(sc:Scope):MS→List Stmt→Bool
 | .nil,aj=>true
 | .asg ts e k,b=>IF sc ts (vn (hd b))&&((nJ sc (iF ts (vn (hd b))) (fill e (cy (hd b))) (hd b).pos.line&&swapped sc (iF ts (vn (hd b))) (fill e (cy (hd b))) none)&&(bM e sc (cy (hd b))&&dJ sc k b.tail))
 | .Cq v e k,b=>iW e&&((v.loc sc&&((sT (hd b)).pos.line==(cy (hd b)).pos.line))&&((!((kM (cy (hd b))).names.any λ(n,kd)=>n==v.name&&(kd== .local||kd== .cell)))&&(bM e sc (cy (hd b))&&dJ sc k b.tail)))
 | .jQ vs e k,b=>(nJ sc [.Tuple (dW vs (kids (sT (hd b)))) (ql (sT (hd b))) (sT (hd b)).pos] (fill e (cy (hd b))) (hd b).pos.line&&swapped sc [.Tuple (dW vs (kids (sT (hd b)))) (ql (sT (hd b))) (sT (hd b)).pos] (fill e (cy (hd b))) (some (vs.map V.name)))&&(IG sc vs&&(bM e sc (cy (hd b))&&dJ sc k b.tail))
 | .aug v aj e k,b=>v.loc sc&&(bM e sc (cy (hd b))&&dJ sc k b.tail)
 | .mq o aj br e k,b=>bM o sc (kid (sT (hd b)) 0)&&(bM e sc (cy (hd b))&&dJ sc k b.tail)
 | .ifs c a d k,b=>bM c sc (cy (hd b))&&(dJ sc a (sB (hd b))&&(dJ sc d (sO (hd b))&&dJ sc k b.tail))
 | .oh c a d k,b=>bM c sc (cy (hd b))&&(dJ sc a (sB (hd b))&&(dJ sc d (sO (hd b))&&dJ sc k b.tail))
 | .ret e,b=>bM e sc (cy (hd b))
 | .Aq,_| .brk,_| .cont,_| .dead,aj=>true
 | .exp e k,b=>(!iW e)&&(bM e sc (cy (hd b))&&dJ sc k b.tail)
 | .fR v it a k,b=>cz (sc.names.lookup v.name)&&(it.ok sc (cy (hd b))&&(dJ sc a (sB (hd b))&&dJ sc k b.tail))
 | .Cr vs it a k,b=>storeOk sc vs&&(it.ok sc (cy (hd b))&&(dJ sc a (sB (hd b))&&dJ sc k b.tail))
 | .Cs vi vx e a k,b=>(storeOk sc [vi,vx]&&G.enumerate.ok sc)&&(bM e sc (kid (cy (hd b)) 1)&&(dJ sc a (sB (hd b))&&dJ sc k b.tail))
 | .er v its d xs k,b=>((v.loc sc&&its.loc sc)&&(d.loc sc&&xs.loc sc))&&((G.StopIteration.ok sc&&bM (.bX (.var xs) .pop) sc (kid (sT (hd (hB (sH (hd b))))) 1))&&(bM (.bX (.var its) .pop) sc (cy (hd (hB (sH (hd b))).tail))&&dJ sc k b.tail))
 | .pass k,b=>dJ sc k b.tail
theorem xQ{E:Value→Shared→Prop}{elts:List Expr}{x1}{pos:Pos}{ad:Addr}{v:Value}{I:It}{Q:Unit→Shared→Prop}(hI:AE s.heap ad I)(h:Q () s):wpAny (model prog w) A (letOwnedTupleGo (.Tuple elts x1 pos) (.ref ad) v) Q E s:=by
 unfold letOwnedTupleGo;cases v with
 |ref a=>
  dsimp only;obtain⟨o,ho⟩:=hI.at;refine wpAny_bind (wpAny_load ho ?_);cases I with
  |nk aj br dg=>
   have e:s.heap.get? ad=_:=hI;rw[ho]at e;cases e;dsimp only;rw[if_neg (by first|exact Bool.false_ne_true|decide|simp)];exact wpAny_pure h
  |_=>
   obtain⟨o',ho',hc,hd⟩:=hI;rw[ho]at ho';cases ho';rw[hc,hd];dsimp only;rw[if_neg (by first|exact Bool.false_ne_true|decide|simp)];exact wpAny_pure h
 |_=>exact wpAny_pure h
def qH(prog:Program)(w:World)(B:Addr→Option Obj)(l:Nat)(ms:MS):Prop:=
 ∀{C:Cx} {A:Around},sZ B l C A→∀(b:List Stmt),dJ C.env.scope ms b=true→∀{st:St} {s:Shared} {Q:bl→St→Prop},Rep prog w C st s→exs prog w B l ms Q st→wpAny (model prog w) A (execs (aL ms b) C.env) (PF prog w C Q) bS s
theorem rY(bf:BF prog w B)(ok:sZ B l C A){tg:Expr}{mu:af→(St→Prop)→St→Prop}{a k:MS}(cJ:qH prog w B l a)(gI:qH prog w B l k){it:MI}{x:Expr}{y rest:List Stmt}{pos:Pos}(h4:it.ok C.env.scope x=true)(h6:dJ C.env.scope a y=true)(h7:dJ C.env.scope k rest=true)
  (hgo:∀{s:Shared} {ad:Addr} {I:It} {r:Value} {E:Value→Shared→Prop} {Q:Unit→Shared→Prop},AE s.heap ad I→Q () s→wpAny (model prog w) A (letOwnedTupleGo tg (.ref ad) r) Q E s)
  (hasn:∀{C':Cx},C'.env=C.env→sZ B l C' A→∀{st:St} {s:Shared} {r:Value} {z:af} {kk:St→Prop},Rep prog w C' st s→VR r z→mu z kk st→wpAny (model prog w) A (assign tg C.env r) (λaj s'=>∃st',Rep prog w C' st' s'∧kk st') bS s)
  {st:St} {Q:bl→St→Prop} (R:Rep prog w C st s)
  (h:w6 it.k (ev prog w B l it.a) (ev prog w B l it.b) (λI s1=>∃n,jr mu (exs prog w B l a) (gO (exs prog w B l k Q) Q) n I s1) st):
  wpAny (model prog w) A (execs (.For tg (it.fill x) (aL a y) [] pos::aL k rest) C.env) (PF prog w C Q) bS s:=by
 refine wpAny_execs_cons (wpAny_For (ay (vd bf ok.ok (fD.to (aT bf it.a).1 ok.ok) (fD.to (aT bf it.b).1 ok.ok) x h4 R h) λx s1 hx=>ay hx λiv s2 q=>?_) oQ);obtain⟨ad,I,st2,e,R2,O,n,hn⟩:=q;subst e;refine codeAny_forLoop_any (I:=λn s=>∃st I,Rep prog w C st s∧Own C st s ad I∧jr mu (exs prog w B l a) (gO (exs prog w B l k Q) Q) n I st) ?_ n ⟨st2,I,R2,O,hn⟩;intro n s q;obtain⟨st,I,R,O,hn⟩:=q;refine H9 hn (λen hn=>?_) λk' x I' hk en hn=>?_
 ·refine ck (iV R ok.ok.room.1 O en) λo s1 ⟨R1,br,e⟩=>?_
  dsimp only at e;subst e;exact wpAny_execs_nil (gI ok _ h7 R1 hn)
 ·refine ck (iV R ok.ok.room.1 O en) λo s1 ⟨R1,br,r,e,hr,hI⟩=>?_
  subst e;obtain⟨oi,Js⟩:=hI.at;have RH:=R1.hold O.K Js O.Ω O.L;have B0:sZ B l (C.hold ad oi) A:=ok.hold R1 O.K hI.dP;refine hgo hI ?_;refine ck (hasn (C':=C.hold ad oi) rfl B0 RH hr hn) λaj s2 ⟨st2,R2,hb⟩=>?_
  refine ck (cJ B0 _ h6 R2 hb) λf s3 ⟨fl,st3,hf,R3,hq⟩=>?_
  obtain⟨R4,g1,g2⟩:=R3.gV (R1.AL O.K) O.K R1.H.two;cases fl with
  |next=>cases hf;exact⟨k',hk,st3,I',R4,⟨hI.same (g1.trans Js.symm),O.K,g2,O.L⟩,hq⟩
  |cont=>cases hf;exact⟨k',hk,st3,I',R4,⟨hI.same (g1.trans Js.symm),O.K,g2,O.L⟩,hq⟩
  |brk=>cases hf;exact gI ok _ h7 R4 hq
  |ret x=>obtain⟨v,rfl,hv⟩:=hf;exact⟨.ret x,st3,⟨v,rfl,hv⟩,R4,hq⟩
theorem xR(bf:BF prog w B)(ok:sZ B l C A){v:V}{e:ME}{x:Expr}{np:Pos}(hc:iW e=true)(he:bM e C.env.scope x=true)(hl:C.env.kindOf v.name=some .local)
  {st:St} {Q:af→St→Prop} (R:Rep prog w C st s) (h:ev prog w B l e Q st):
  wpAny (model prog w) A (evalThenUse (fill e x) C.env (assign (.Name v.name np) C.env)) (λaj s'=>∃y st1,Rep prog w C {st1 with m:=st1.m.set v y} s'∧Q y st1) bS s:=by
 have key:∀D L ms (s':Shared) st',s'.heap.Ns L ms→C.K L=none→st'.Ω L=none→L≠C.env.locals→D≠L→Rep prog w C st' s'→Q (.ref D) st'→
   wpAny (model prog w) A (assign (.Name v.name np) C.env (.ref D)) (λaj s''=>∃m,s''.heap.Ns L m∧∀h',Heap.SameBut L s''.heap h'→∃y st1,Rep prog w C {st1 with m:=st1.m.set v y} {s'' with heap:=h'}∧Q y st1) bS s':=by
  intro D L ms s' st' hn hK jb hL hDL R' hq;obtain⟨o,es,ep,ho,hd,hr⟩:=hn;have RH:=R'.hold hK ho jb (Ne.symm hL);refine wpAny_assign_Name (ay (cM (C:=C.hold L o) RH ok.ok.kind hl (x:= .ref D) rfl) λaj s2 R2=>?_);obtain⟨R3,g1,g2⟩:=R2.gV (R'.AL hK) hK R'.H.two;refine⟨ms,⟨o,es,ep,g1,hd,hr⟩,λh' hs=>⟨.ref D,st',R3.wX (t:=s2.toks) hK g2 (Ne.symm hL) (λx ⟨oc,e1,e2⟩=>by rw[g1]at e1;cases e1;rw[hd]at e2;cases e2) (λb o hb e=>(hs.2 b hb).trans e),hq⟩⟩
 revert he h
 refine rW hc (λelt v' k a b he h=>?_) (λelt v' k a b c he h=>?_)
 ·refine aB he λhco hr=>aB hr λhit h1=>?_
  show wpAny _ _ (evalThenUse (.ListComp (fill elt (kid x 0)) [⟨.Name v'.name (kid x 1).pos,k.fill (fill a) (fill b) (kid x 2),[],0⟩] (kM x) x.pos) C.env _) _ _ _;unfold evalThenUse;refine wpAny_bind (gz (use:=some (assign (.Name v.name np) C.env)) bf ok.ok (fD.to (aT bf a).1 ok.ok) (fD.to (aT bf b).1 ok.ok) hit hco (λC' A' ok' hs st s Q R h=>(aT bf elt).1 ok' _ (by rw[hs];exact h1) R h) (λC' A' ok' hs st s Q R h=>?_) R h (QQ:=λaj s'=>wpAny _ _ (pure ()) (λaj s'=>∃y st1,Rep prog w C {st1 with m:=st1.m.set v y} s'∧Q y st1) bS s')
   (λD L ms s' st' hn hK jb hL hDL R' hq=>ay (key D L ms s' st' hn hK jb hL hDL R' hq) λaj s2 q=>by obtain⟨m,k1,k2⟩:=q;exact⟨m,k1,λh' hs=>wpAny_pure (k2 h' hs)⟩))
  rw[List.forIn_nil];exact wpAny_pure ⟨st,R,h⟩
 ·refine aB he λhco hr=>aB hr λhit hr=>aB hr λh1 hr=>aB hr λh6 h7=>?_
  show wpAny _ _ (evalThenUse (.ListComp (fill elt (kid x 0)) [⟨.Name v'.name (kid x 1).pos,k.fill (fill a) (fill b) (kid x 2),[fill c (kid x 3)],0⟩] (kM x) x.pos) C.env _) _ _ _;unfold evalThenUse;exact wpAny_bind (gz (use:=some (assign (.Name v.name np) C.env)) bf ok.ok (fD.to (aT bf a).1 ok.ok) (fD.to (aT bf b).1 ok.ok) hit hco (λC' A' ok' hs st s Q R h=>(aT bf elt).1 ok' _ (by rw[hs];exact h1) R h) (rS bf (aT bf c) h6 h7) R h (QQ:=λaj s'=>wpAny _ _ (pure ()) (λaj s'=>∃y st1,Rep prog w C {st1 with m:=st1.m.set v y} s'∧Q y st1) bS s')
   (λD L ms s' st' hn hK jb hL hDL R' hq=>ay (key D L ms s' st' hn hK jb hL hDL R' hq) λaj s2 q=>by obtain⟨m,k1,k2⟩:=q;exact⟨m,k1,λh' hs=>wpAny_pure (k2 h' hs)⟩))
theorem Rep.MG(P:Addr→Prop){st:St}(R:Rep prog w C st s){h':Heap}{t:Nat}(hK:∀a,P a→C.K a=none)(jb:∀a,P a→st.Ω a=none)(hL:∀a,P a→C.env.locals≠a)(hc:∀a,P a→∀x,¬s.heap.IsCell a x)
  (k:∀b o,¬P b→s.heap.get? b=some o→h'.get? b=some o):Rep prog w C st {s with heap:=h',toks:=t}:=by
 refine⟨⟨R.H.gens,R.H.os,λb o e=>let ⟨o',h1,h2⟩:=R.H.kept b o e;⟨o',k b o' (λq=>by rw[hK b q]at e;cases e) h1,h2⟩,λb o e=>?_,R.H.apart,R.H.two,R.H.sys,R.H.nG⟩,?_,R.lk,R.qn⟩
 ·obtain⟨ob,h1,h2⟩:=R.H.objs b o e
  exact⟨ob,k b ob (λq=>by rw[jb b q]at e;cases e) h1,h2⟩
 ·obtain⟨⟨ml,⟨o,es,ep,ho,r⟩,hl⟩,hcs⟩:=R.loc
  refine⟨⟨ml,⟨o,es,ep,k _ _ (λq=>hL _ q rfl) ho,r⟩,hl⟩,λv c h1 h2=>?_⟩;obtain⟨x,hi,hx⟩:=hcs v c h1 h2;have hca:¬P c:=λq=>hc c q x hi
  obtain⟨oc,ho,hd⟩:=hi;exact⟨x,⟨oc,k _ _ hca ho,hd⟩,hx⟩
theorem Rep.fresh{st:St}(R:Rep prog w C st s){a:Addr}(h:s.heap.objs.size≤a):C.K a=none∧st.Ω a=none∧C.env.locals≠a:=by
 refine⟨?_,?_,λq=>?_⟩
 ·cases q:C.K a with
  |none=>rfl
  |some o=>obtain⟨o',h1,_⟩:=R.H.kept a o q;exact absurd (Heap.lt_size h1) (Nat.not_lt.mpr h)
 ·cases q:st.Ω a with
  |none=>rfl
  |some o=>obtain⟨o',h1,_⟩:=R.H.objs a o q;exact absurd (Heap.lt_size h1) (Nat.not_lt.mpr h)
 ·obtain⟨⟨ml,⟨o,es,ep,ho,_⟩,_⟩,_⟩:=R.loc
  rw[q]at ho;exact absurd (Heap.lt_size ho) (Nat.not_lt.mpr h)
theorem xS(bf:BF prog w B)(ok:sZ B l C A){vi vx:V}{e:ME}{a k:MS}(cJ:qH prog w B l a)(gI:qH prog w B l k){es:List Expr}{p3 p5 pos:Pos}{kk:Nat}{c0 x:Expr}{y rest:List Stmt}
  (h1:storeOk C.env.scope [vi,vx]=true) (h3:G.enumerate.ok C.env.scope=true) (h4:bM e C.env.scope x=true) (h6:dJ C.env.scope a y=true) (h7:dJ C.env.scope k rest=true)
  {st:St} {Q:bl→St→Prop} (R:Rep prog w C st s)
  (h:ev prog w B l e (λx s1=>match x with
   | .ref p=>∃n,mw p vi vx (exs prog w B l a) (gO (exs prog w B l k Q) Q) n 0 s1
   |_=>False) st):
  wpAny (model prog w) A (execs (.For (.Tuple (dW [vi,vx] es) kk p3) (.Call (G.enumerate.at c0) [fill e x] [] p5) (aL a y) [] pos::aL k rest) C.env) (PF prog w C Q) bS s:=by
 refine wpAny_execs_cons (wpAny_For (wpAny_Call_ofName (bQ bf ok.ok h3 R λgv Xl=>?_)) λaj=>rfl);cases Xl;rw[aD bW,aK];refine callWith_of (P:=λh=>Looks (model prog w) h (keeperOf (.type "enumerate")) .machine) rfl (λaj p=>⟨.machine, .inr (.inl rfl),p⟩) ?_;refine evalArgs_plain (spliced_cons (PE.to ((aT bf e).1 ok.ok _ h4 R h) λv s1 xv st1 hx R1 hq=>spliced_nil ⟨Looks.of_pure rfl,?_⟩))
 (set_option tactic.hygienic true in split at hq)
 case h_2=>exact hq.elim
 rename_i p;cases hx;obtain⟨n,hn⟩:=hq;have hxs:∃xs,st1.Ω p=some (.list xs):=zB hn (λxs e aj aj=>⟨xs,e⟩) λaj xs aj aj e aj aj=>⟨xs,e⟩
 obtain⟨xs,hxs⟩:=hxs;obtain⟨items,c,g1,g2,g3⟩:=R1.H.list hxs;refine call_enumerate_1 g1 λh' hE hI hsz hk=>wpAny_pyIter_enum hE ?_
 have R2:Rep prog w C st1 {s1 with heap:=h'}:=R1.ext (t:=s1.toks) hk;obtain⟨fK1,xT,fL1⟩:=R1.fresh (a:=s1.heap.objs.size) (Nat.le_refl _);obtain⟨Oe,xU,fL2⟩:=R1.fresh (a:=s1.heap.objs.size+1) (Nat.le_succ _);have hne:s1.heap.objs.size+1≠s1.heap.objs.size:=Nat.succ_ne_self _;generalize s1.heap.objs.size+1=ea at*;generalize s1.heap.objs.size=ia at*;have C7:∀{h:Heap} {i:Int} {old:Value},IsEnum h ea ia i old→∀x,¬h.IsCell ea x:=λhE x ⟨oc,e1,e2⟩=>by rw[hE]at e1;cases e1;cases e2
 have zN:∀{h:Heap} {i:Nat},h.IsListIter ia p i→∀x,¬h.IsCell ia x:=λ⟨o,e3,br,e4⟩ x ⟨oc,e1,e2⟩=>by rw[e3]at e1;cases e1;rw[e4]at e2;cases e2
 refine codeAny_forLoop_any (I:=λn s=>∃st i old,Rep prog w C st s∧IsEnum s.heap ea ia (i:Nat) old∧s.heap.IsListIter ia p i∧st.Ω ea=none∧st.Ω ia=none∧mw p vi vx (exs prog w B l a) (gO (exs prog w B l k Q) Q) n i st) ?_ n ⟨st1,0, .none,R2,hE,hI,xU,xT,hn⟩;clear hn hE hI R2 g1 g2 g3 hxs xT xU R1 hk hsz;intro n s q;obtain⟨st,i,old,R,hE,hI,xU,xT,hn⟩:=q;have hP:∀{s:Shared} {st:St} {h':Heap} {t:Nat},Rep prog w C st s→st.Ω ea=none→st.Ω ia=none→(∀x,¬s.heap.IsCell ea x)→(∀x,¬s.heap.IsCell ia x)→(∀b o,b≠ea→b≠ia→s.heap.get? b=some o→h'.get? b=some o)→Rep prog w C st {s with heap:=h',toks:=t}:=λR f1 f2 c1 c2 k=>
  R.MG (λa=>a=ea∨a=ia) (λa q=>by rcases q with rfl|rfl<;>assumption) (λa q=>by rcases q with rfl|rfl<;>assumption) (λa q=>by rcases q with rfl|rfl<;>assumption) (λa q=>by rcases q with rfl|rfl<;>assumption) (λb o q e=>k b o (λq'=>q (.inl q')) (λq'=>q (.inr q')) e)
 refine zB hn (λxs hxs ex hn=>?_) λk' xs xe hk' hxs ex hn=>?_
 ·obtain⟨items,c,g1,g2,g3⟩:=R.H.list hxs
  have hi:items[i]?=none:=by
   rw[Array.getElem?_eq_none_iff,g3];exact List.getElem?_eq_none_iff.mp ex
  refine wpAny_pyNext_enum_end ok.ok.room.1 hE hI ⟨_,g1,rfl,_,rfl⟩ hi λh' he=>?_
  have R1:Rep prog w C st {s with heap:=h'}:=hP (t:=s.toks) R xU xT (C7 hE) (zN hI) λb o aj hb e=>he b o hb e
  exact wpAny_execs_nil (gI ok _ h7 R1 hn)
 ·obtain⟨items,c,g1,g2,g3⟩:=R.H.list hxs
  obtain⟨rv,hi,hr⟩:=g2.get ex;rw[Array.getElem?_toList]at hi;refine wpAny_pyNext_enum_item hE hI ⟨_,g1,rfl,_,rfl⟩ hi hne λh' hO hI' hT hsz hk=>?_
  have R1:Rep prog w C st {s with heap:=h',toks:=s.toks+1}:=hP R xU xT (C7 hE) (zN hI) hk;refine wpAny_letOwnedTupleGo_enum hO λh2 hE2 hs2=>?_
  have R2:Rep prog w C st {s with heap:=h2,toks:=s.toks+1}:=hP (s:={s with heap:=h',toks:=s.toks+1}) R1 xU xT (λx ⟨oc,e1,e2⟩=>by rw[hO]at e1;cases e1;cases e2) (zN hI') λb o hb aj e=>(hs2.2 b hb).trans e
  have hT2:h2.get? s.heap.objs.size=_:=(hs2.2 _ (λq=>by have:=Heap.lt_size hE;rw[←q]at this;exact absurd this (Nat.lt_irrefl _))).trans hT;have Od:h2.IsListIter ia p (i+1):=by obtain⟨o,e1,e2⟩:=hI';exact⟨o,(hs2.2 ia (Ne.symm hne)).trans e1,e2⟩
  refine wpAny_assign_Tuple ok.ok.room.1 ⟨_,hT2,rfl,_,rfl⟩ (jw _ _) (fV _ _) λh3 he3=>?_
  have Ju:∀b o,h2.get? b=some o→h3.get? b=some o:=λb o e=>he3 b o (Nat.ne_of_lt (Heap.lt_size e)) e
  have R3:Rep prog w C st {s with heap:=h3,toks:=s.toks+1}:=R2.ext Ju;have YR:IsEnum h3 ea ia ((i:Int)+1) _:=Ju _ _ hE2;obtain⟨oi,hi1,hi2⟩:=Od;have hi1:=Ju _ _ hi1;obtain⟨oe,hoe,hee⟩:∃oe,h3.get? ea=some oe∧∀{h:Heap},h.get? ea=some oe→IsEnum h ea ia ((i:Int)+1) rv:=⟨_,YR,λx=>x⟩
  have RH:=R3.hold Oe hoe xU fL2;have B0:sZ B l (C.hold ea oe) A:=ok.hold R3 Oe (C7 YR);have E3:(C.hold ea oe).K ia=none:=(if_neg (Ne.symm hne)).trans fK1;have RH2:=RH.hold E3 hi1 xT fL1;have MH:=B0.hold RH E3 (o:=oi) (zN ⟨oi,hi1,hi2⟩);refine ck (dX MH [vi,vx] es h1 (ys:=[.int i,xe]) ⟨VR.mkInt,hr,trivial⟩ rfl RH2) λaj s4 R4=>?_
  refine ck (cJ MH _ h6 R4 hn) λf s5 q=>?_
  obtain⟨fl,MJ,hf,R5,hq⟩:=q;obtain⟨R6,m1,m2⟩:=R5.gV (RH.AL E3) E3 RH.H.two;obtain⟨R7,m3,m4⟩:=R6.gV (R3.AL Oe) Oe R3.H.two;cases fl with
  |next=>cases hf;exact⟨k',hk',MJ,i+1,_,R7,hee m3,⟨oi,m1,hi2⟩,m4,m2,hq⟩
  |cont=>cases hf;exact⟨k',hk',MJ,i+1,_,R7,hee m3,⟨oi,m1,hi2⟩,m4,m2,hq⟩
  |brk=>cases hf;exact gI ok _ h7 R7 hq
  |ret x=>obtain⟨v,rfl,hv⟩:=hf;exact⟨.ret x,MJ,⟨v,rfl,hv⟩,R7,hq⟩
theorem aP.reverse:∀{vs xs},aP vs xs→aP vs.reverse xs.reverse
 |[],[],aj=>trivial
 |v::vs,x::xs,h=>by rw[List.reverse_cons,List.reverse_cons];exact(aP.reverse h.2).append ⟨h.1,trivial⟩
theorem kP(ok:sZ B l C A){k:MS}(gI:qH prog w B l k){rest:List Stmt}(hk:dJ C.env.scope k rest=true){Q:bl→St→Prop}{f:Flow}{s2:Shared}
  (h:PF prog w C (gO (exs prog w B l k Q) Q) f s2):match f with| .next=>wpAny (model prog w) A (execs (aL k rest) C.env) (PF prog w C Q) bS s2|f=>PF prog w C Q f s2:=by
 obtain⟨fl,st2,hf,R2,hq⟩:=h;cases fl with
 |next=>cases hf;exact gI ok _ hk R2 hq
 |brk=>cases hf;exact⟨.brk,st2,rfl,R2,hq⟩
 |cont=>cases hf;exact⟨.cont,st2,rfl,R2,hq⟩
 |ret x=>obtain⟨v,rfl,hv⟩:=hf;exact⟨.ret x,st2,⟨v,rfl,hv⟩,R2,hq⟩
theorem pD{x:Expr}{gens:List Comprehension}{scope:Scope}{cp np:Pos}{id:Str}{n:Nat}(hk:C.env.scope.kind= .function)(h1:C.env.scope.names.lookup id=some .local)(h2:(np.line==cp.line)=true)
  (h3:(!(scope.names.any λ(n,kd)=>n==id&&(kd== .local||kd== .cell)))=true):swapsWith (.ListComp x gens scope cp) (some (.Name id np)) n C.env=pure true:=by
 have hb:(C.env.blockKind== .function)=true:=by simp[Env.blockKind,hk]
 have h1:(C.env.kindOf id==some .local)=true:=by show (C.env.scope.names.lookup id==some .local)=true;rw[h1];rfl
 unfold swapsWith;dsimp only;rw[hb,h1];show pure (true&&true&&(np.line==cp.line)&& !(scope.names.any λ(n,kd)=>n==id&&(kd== .local||kd== .cell)))=_;rw[h2,h3];rfl
theorem pF{e:ME}{x:Expr}{n:Nat}{env:Env}(h:(!iW e)=true):swapsWith (fill e x) none n env=pure false:=by
 cases e<;>first|rfl|cases h
theorem xV{e:ME}(h:iW e=true)(x:Expr):∃y gs,fill e x= .ListComp y gs (kM x) x.pos:=
 rW h (λaj aj aj aj aj=>⟨_,_,rfl⟩) λaj aj aj aj aj aj=>⟨_,_,rfl⟩
theorem AS(bf:BF prog w B)(Xm:∀v its d xs k,qH prog w B l k→qH prog w B l (.er v its d xs k))(ms:MS):qH prog w B l ms:=by
 induction ms with
 |nil=>exact λok b hb st s Q R h=>wpAny_execs_nil ⟨.next,st,rfl,R,h⟩
 |asg ts e k gI=>
  exact λok b hb st s Q R h=>aB hb λh2 hr=>aB hr λh3 hr=>aB hr λh4 h5=>aB h3 λh3 h6=>
   wpAny_execs_cons (wpAny_Assign_stores (PE.to ((aT bf e).1 ok.ok _ h4 R h) λr s1 x st1 hr R1 h1=>ay (mR bf ok ts _ h2 R1 hr h1) λaj s2 q=>gI ok _ h5 q.choose_spec.1 q.choose_spec.2) (pB h3) (pC h6))
 |Cq v e k gI=>
  refine λ{C A} ok b hb st s Q R h=>aB hb λhc hr=>aB hr λh3 hr=>aB hr λh6 hr=>aB hr λh4 h5=>aB h3 λh3 h7=>wpAny_execs_cons ?_
  have h3:=of_decide_eq_true h3;have key:=xR bf ok (np:=(sT (hd b)).pos) hc h4 h3 R h;obtain⟨y,gs,e1⟩:=xV hc (cy (hd b));show wpAny _ _ (exec (.Assign [.Name v.name (sT (hd b)).pos] (fill e (cy (hd b))) (hd b).pos) C.env) _ _ _;rw[e1]at key ⊢;rw[exec_Assign_Name_used _ _ _ _ (pD ok.ok.kind h3 h7 h6)];exact wpAny_bind (wpAny_standAt (wpAny_bind (ay key λaj s1 q=>by obtain⟨y,st1,R1,hq⟩:=q;exact wpAny_pure (gI ok _ h5 R1 hq))))
 |jQ vs e k gI=>
  refine λ{C A} ok b hb st s Q R h=>aB hb λh3 hr=>aB hr λhw hr=>aB hr λh4 h5=>aB h3 λh3 h6=>aB hw λw2 hw=>aB hw λw3 w4=>
   wpAny_execs_cons (Assign_Tuple_swapped (PE.to ((aT bf e).1 ok.ok _ h4 R h) λr s1 x st1 hr R1 h1=>?_) (pB h3) (pC h6))
  have w3:=of_decide_eq_true w3;rw[List.length_map];refine ay (rU bf ok.ok R1 hr h1) λus s2 q=>?_
  obtain⟨ys,hv,hl,R2,hq⟩:=q;rw[←List.map_reverse];refine ay (gH ok vs.reverse (λv hv=>of_decide_eq_true (List.all_eq_true.mp w4 v (List.mem_reverse.mp hv))) hv.reverse (by rw[List.length_reverse,List.length_reverse];exact hl) R2 (ys:=ys.reverse)) λaj s3 R3=>?_
  rw[xP (of_decide_eq_true w2) w3 hl]at R3;exact gI ok _ h5 R3 hq
 |aug v op e k gI=>
  refine λ{C A} ok b hb st s Q R h=>aB hb λh3 hr=>aB hr λh4 h5=>?_
  have h3:=of_decide_eq_true h3;obtain⟨x,hx,h⟩:=h;obtain⟨⟨ml,hn,hl⟩,hc⟩:=R.loc;have hm:=hl v h3;rw[hx]at hm;obtain⟨r,e1,e2⟩:=hm;refine wpAny_execs_cons (wpAny_AugAssign_Name (wpAny_loadName_local ok.ok.kind h3 hn e1 (PE.to ((aT bf e).1 ok.ok _ h4 R h) λu s1 y st1 hu R1 h1=>ay (jl R1 e2 hu h1) λu s2 q=>?_)));obtain⟨z,hz,R2,h2⟩:=q;exact ay (cM R2 ok.ok.kind h3 hz) λaj s3 R3=>gI ok _ h5 R3 h2
 |mq o t op e k gI=>
  refine λ{C A} ok b hb st s Q R h=>aB hb λh4 hr=>aB hr λh6 h7=>wpAny_execs_cons (wpAny_AugAssign_AttributeAny (PE.to ((aT bf o).1 ok.ok _ h4 R h) λov s1 xo st1 ho R1 h1=>?_))
  refine ay (jW (B:=B) (Q:=λr Ω=>Ω=st1.Ω∧∃z,VR r z∧ev prog w B l e (λy s2=>Ak op z y λr=>fq xo t r (λaz=>exs prog w B l k Q {s2 with Ω:=az}) s2.Ω) st1) ok.ok.base R1 λK os hK RH=>ay (mC bf hK RH ho h1) λr s' q=>by obtain⟨z,e1,e2,e3⟩:=q;exact⟨_,e2,rfl,z,e1,e3⟩) λr s2 q=>?_
  obtain⟨az,R2,e,z,hz,h2⟩:=q;subst e;refine PE.to ((aT bf _).1 ok.ok _ h6 R2 h2) λu s3 y st3 hu R3 h3=>ay (jl R3 hz hu h3) λu s4 q=>?_
  obtain⟨z4,hz4,R4,h4⟩:=q;exact ay (jW (B:=B) (Q:=λaj Ω=>exs prog w B l k Q {st3 with Ω}) ok.ok.base R4 λK os hK RH=>iy bf hK RH ho hz4 h4) λaj s5 q=>by obtain⟨az,R5,hq⟩:=q;exact gI ok _ h7 R5 hq
 |ifs c a d k cJ AR gI=>
  refine λ{C A} ok b hb st s Q R h=>aB hb λh2 hr=>aB hr λh4 hr=>aB hr λh5 h1=>wpAny_execs_cons (wpAny_If (ay (rT bf c ok.ok _ h2 R h) λt s1 q=>?_))
  obtain⟨st1,R1,hx⟩:=q;cases t with
  |true=>exact ay (cJ ok _ h4 R1 hx) λf s2 hf=>by cases f<;>exact kP ok gI h1 hf
  |false=>exact ay (AR ok _ h5 R1 hx) λf s2 hf=>by cases f<;>exact kP ok gI h1 hf
 |oh c a d k cJ AR gI=>
  refine λ{C A} ok b hb st s Q R h=>aB hb λh2 hr=>aB hr λh4 hr=>aB hr λh5 h1=>?_
  obtain⟨n,hn⟩:=h;refine wpAny_execs_cons (wpAny_While (codeAny_whileLoop (I:=λn s=>∃st,Rep prog w C st s∧fT (uJ prog w B l c) (exs prog w B l a) (exs prog w B l d) (gO (exs prog w B l k Q) Q) n st) ?_ n ⟨st,R,hn⟩));intro n s q;obtain⟨st,R,hn⟩:=q;cases n with
  |zero=>exact hn.elim
  |succ n=>
   refine ck (rT bf c ok.ok _ h2 R hn) λt s1 q=>?_
   obtain⟨st1,R1,hx⟩:=q;cases t with
   |true=>
    refine ck (cJ ok _ h4 R1 hx) λf s2 q=>?_
    obtain⟨fl,st2,hf,R2,hq⟩:=q;cases fl with
    |next=>cases hf;exact⟨n,Nat.lt_succ_self n,st2,R2,hq⟩
    |cont=>cases hf;exact⟨n,Nat.lt_succ_self n,st2,R2,hq⟩
    |brk=>cases hf;exact gI ok _ h1 R2 hq
    |ret x=>obtain⟨v,rfl,hv⟩:=hf;exact⟨.ret x,st2,⟨v,rfl,hv⟩,R2,hq⟩
   |false=>exact ck (AR ok _ h5 R1 hx) λf s2 hf=>by cases f<;>exact kP ok gI h1 hf
 |ret e=>exact λok b hb st s Q R h=>wpAny_execs_cons (wpAny_Return_some (PE.to ((aT bf e).1 ok.ok _ hb R h) λr s1 x st1 hr R1 h1=>⟨.ret x,st1,⟨r,rfl,hr⟩,R1,h1⟩))
 |Aq=>exact λok b hb st s Q R h=>wpAny_execs_cons (wpAny_Return_none ⟨.ret .none,st,⟨.none,rfl,rfl⟩,R,h⟩)
 |exp e k gI=>
  exact λok b hb st s Q R h=>aB hb λh2 hr=>aB hr λh0 h1=>wpAny_execs_cons (wpAny_Expr_any (PE.to ((aT bf e).1 ok.ok _ h0 R h) λr s1 x st1 hr R1 hq=>gI ok _ h1 R1 hq) ok.ok.inter (pF h2))
 |brk=>exact λok b hb st s Q R h=>wpAny_execs_cons (wpAny_Break ⟨.brk,st,rfl,R,h⟩)
 |cont=>exact λok b hb st s Q R h=>wpAny_execs_cons (wpAny_Continue ⟨.cont,st,rfl,R,h⟩)
 |fR v it a k cJ gI=>
  refine λ{C A} ok b hb st s Q R h=>aB hb λh3 hr=>aB hr λh4 hr=>aB hr λh6 h7=>rY bf ok (mu:=λx k st=>k {st with m:=st.m.set v x}) cJ gI h4 h6 h7 (λhI hq=>wpAny_of_eq (rfl:letOwnedTupleGo (.Name _ _) (.ref _) _=pure ()) hq) (λ{C'} e ok' {st s r z kk} R hr hk=>?_) R h
  rw[←e];exact wpAny_assign_Name (ay (gB ok' R (by rw[e];exact h3) hr) λaj s2 R2=>⟨_,R2,hk⟩)
 |Cr vs it a k cJ gI=>
  refine λ{C A} ok b hb st s Q R h=>aB hb λh2 hr=>aB hr λh4 hr=>aB hr λh6 h7=>rY bf ok (mu:=λx k st=>uK x vs.length (λys=>k {st with m:=fU st.m vs ys}) st.Ω) cJ gI h4 h6 h7 (λhI hq=>xQ hI hq) (λ{C'} e ok' {st s r z kk} R hr hk=>?_) R h
  rw[←e];exact jx bf ok' (.tup vs) (sT (hd b)) (by rw[e];exact h2) R hr hk
 |Cs vi vx e a k cJ gI=>
  exact λok b hb st s Q R h=>aB hb λh1 hr=>aB h1 λh1 h3=>aB hr λh4 hr=>aB hr λh6 h7=>xS bf ok cJ gI h1 h3 h4 h6 h7 R h
 |er v its d xs k gI=>exact Xm v its d xs k gI
 |pass k gI=>
  refine λ{C A} ok b hb st s Q R h=>?_
  show wpAny _ _ (execs (C6 (hd b)::aL k b.tail) C.env) _ _ _;unfold C6
  split
  ·exact wpAny_execs_cons (wpAny_Pass (gI ok _ hb R h))
  ·exact wpAny_execs_cons (wpAny_Expr_any (Constant_str (gI ok _ hb R.toks h)) ok.ok.inter rfl)
 |dead=>exact λok b hb st s Q R h=>h.elim
end
section
variable{M:Model}{A:Around}{E:Value→Shared→Prop}{s:Shared}
theorem C8{base:Heap}{env:Env}{outer:List Env}{L e:Addr}{oe:Obj}{vs:Array Value}{Q:Unit→Shared→Prop}
  (hfr:A.frames=some (env::outer)) (hl:s.heap.FunFrames base (env::outer)) (hf:env.frame=some L) (he:s.heap.get? e=some oe) (hd:oe.data= .fields vs) (h1:vs[1]?=some .none)
  (h:∀h₁ h' tb otb ts Of vs',Heap.SlotsOnly ((env::outer).filterMap (·.frame)) s.heap h₁→(∀b o,b≠e→h₁.get? b=some o→h'.get? b=some o)→h₁.get? tb=none→tb≠e→
   h'.get? e=some Of→Of.cls=oe.cls→Of.data= .fields vs'→vs'[1]?=some (.ref tb)→h'.get? tb=some otb→otb.data= .fields ts→3<ts.size→Q () {s with heap:=h'}):
  wpAny M A (noteFrame (.ref e) env) Q E s:=by
 have hsz:1<vs.size:=(Array.getElem?_eq_some_iff.mp h1).1;have Xn:e∉(env::outer).filterMap (·.frame):=λhm=>by
  obtain⟨_,o,ho,hnf⟩:=hl.mem hm;rw[he]at ho;injection ho with ho;subst ho;exact hnf vs hd
 unfold noteFrame;simp only[hf];refine wpAny_bind (wpAny_field he hd h1 ?_);rw[if_neg (by decide)];refine wpAny_bind (wpAny_frameOf_fun hfr hl hf λh₁ hs₁=>?_);refine wpAny_bind (wpAny_entryPlaceOf λpl hpl=>?_);unfold EntryCells.newEntry newFields;refine wpAny_bind (wpAny_newObj_type ?_ (hpl.sizeOk5 _ _ _ _ _));have GQ:h₁.get? e=some oe:=(hs₁.2.1 e Xn).trans he;have zF:=Heap.get?_push_of_some (h:=h₁) {cls:= .type "traceback",dict:=none,data:= .fields ([Value.none, .ref L, .none,rawInt L, .none]++(if pl.isEmpty then List.replicate 6 Value.none else pl)).toArray} GQ;refine wpAny_setField zF hd hsz ?_;have YS:h₁.objs.size≠e:=Nat.ne_of_gt (Heap.lt_size GQ);have hd₃:=Obj.data_mapFields hd (·.setIfInBounds 1 (Value.ref h₁.objs.size));refine h h₁ _ h₁.objs.size _ _ _ _ hs₁ (λb o hbe hb=>?_) (Heap.get?_none_of_le (Nat.le_refl _)) YS (Heap.get?_update_self _ zF (Obj.isFreed_of_fields hd₃)) (Obj.cls_mapFields ..) hd₃ (by simp[hsz])
  ((Heap.get?_update_other _ _ (Ne.symm YS)).trans (Heap.get?_push_size h₁ rfl)) rfl (by simp only[List.size_toArray,List.length_append,List.length_cons,List.length_nil]<;>exact Vd)
 rw[Heap.get?_update_other _ _ (Ne.symm hbe)];exact Heap.get?_push_of_some _ hb
end
section
variable{prog:Program}{w:World}{B:Addr→Option Obj}{l:Nat}{C:Cx}{A:Around}{s:Shared}
theorem Rep.slots{st:St}(R:Rep prog w C st s){S:List Addr}{h':Heap}(hS:∀a∈S,C.os.F a∨a=C.env.locals)(hs:Heap.SlotsOnly S s.heap h'):Rep prog w C st {s with heap:=h'}:=by
 have hL:∀b o,s.heap.get? b=some o→∃sl,h'.get? b=some {o with slots:=sl}:=hs.2.2
 refine⟨⟨R.H.gens,R.H.os,λb o e=>?_,λb o e=>?_,R.H.apart,R.H.two,R.H.sys,R.H.nG⟩,?_,R.lk,R.qn⟩
 ·obtain⟨o',h1,h2⟩:=R.H.kept b o e
  by_cases hb:b∈S
  ·rcases hS b hb with hF|rfl
   ·obtain⟨sl,h3⟩:=hL b o' h1
    exact⟨_,h3,h2.trans ⟨⟨sl,rfl⟩,λhn=>absurd hF hn⟩⟩
   ·rw[R.lk]at e;cases e
  ·exact⟨o',(hs.2.1 b hb).trans h1,h2⟩
 ·obtain⟨ob,h1,h2⟩:=R.H.objs b o e
  refine⟨ob,(hs.2.1 b λhb=>?_).trans h1,h2⟩
  rcases hS b hb with hF|rfl
  ·obtain⟨o',h3⟩:=R.H.nG b hF
   have:=R.H.apart b (by rw[e];simp);rw[h3]at this;cases this
  ·rw[R.qn]at e;cases e
 ·obtain⟨⟨ml,⟨o,es,ep,ho,r⟩,hl⟩,hcs⟩:=R.loc
  obtain⟨sl,h3⟩:=hL _ _ ho;refine⟨⟨ml,⟨_,es,ep,h3,r⟩,hl⟩,λv c h1 h2=>?_⟩;obtain⟨x,⟨oc,ho,hd⟩,hx⟩:=hcs v c h1 h2;obtain⟨YC,h4⟩:=hL _ _ ho;exact⟨x,⟨_,h4,hd⟩,hx⟩
theorem Rep.gone{st:St}(R:Rep prog w C st s){a:Addr}(h:s.heap.get? a=none):C.K a=none∧st.Ω a=none∧C.env.locals≠a:=by
 refine⟨?_,?_,λq=>?_⟩
 ·cases q:C.K a with
  |none=>rfl
  |some o=>obtain⟨o',h1,_⟩:=R.H.kept a o q;rw[h]at h1;cases h1
 ·cases q:st.Ω a with
  |none=>rfl
  |some o=>obtain⟨o',h1,_⟩:=R.H.objs a o q;rw[h]at h1;cases h1
 ·obtain⟨⟨ml,⟨o,es,ep,ho,_⟩,_⟩,_⟩:=R.loc
  rw[q,h]at ho;cases ho
theorem pG(a:Addr):checkBoundCall "list_iterator.__next__" ⟨[.ref a],[]⟩=pure ():=by kernel_rfl
theorem pH{E:Value→Shared→Prop}{u it li:Addr}{ob:Obj}{i:Nat}{items:Array Value}{x:Value}{Q:Value→Shared→Prop}(ho:s.heap.get? u=some ob)(hc:ob.cls= .type "method-wrapper")(hd:ob.data= .fields #[.builtin "list_iterator.__next__", .ref it])
  (hit:s.heap.IsListIter it li i) (hl:s.heap.IsList li items) (hx:items[i]?=some x)
  (hQ:∀h' oi,h'.get? it=some oi→oi.cls= .type "list_iterator"→oi.data= .fields #[.ref li, .int (i+1:Nat) 0]→(∀o,s.heap.get? it=some o→oi.dict=o.dict)→Heap.SameBut it s.heap h'→Q x {s with heap:=h'}):
  wpAny (model prog w) A (call (.ref u) []) Q E s:=by
 obtain⟨o,ho',hc',hd'⟩:=id hit;obtain⟨ol,Mr,_,nl,hdl⟩:=hl;refine gp ho hc hd (.inr rfl) slot_listiter_next.plain entry_listiter_next (wpAny_of_eq (pG it) ?_);show wpAny _ _ (field (.ref it) 0>>=_) _ _ s;refine wpAny_bind (wpAny_field ho' hd' (x:= .ref li) rfl ?_);show wpAny _ _ (if (Value.ref li==Value.none)=true then _ else _) _ _ s;rw[if_neg (show ¬((Value.ref li==Value.none)=true)from Bool.false_ne_true)];show wpAny _ _ (field (.ref it) 1>>=_) _ _ s;refine wpAny_bind (wpAny_field ho' hd' (x:= .int i 0) rfl ?_);show wpAny _ _ (seqItems? (.ref li)>>=_) _ _ s;refine wpAny_bind (wpAny_seqItems Mr hdl ?_);simp only[Int.toNat_natCast,hx];refine wpAny_bind (wpAny_setField ho' hd' (by simp) (wpAny_pure (hQ _ _ (Heap.get?_update_self _ ho' (Obj.isFreed_of_fields (Obj.data_mapFields hd' _))) ((Obj.cls_mapFields ..).trans hc') (by rw[Obj.data_mapFields hd'];simp[rawInt]) (λo2 e2=>?_) (Heap.SameBut.update ..))));rw[ho']at e2;cases e2;obtain⟨c,d,dt,sl⟩:=o;cases dt<;>first|rfl|cases hd'
theorem qI{E:Value→Shared→Prop}{u it li:Addr}{ob:Obj}{i:Nat}{items:Array Value}{Q:Value→Shared→Prop}(hh:A.handled=none)(ho:s.heap.get? u=some ob)(hc:ob.cls= .type "method-wrapper")(hd:ob.data= .fields #[.builtin "list_iterator.__next__", .ref it])
  (hit:s.heap.IsListIter it li i) (hl:s.heap.IsList li items) (hx:items[i]?=none)
  (hQ:∀h₀ h' e oi oe vs vs',Heap.SameBut it s.heap h₀→h₀.get? it=some oi→oi.data= .fields vs'→(∀b o,h₀.get? b=some o→h'.get? b=some o)→h₀.get? e=none→h'.get? e=some oe→oe.cls= .type "StopIteration"→oe.data= .fields vs→vs[1]?=some .none→E (.ref e) {s with heap:=h'}):
  wpAny (model prog w) A (call (.ref u) []) Q E s:=by
 obtain⟨o,ho',hc',hd'⟩:=id hit;obtain⟨ol,Mr,_,nl,hdl⟩:=hl;refine gp ho hc hd (.inr rfl) slot_listiter_next.plain entry_listiter_next (wpAny_of_eq (pG it) ?_);show wpAny _ _ (field (.ref it) 0>>=_) _ _ s;refine wpAny_bind (wpAny_field ho' hd' (x:= .ref li) rfl ?_);show wpAny _ _ (if (Value.ref li==Value.none)=true then _ else _) _ _ s;rw[if_neg (show ¬((Value.ref li==Value.none)=true)from Bool.false_ne_true)];show wpAny _ _ (field (.ref it) 1>>=_) _ _ s;refine wpAny_bind (wpAny_field ho' hd' (x:= .int i 0) rfl ?_);show wpAny _ _ (seqItems? (.ref li)>>=_) _ _ s;refine wpAny_bind (wpAny_seqItems Mr hdl ?_);simp only[Int.toNat_natCast,hx];refine wpAny_bind (wpAny_rule (wpAny_bind (wpAny_setField ho' hd' (by simp) ?_)));show wpAny _ _ (newExc (.type "StopIteration") []>>=_) _ _ _;refine wpAny_bind ?_;simp only[newExc,newTuple];refine wpAny_bind (wpAny_newObj_type ?_ (by size_fits));refine wpAny_bind (m:=firstArgMember _ _) (wpAny_of_eq (a:=Value.none) (by first|rfl|(simp only[firstArgMember];rfl)) ?_);refine wpAny_newObj_type ?_ (by size_fits);unfold raiseNew;dsimp only;refine wpAny_bind (wpAny_handled ?_)
 first|rw[show A.in1.handled=none from hh]|rw[hh]
 refine wpAny_bind (wpAny_pure (wpAny_throw ?_));refine hQ (s.heap.update it _) _ _ _ _ _ _ (Heap.SameBut.update ..) (Heap.get?_update_self _ ho' (Obj.isFreed_of_fields (Obj.data_mapFields hd' _))) (Obj.data_mapFields hd' _) (λb o hb=>Heap.get?_push_of_some _ (Heap.get?_push_of_some _ hb)) (Heap.get?_none_of_le ?_) (Heap.get?_push_size _ rfl) rfl rfl rfl;rw[Heap.size_push];exact Nat.le_succ _
end
end
section
set_option maxHeartbeats 4000000
open PySem PySem.W PyProof.Rows PySem.Calls
section
variable{prog:Program}{w:World}{B:Addr→Option Obj}{l:Nat}{C:Cx}{A:Around}{s:Shared}
theorem rZ(bf:BF prog w B)(hk:C.env.scope.kind= .function)(hb:∀a o,B a=some o→C.K a=some o∧¬C.os.F a){x:V}{e:Expr}(hx:C.env.kindOf x.name=some .local)(hok:bM (.bX (.var x) .pop) C.env.scope e=true)
  {st:St} {px:Addr} {us:List af} {y:af} (R:Rep prog w C st s) (hm:st.m x=some (.ref px)) (ho:st.Ω px=some (.list (us++[y]))) (hl:us.length+1<lim):
  wpAny (model prog w) A (eval (fill (.bX (.var x) .pop) e) C.env) (λr s'=>VR r y∧Rep prog w C {st with Ω:=st.Ω.set px (.list us)} s') bS s:=by
 have hv:cE (C.env.kindOf x.name)=true:=by rw[hx];rfl
 refine MethodCall_ (wpAny_mono (eval_var R hk hv (λq=>absurd hx q) hm) (λv s1 q=>?_) λaj aj x=>x) (iU rfl rfl (show 0<30 by decide) (aB hok λaj h=>aB h λh aj=>h));obtain⟨hv,e⟩:=q;subst e;cases hv;refine ay (mF bf hb R.H (x:= .ref px) (f:= .builtin .wR) (m:= .pop) rfl (.list ho rfl)) λfx s2 q=>?_
 obtain⟨e1,fv,e2,hf⟩:=q;subst e1 e2;cases hf;refine callWith_of (P:=λh=>Looks (model prog w) h (keeperOf (.builtin BI.wR.id)) .machine) rfl (λaj p=>⟨.machine, .inr (.inl rfl),p⟩) (evalArgs_nil3 ⟨Looks.of_pure rfl,?_⟩);exact ay (lift (Q:=λz st'=>z=y∧st'={st with Ω:=st.Ω.set px (.list us)}) hb R λK os hK RH=>pop_list RH ho (by unfold lim at*;exact hl) ⟨rfl,rfl⟩) λv s' ⟨z,st',h1,h2,h3,h4⟩=>⟨h3▸h1,h4▸h2⟩
theorem s9{st:St}{pd:Addr}{ep:Nat}{es:List (Int×af)}{k0:Int}{kv:Value}(R:Rep prog w C st s)(hk:VR kv (.int k0))(ho:st.Ω pd=some (.dict ep es))(hl:es.length<lim)(hs:(aO es k0).isSome=true):
  wpAny (model prog w) A (delItem (.ref pd) kv) (λaj s'=>∃cK,Rep prog w C {st with Ω:=st.Ω.set pd (.dict cK (qq es k0))} s') bS s:=by
 obtain⟨t,rfl⟩:=hk;obtain⟨kvs,g1,g2,g3⟩:=R.H.dict ho;have hD:=g1.dictOf;unfold delItem
 try with_reducible refine wpAny_holding ?_
 refine wpAny_bind (wpAny_sequenceKey hD.typeIs (by decide) ?_);refine wpAny_bind (wpAny_callSpecial?_slot (name:=Str.ofString "__delitem__") hD.typeIs PySem.F.slot_dict_delitem
  (call_meetsIn PySem.F.slot_dict_delitem hD.typeIs PySem.F.entry_dict_delitem (PySem.F.args_dict_delitem_2 _ _) (meets_dict_delitem_pairs (intKind prog w) pd (k:=k0) cu) ⟨kvs,hD,(by rw[g2.length,sizeLine_eq];unfold lim at hl;exact O8 hl),?_,λh' hmm hs=>?_⟩))
 ·rcases g2.look k0 with⟨v,x,e1,e2,_⟩|⟨e1,e2⟩
  ·rw[e1];rfl
  ·rw[e2]at hs;cases hs
 ·obtain⟨cK,ob,h1,h2⟩:=OO.dictOf hmm (g2.del k0)
  exact wpAny_pure ⟨cK,R.upd ho hs h1 h2⟩
theorem xW{st:St}(R:Rep prog w C st s){a p:Addr}{b:BI}(e:st.Ω a=some (.bound b p))(hb:b= .dN):Looks (model prog w) s.heap (keeperOf (.ref a)) .machine:=by
 subst hb;obtain⟨ob,h1,h2,h3⟩:=R.H.objs _ _ e;refine(Looks.ld (part:=none) h1).andThen ?_;rw[h3,h2];exact Looks.of_pure rfl
theorem xX{M:Model}{E:Value→Shared→Prop}{env:Env}{f i:Expr}{sp pos:Pos}{args:List Expr}{keywords:List Keyword}{Q:Value→Shared→Prop}
  (h:wpAny M A (eval (.Subscript f i sp) env) (λf s₁=>wpAny M A (callWith pos f [] (backTo pos (starEach args env)) (backToKw pos (keywordEach keywords env))) Q E s₁) E s):
  wpAny M A (eval (.Call (.Subscript f i sp) args keywords pos) env) Q E s:=by
 show wpAny M A (do callWith pos (←eval (.Subscript f i sp) env) [] (backTo pos (starEach args env)) (backToKw pos (keywordEach keywords env))) Q E s;exact wpAny_bind h
theorem C9:isSubtype (.type "StopIteration") (.type "BaseException")=pure true:=by rw[isSubtype_type];kernel_rfl
theorem AU:isSubtype (.type ((Manifest.find? "StopIteration").elim "type" λx=>x.metatype)) (.type "tuple")=pure false:=by
 rw[show ((Manifest.find? "StopIteration").elim "type" λx=>x.metatype)="type" from by kernel_rfl,isSubtype_type];kernel_rfl
theorem AV:isSubtype (.type "StopIteration") (.type "StopIteration")=pure true:=by rw[isSubtype_type];kernel_rfl
theorem jY{h:Heap}:∀{l:List Env},(∀e∈l,e.scope.kind≠ .module∧∃L o,e.frame=some L∧h.get? L=some o∧∀vs,o.data≠ .fields vs)→h.FunFrames {} l
 |[],aj=>trivial
 |e::l,H=>by
  obtain⟨h1,L,o,h2,h3,h4⟩:=H e (.head _);exact⟨h1,⟨L,o,h2,Heap.get?_none_of_le (Nat.zero_le _),h3,h4⟩,jY λe he=>H e (.tail _ he)⟩
structure Flt(C:Cx)(st:St)(s:Shared)(e tb:Addr):Prop where
 he:∃oe vs,s.heap.get? e=some oe∧oe.cls= .type "StopIteration"∧oe.data= .fields vs∧vs[1]?=some (.ref tb)
 ht:∃ot ts,s.heap.get? tb=some ot∧ot.data= .fields ts∧3<ts.size
 ne:tb≠e
 gt:C.K tb=none∧st.Ω tb=none∧C.env.locals≠tb
theorem jm{h:Heap}{a:Addr}{o:Obj}{vs:Array Value}(ho:h.get? a=some o)(hd:o.data= .fields vs)(x:Option Value):¬h.IsCell a x:=λ⟨oc,h1,h2⟩=>by
 rw[ho]at h1;cases h1;rw[hd]at h2;cases h2
theorem jZ{E:Value→Shared→Prop}{st:St}{e tb:Addr}{Q:Unit→Shared→Prop}(R:Rep prog w C st s)(F:Flt C st s e tb)(h:∀s',Rep prog w C st s'→Flt C st s' e tb→Q () s'):wpAny (model prog w) A (setFlight (.ref e) none) Q E s:=by
 obtain⟨oe,vs,e1,e2,e3,e4⟩:=F.he;obtain⟨ot,ts,t1,t2,t3⟩:=F.ht;have YT:=Obj.data_mapFields t2 (·.setIfInBounds 3 Value.none);refine wpAny_setFlight_none e1 e3 e4 t1 t2 t3 (h _ (R.wX (t:=s.toks) F.gt.1 F.gt.2.1 F.gt.2.2 (jm t1 t2) λb o hb e=>(Heap.get?_update_other _ _ (Ne.symm hb)).trans e) ⟨⟨oe,vs,(Heap.get?_update_other _ _ F.ne).trans e1,e2,e3,e4⟩,⟨_,_,Heap.get?_update_self _ t1 (Obj.isFreed_of_fields YT),YT,?_⟩,F.ne,F.gt⟩);rw[Array.size_setIfInBounds];exact t3
theorem tu(ok:sZ B l C A){st:St}(R:Rep prog w C st s){outer:List Env}(hfr:A.frames=some (C.env::outer)):s.heap.FunFrames {} (C.env::outer)∧∀a∈(C.env::outer).filterMap (·.frame),C.os.F a∨a=C.env.locals:=by
 obtain⟨fl,f1,f2⟩:=ok.ok.frs;rw[hfr]at f1;cases f1;refine⟨jY λe he=>?_,λa ha=>?_⟩
 ·obtain⟨y1,L,y2,y3⟩:=f2 e he
  refine⟨y1,L,?_⟩
  rcases y3 with⟨y3,o,y4,y5⟩|rfl
  ·obtain⟨o',z1,z2⟩:=R.H.kept L o y4
   exact⟨_,y2,z1,λvs=>by rw[z2.data];exact y5 vs⟩
  ·obtain⟨⟨ml,⟨o,es,ep,ho,hd,_⟩,_⟩,_⟩:=R.loc
   exact⟨o,y2,ho,λvs q=>by rw[hd]at q;cases q⟩
 ·obtain⟨e,he,hf⟩:=List.mem_filterMap.mp ha
  obtain⟨_,L,y2,y3⟩:=f2 e he;rw[hf]at y2;cases y2;exact y3.imp (·.1) id
theorem vo(bf:BF prog w B)(ok:sZ B l C A)(hS:G.StopIteration.ok C.env.scope=true){E:Value→Shared→Prop}{st:St}{e:Addr}{oe:Obj}{vs:Array Value}(R:Rep prog w C st s)(ge:C.K e=none∧st.Ω e=none∧C.env.locals≠e)
  (k5:s.heap.get? e=some oe) (k6:oe.cls= .type "StopIteration") (k7:oe.data= .fields vs) (k8:vs[1]?=some .none) {x:Expr} {b₀:Stmt} {suite:List Stmt} {p:Pos} {Q:Flow→Shared→Prop}
  (h:∀A' E' s',Rep prog w C st s'→wpAny (model prog w) A' (execs (b₀::suite) C.env) Q E' s'):
  wpAny (model prog w) A (noteFrame (.ref e) C.env) (λaj s₂=>wpAny (model prog w) A (setFlight (.ref e) none) (λaj s₃=>wpAny (model prog w) A (handleBy (.ref e) C.env [.ExceptHandler (some (G.StopIteration.at x)) none (b₀::suite) p]) Q E s₃) E s₂) E s:=by
 obtain⟨outer,hfr⟩:=ok.top;obtain⟨hFF,hF⟩:=tu ok R hfr;refine C8 hfr hFF ok.own k5 k7 k8 λh1 h2 tb otb ts Of vs2 n1 n2 n3 n4 n5 n6 n7 n8 n9 n10 YU=>?_
 have R4:Rep prog w C st {s with heap:=h1}:=R.slots hF n1;obtain⟨sl,x3⟩:=n1.2.2 e oe k5;refine jZ (R4.wX (t:=s.toks) ge.1 ge.2.1 ge.2.2 (jm x3 k7) n2) ⟨⟨_,_,n5,n6.trans k6,n7,n8⟩,⟨_,_,n9,n10,YU⟩,n4,R4.gone n3⟩ λs3 R6 F=>?_
 obtain⟨gv,Xl,hlk⟩:=bf.glob .StopIteration C.env ok.ok.Jr ok.ok.blt s3.heap (R6.xD ok.ok.base);cases Xl;obtain⟨oe3,_,e1,e2,_⟩:=F.he;refine wpAny_handleBy_builtin (X:="StopIteration") (T:="StopIteration") (b:=true) C9 AU AV (Name_function_global ok.ok.kind (of_decide_eq_true hS) (hlk.here ⟨rfl,⟨oe3,e1,e2⟩,?_⟩) (G.nH .StopIteration));rw[if_pos rfl];exact jZ R6 F λs4 R7 aj=>h _ _ _ R7
theorem qJ(bf:BF prog w B)(ok:gR B l C A){its d xs:V}{x1 x2:Expr}{p1 p2:Pos}(c4:C.env.kindOf its.name=some .local)(c9:C.env.kindOf d.name=some .local)(AW:C.env.kindOf xs.name=some .local)
  (MK:bM (.bX (.var xs) .pop) C.env.scope (kid x1 1)=true) (Xo:bM (.bX (.var its) .pop) C.env.scope x2=true)
  {st:St} {pi pd px:Addr} {ys us:List af} {c:af} {k0:Int} {ep:Nat} {es:List (Int×af)} {A':Around} {E:Value→Shared→Prop} {Q:Flow→Shared→Prop} (R:Rep prog w C st s) (m1:st.m its=some (.ref pi)) (m2:st.Ω pi=some (.list (ys++[c]))) (m3:ys.length+1<lim)
  (d1:st.m d=some (.ref pd)) (d2:st.m xs=some (.ref px)) (d3:st.Ω pd=some (.dict ep es)) (d4:es.length<lim) (d5:st.Ω px=some (.list (us++[.int k0]))) (d6:us.length+1<lim) (d7:(aO es k0).isSome=true) (d8:pi≠px)
  (hQ:∀cK s',Rep prog w C ⟨st.m,((st.Ω.set px (.list us)).set pd (.dict cK (qq es k0))).set pi (.list ys)⟩ s'→Q .next s'):
  wpAny (model prog w) A' (execs [.Delete [fill (.idx (.var d) (.bX (.var xs) .pop)) x1] p1, .Expr (fill (.bX (.var its) .pop) x2) p2] C.env) Q E s:=by
 have Xp:pd≠px:=λq=>by rw[q,d5]at d3;cases d3
 have Xq:pi≠pd:=λq=>by rw[q,d3]at m2;cases m2
 have hvd:cE (C.env.kindOf d.name)=true:=by rw[c9];rfl
 refine wpAny_execs_cons (wpAny_Delete (wpAny_deleteEach_cons (delete_Subscript (wpAny_mono (eval_var R ok.kind hvd (λq=>absurd c9 q) d1) (λdv s5 q=>?_) λaj aj x=>x))));obtain⟨hdv,e5⟩:=q;subst e5;refine VR.bg hdv (ck (rZ bf ok.kind ok.base AW MK R d2 d5 d6) λkv s6 q=>ck (s9 q.2 q.1 ((aa.ai Xp).trans d3) d4 d7) λaj s7 ⟨cK,R9⟩=>?_);exact wpAny_deleteEach_nil (wpAny_execs_cons (wpAny_Expr_any (ck (rZ bf ok.kind ok.base c4 Xo R9 m1 ((aa.ai Xq).trans ((aa.ai d8).trans m2)) m3) λaj s8 q=>wpAny_execs_nil (hQ cK _ q.2)) ok.inter rfl))
theorem pI(bf:BF prog w B)(ok:gR B l C A){its:V}{x:Expr}(c4:C.env.kindOf its.name=some .local){st:St}{pi cs it:Addr}{ys:List af}{E:Value→Shared→Prop}{Q:Value→Shared→Prop}{pos:Pos}(R:Rep prog w C st s)(m1:st.m its=some (.ref pi))(m2:st.Ω pi=some (.list (ys++[.ref cs])))(m3:ys.length+1<lim)(m4:st.Ω cs=some (.bound .dN it))
  (h:∀s,Rep prog w C st s→wpAny (model prog w) A (call (.ref cs) []) Q E s):wpAny (model prog w) A (eval (fill (.idx (.var its) (.neg 1)) x) C.env) (λf s₁=>wpAny (model prog w) A (callWith pos f [] [] []) Q E s₁) E s:=by
 refine wpAny_mono ((aT bf (.idx (.var its) (.neg 1))).1 ok x ?_ R (Q:=λx st'=>x= .ref cs∧st'=st) ⟨_,m1, .last m2 (by simp) (by unfold lim at*;simp;exact m3) ⟨rfl,rfl⟩⟩) (λfv s1 ⟨x,st1,hv,R1,e1,e2⟩=>?_) λaj aj x=>x.elim
 ·show (cE (C.env.scope.names.lookup its.name)&&true)=true
  rw[show C.env.scope.names.lookup its.name=some .local from c4];rfl
 subst e1 e2;exact VR.bg hv (callWith_of (P:=λh=>Looks (model prog w) h (keeperOf (.ref cs)) .machine) rfl (λaj p=>⟨.machine, .inr (.inl rfl),p⟩) (evalArgs_nil3 ⟨xW R1 m4 rfl,h _ R1⟩))
theorem AX(bf:BF prog w B)(v its d xs:V)(k:MS)(gI:qH prog w B l k):qH prog w B l (.er v its d xs k):=by
 intro C A ok b hb st s Q R h;have hb:(((v.loc C.env.scope&&its.loc C.env.scope)&&(d.loc C.env.scope&&xs.loc C.env.scope))&&((G.StopIteration.ok C.env.scope&&bM (.bX (.var xs) .pop) C.env.scope (kid (sT (hd (hB (sH (hd b))))) 1))&&(bM (.bX (.var its) .pop) C.env.scope (cy (hd (hB (sH (hd b))).tail))&&dJ C.env.scope k b.tail)))=true:=hb;refine aB hb λc1 hr=>aB c1 λc1 c9=>aB c1 λc2 c4=>aB c9 λc9 AW=>aB hr λc7 hr=>aB c7 λc7 MK=>aB hr λXo hk=>?_
 have c4:=of_decide_eq_true c4;refine wpAny_execs_cons (wpAny_Try_except (wpAny_execs_cons (wpAny_Assign_Name (xX ?_) rfl)));cases h with
 |item m1 m2 m3 m4 m5 m6 ex h=>
  refine pI bf ok.ok c4 R m1 m2 m3 m4 λs1 R1=>?_
  obtain⟨ob,q1,q2,q3⟩:=R1.H.objs _ _ m4;obtain⟨oi,r1,r2,r3,r4⟩:=R1.H.objs _ _ m5;obtain⟨items,n,g1,g2,g3⟩:=R1.H.list m6;obtain⟨rv,hi,hr⟩:=g2.get ex;rw[Array.getElem?_toList]at hi;refine pH q1 q2 q3 ⟨oi,r1,r2,r4⟩ ⟨_,g1,rfl,_,rfl⟩ hi λh' oi' k1 k2 k3 k4 hs=>?_
  exact ck (cM (R1.upd (t:=s1.toks) (o':= .d9 _ _) m5 hs k1 ⟨k2,(k4 _ r1).trans r3,k3⟩) ok.ok.kind (of_decide_eq_true c2) hr) λaj s3 R3=>wpAny_execs_cons (wpAny_Break ⟨.brk,_,rfl,R3,h⟩)
 |done m1 m2 m3 m4 m5 m6 ex d1 d2 d3 d4 d5 d6 d7 d8 h=>
  refine pI bf ok.ok c4 R m1 m2 m3 m4 λs1 R1=>?_
  obtain⟨ob,q1,q2,q3⟩:=R1.H.objs _ _ m4;obtain⟨oi,r1,r2,r3,r4⟩:=R1.H.objs _ _ m5;obtain⟨items,n,g1,g2,g3⟩:=R1.H.list m6;refine qI ok.ok.room.1 q1 q2 q3 ⟨oi,r1,r2,r4⟩ ⟨_,g1,rfl,_,rfl⟩ (by rw[Array.getElem?_eq_none_iff,g3];exact List.getElem?_eq_none_iff.mp ex) λh0 h' e oi' oe vs vs' hs k1 k2 k3 k4 k5 k6 k7 k8=>?_
  have R2:Rep prog w C _ {s1 with heap:=h0}:=R1.upd (t:=s1.toks) (o':= .junk) m5 hs k1 (λx q=>by rw[k2]at q;cases q);exact vo bf ok c7 (R2.ext (t:=s1.toks) k3) (R2.gone k4) k5 k6 k7 k8 λA' E' s' R7=>qJ bf ok.ok c4 (of_decide_eq_true c9) (of_decide_eq_true AW) MK Xo R7 m1 ((aa.ai λq=>by rw[q,m5]at m2;cases m2).trans m2) m3 d1 d2 ((aa.ai λq=>by rw[q,m5]at d3;cases d3).trans d3) d4 ((aa.ai λq=>by rw[q,m5]at d5;cases d5).trans d5) d6 d7 d8 λcK s' R8=>gI ok _ hk R8 (h cK)
end
end
section
open PySem PySem.W PyProof.Rows PySem.Calls
theorem cellsFrom_some{v:Str}:∀(names:List (Str×NameKind)) (n:Nat) (acc:List (Str×Addr)),(acc.lookup v).isSome=true∨(v,NameKind.cell)∈names→((cellsFrom n names acc).lookup v).isSome=true
 |[],n,acc,h=>by
  rcases h with h|h
  ·exact h
  ·cases h
 |(nm,k)::r,n,acc,h=>by
  unfold cellsFrom
  split
  ·rename_i hk
   refine cellsFrom_some r _ _ ?_;rw[List.lookup_cons]
   rcases h with h|h
   ·left;split<;>first|rfl|exact h
   ·cases h with
    |head=>left;simp
    |tail aj h=>exact .inr h
  ·rename_i hk
   refine cellsFrom_some r _ _ ?_
   rcases h with h|h
   ·exact .inl h
   ·cases h with
    |head=>exact absurd rfl hk
    |tail aj h=>exact .inr h
noncomputable def bindM(names:List V)(ys:List af):eS:=λv=>(names.zip ys).lookup v
theorem vp{k:Str→Option NameKind}{v:V}:∀{names:List V} {us:List Value} {m:Str→Option Value},v∉names→bindL k ((names.map V.name).zip us) m v.name=m v.name
 |[],us,m,aj=>by simp[bindL]
 |n::names,[],m,aj=>by simp[bindL]
 |n::names,u::us,m,h=>by
  rw[List.map_cons,List.zip_cons_cons];unfold bindL;rw[vp (λq=>h (.tail _ q))];have hne:v.name≠n.name:=λq=>h (V.dK q▸ .head _)
  split
  ·exact if_neg hne
  ·rfl
theorem vq{k:Str→Option NameKind}{v:V}:∀{names:List V} {us:List Value} {m:Str→Option Value},v∉names→bindC k ((names.map V.name).zip us) m v.name=m v.name
 |[],us,m,aj=>by simp[bindC]
 |n::names,[],m,aj=>by simp[bindC]
 |n::names,u::us,m,h=>by
  rw[List.map_cons,List.zip_cons_cons];unfold bindC;rw[vq (λq=>h (.tail _ q))];have hne:v.name≠n.name:=λq=>h (V.dK q▸ .head _)
  split
  ·rfl
  ·exact if_neg hne
theorem vt{k:Str→Option NameKind}{v:V}{y:af}(hk:k v.name=some .local):∀{names:List V} {us:List Value} {ys:List af} {m:Str→Option Value},names.Nodup→aP us ys→(names.zip ys).lookup v=some y→
  ∃r,bindL k ((names.map V.name).zip us) m v.name=some r∧VR r y
 |[],aj,br,dg,gM,kD,h=>by simp at h
 |n::names,[],[],aj,br,dg,h=>by simp at h
 |n::names,u::us,z::ys,m,hn,hv,h=>by
  rw[List.zip_cons_cons,List.lookup_cons]at h;rw[List.map_cons,List.zip_cons_cons];unfold bindL;rw[List.nodup_cons]at hn;cases q:v==n with
  |true=>
   rw[q]at h;cases h;have q:=eq_of_beq q;subst q;rw[vp hn.1,if_pos hk,if_pos rfl];exact⟨u,rfl,hv.1⟩
  |false=>
   rw[q]at h;exact vt hk hn.2 hv.2 h
 |aj::br,[],dg::gM,kD,zw,h,Jl=>h.elim
 |aj::br,dg::gM,[],kD,zw,h,Jl=>h.elim
theorem vv{k:Str→Option NameKind}{v:V}{y:af}(hk:k v.name≠some .local):∀{names:List V} {us:List Value} {ys:List af} {m:Str→Option Value},names.Nodup→aP us ys→(names.zip ys).lookup v=some y→
  ∃r,bindC k ((names.map V.name).zip us) m v.name=some r∧VR r y
 |[],aj,br,dg,gM,kD,h=>by simp at h
 |n::names,[],[],aj,br,dg,h=>by simp at h
 |n::names,u::us,z::ys,m,hn,hv,h=>by
  rw[List.zip_cons_cons,List.lookup_cons]at h;rw[List.map_cons,List.zip_cons_cons];unfold bindC;rw[List.nodup_cons]at hn;cases q:v==n with
  |true=>
   rw[q]at h;cases h;have q:=eq_of_beq q;subst q;rw[vq hn.1,if_neg hk,if_pos rfl];exact⟨u,rfl,hv.1⟩
  |false=>
   rw[q]at h;exact vv hk hn.2 hv.2 h
 |aj::br,[],dg::gM,kD,zw,h,Jl=>h.elim
 |aj::br,dg::gM,[],kD,zw,h,Jl=>h.elim
noncomputable def aW:bl→af
 | .ret x=>x
 |_=> .none
theorem fM{v:Str}{k:NameKind}:∀{L:List (Str×NameKind)},L.lookup v=some k→(v,k)∈L
 |[],e=>by cases e
 |(k',v')::L,e=>by
  rw[List.lookup_cons]at e;cases q:v==k' with
  |true=>rw[q]at e;cases e;rw[eq_of_beq q];exact .head _
  |false=>rw[q]at e;exact .tail _ (fM e)
section
variable{prog:Program}{w:World}{B:Addr→Option Obj}{l:Nat}{A:Around}
structure cX(prog:Program)(w:World)(B:Addr→Option Obj)(a:Addr)(fd:FuncData)(body:List Stmt):Prop where
 at_:∃o,B a=some o∧o.data= .func fd
 body:fd.body= .stmts body
 co:fd.scope.isCoroutine=false
 gen:fd.scope.isGenerator=false
 kind:fd.scope.kind= .function
 Jr:fd.globals=mainGlobals
 blt:fd.builtins=builtinsNs
 clo:fd.closure=[]
 free:∀x∈fd.scope.names,x.2≠ .free
 code:∀h:Heap,(∀a o,B a=some o→h.get? a=some o)→h.CodeRec fd.code fd.qualname
theorem pJ(bf:BF prog w B){a:Addr}{fd:FuncData}{body:List Stmt}(fn:cX prog w B a fd body){ms:MS}{names:List V}{xs:List af}{Ω:aa}{Q:af→aa→Prop}
  (hnd:names.Nodup) (hloc:∀v∈names,cz (fd.scope.names.lookup v.name)=true)
  (hchk:dJ fd.scope ms body=true∧aL ms body=body)
  (hbind:∀K os A s vs,aA prog w K os Ω s→(∀a o,B a=some o→K a=some o∧¬os.F a)→A.handled=none→aP vs xs→wpAny (model prog w) A (bindArgs fd ⟨vs,[]⟩) (λbinds s'=>∃us ys az,binds=(names.map V.name).zip us∧aP us ys∧aA prog w K os az s'∧
   exs prog w B l ms (λfl st'=>Q (aW fl) st'.Ω) ⟨bindM names ys,az⟩) bS s):aF prog w B l (.ref a) xs Q Ω:=by
 intro K os A s fv vs hB hfr hroom hf hvs R;cases hf;obtain⟨o,ho,hd⟩:=fn.at_;have hin:∀{s':Shared} {az:aa},aA prog w K os az s'→∀a o,B a=some o→s'.heap.get? a=some o:=λR' a o e=>by
  obtain⟨o',h1,h2⟩:=R'.kept a o (hB a o e).1;rw[h1,h2.2 (hB a o e).2]
 refine codeAny_call_function hroom.depth (hin R _ _ ho) hd fn.co fn.gen fn.body (fn.code _ (hin R)) ?_;refine ck (hbind K os _ s vs R hB hroom.1 hvs) λbinds s1 hx=>?_
 obtain⟨us,ys,az,rfl,hu,R1,h⟩:=hx;rw[fn.clo];refine wpAny_newFunctionEnv_cells fn.kind (λx hx=>?_) λenv he s2 x=>?_
 ·obtain⟨m,hm,e⟩:=List.mem_map.mp (List.of_mem_zip (a:=x.1) (b:=x.2) hx).1
  rw[←e];have:=hloc m hm;cases q:fd.scope.names.lookup m.name with
  |none=>rw[q]at this;cases this
  |some k=>
   rw[q]at this;cases k with
   |«local»=>exact .inl rfl
   |cell=>exact .inr ⟨rfl,cellsFrom_some _ _ _ (.inr (fM q))⟩
   |_=>cases this
 have hL:env.locals=s1.heap.objs.size:=by rw[he];rfl
 have hsc:env.scope=fd.scope:=by rw[he];rfl
 have ML:∀v,env.kindOf v=fd.scope.names.lookup v:=λv=>by rw[he];rfl
 have hcl:env.cells=cellsFrom (s1.heap.objs.size+1) fd.scope.names []:=by rw[he];rfl
 obtain⟨h',tk,e2⟩:=x.toInCall.same;have R2:aA prog w K os az s2:=by rw[e2];exact R1.ext (by have:=x.toInCall.keep;rw[e2]at this;exact this)
 refine⟨bf.lim _ (hin R2),codeAny_func ?_⟩
 let C:Cx:=⟨K,env,os⟩
 have Xr:∀a,s1.heap.objs.size≤a→K a=none:=λa ha=>by
  cases q:K a with
  |none=>rfl
  |some o=>obtain⟨o',h1,_⟩:=R1.kept a o q;exact absurd (Heap.lt_size h1) (Nat.not_lt.mpr ha)
 have RR:Rep prog w C ⟨bindM names ys,az⟩ s2:=by
  refine⟨R2,⟨⟨_,x.toInCall.ns,λv hv=>?_⟩,λv c hk hx=>?_⟩,?_,?_⟩
  ·show jg _ (bindM names ys v)
   cases e:bindM names ys v with
   |none=>trivial
   |some y=>exact vt hv hnd hu e
  ·refine⟨_,x.cell _ c hx,?_⟩
   show jg _ (bindM names ys v);cases e:bindM names ys v with
   |none=>trivial
   |some y=>exact vv (by rcases hk with hk|hk<;>(rw[hk];simp)) hnd hu e
  ·show K env.locals=none
   rw[hL];exact R1.eT
  ·show az env.locals=none
   rw[hL];exact R1.bE
 obtain⟨fl,f1,f2⟩:=hfr;have hfd:=Around.frames_deeper (env:=env) f1;have ok:sZ B l C (A.deeper C.env):=by
  refine⟨⟨by show env.scope.kind=_;rw[hsc];exact fn.kind,λv h1 h2=>?_,hB,⟨_,hfd,λe he'=>?_⟩,⟨?_,?_,?_,?_,?_⟩,by show env.globals=_;rw[he];exact fn.Jr,by show env.builtins=_;rw[he];exact fn.blt,?_⟩,λv c h1 h2=>?_,λv u c h1 h2=>?_,⟨_,hfd⟩,?_⟩
  ·have h1:fd.scope.names.lookup v.name≠some .local:=by rw[←ML];exact h1
   have h2:cE (fd.scope.names.lookup v.name)=true:=by rw[←ML];exact h2
   show (env.cells.lookup v.name).isSome=true;rw[hcl];cases q:fd.scope.names.lookup v.name with
   |none=>rw[q]at h2;cases h2
   |some k=>
    rw[q]at h1 h2;cases k with
    |«local»=>exact absurd rfl h1
    |cell=>exact cellsFrom_some _ _ _ (.inr (fM q))
    |free=>exact absurd rfl (fn.free _ (fM q))
    |globalExplicit=>cases h2
    |globalImplicit=>cases h2
  ·rcases List.mem_cons.mp he' with q|he'
   ·rw[q]
    exact⟨by rw[hsc,fn.kind];decide,env.locals,by rw[he];rfl, .inr rfl⟩
   ·obtain⟨y1,L,o,y2,y3,y4,y5⟩:=f2 e he'
    exact⟨y1,L,y2, .inl ⟨y3,o,y4,y5⟩⟩
  ·exact hroom.1
  ·show A.depth+1≤_;have:=hroom.2.1;exact QM this
  ·show A.units+3≤_;have:=hroom.2.2.1;exact QN this
  ·show (A.frames.map _).isSome=true;rw[Option.isSome_map];exact hroom.2.2.2.1
  ·exact hroom.2.2.2.2
  ·show (env.scope.kind== .module&&_)=false
   rw[hsc,fn.kind];rfl
  ·have:=x.above v.name c (mem_of_lookup h2)
   rw[hL]at this;exact Xr c (Nat.le_of_lt this)
  ·exact V.dK (name_of_addr x.apart (mem_of_lookup h1) (mem_of_lookup h2))
  ·show env.frame=some env.locals
   rw[he];rfl
 have key:=AS bf (AX bf) ms ok body (by show dJ env.scope ms body=true;rw[hsc];exact hchk.1) RR h;rw[hchk.2]at key;refine ck key λf s3 q=>?_
 obtain⟨fl,st3,hf,R3,hq⟩:=q;refine⟨aW fl,st3.Ω,?_,R3.H,hq⟩;cases fl with
 |next=>cases hf;rfl
 |brk=>cases hf;rfl
 |cont=>cases hf;rfl
 |ret x=>obtain⟨v,rfl,hv⟩:=hf;exact hv
end
noncomputable def fdOf(o:Obj):FuncData:=match o.data with| .func fd=>fd|_=>default
noncomputable def bodyOf(fd:FuncData):List Stmt:=match fd.body with| .stmts b=>b|_=>[]
noncomputable abbrev sv(v:V)(e:ME)(k:MS):MS:= .asg [.var v] e k
noncomputable abbrev len(e:ME):ME:= .bH (.glob .len) e
noncomputable abbrev plus(a b:ME):ME:= .bin .Add a b
noncomputable abbrev minus(a b:ME):ME:= .bin .Sub a b
noncomputable abbrev times(a b:ME):ME:= .bin .Mult a b
noncomputable abbrev fdiv(a b:ME):ME:= .bin .FloorDiv a b
noncomputable abbrev mod(a b:ME):ME:= .bin .Mod a b
noncomputable abbrev app(o x:ME)(k:MS):MS:= .exp (.fH o .append x) k
noncomputable def jz:MS:=
 sv .newitem (.idx (.var .heap) (.var .pos))<|
 .oh (.cmp .Gt (.var .pos) (.var .startpos))
  (sv .parentpos (.bin .RShift (minus (.var .pos) (.int 1)) (.int 1))<|
  sv .parent (.idx (.var .heap) (.var .parentpos))<|
  .ifs (.cmp .Lt (.var .newitem) (.var .parent))
   (.asg [.idx (.var .heap) (.var .pos)] (.var .parent)<|sv .pos (.var .parentpos)<| .cont)
   .nil<|
  .brk)
  .nil<|
 .asg [.idx (.var .heap) (.var .pos)] (.var .newitem) .nil
noncomputable def pK:MS:=
 sv .endpos (len (.var .heap))<|
 sv .startpos (.var .pos)<|
 sv .newitem (.idx (.var .heap) (.var .pos))<|
 sv .childpos (plus (times (.int 2) (.var .pos)) (.int 1))<|
 .oh (.cmp .Lt (.var .childpos) (.var .endpos))
  (sv .rightpos (plus (.var .childpos) (.int 1))<|
  .ifs (.gZ (.cmp .Lt (.var .rightpos) (.var .endpos)) (.not (.cmp .Lt (.idx (.var .heap) (.var .childpos)) (.idx (.var .heap) (.var .rightpos)))))
   (sv .childpos (.var .rightpos) .nil) .nil<|
  .asg [.idx (.var .heap) (.var .pos)] (.idx (.var .heap) (.var .childpos))<|
  sv .pos (.var .childpos)<|
  sv .childpos (plus (times (.int 2) (.var .pos)) (.int 1)) .nil)
  .nil<|
 .asg [.idx (.var .heap) (.var .pos)] (.var .newitem)<|
 .exp (.ig (.glob .jL) (.var .heap) (.var .startpos) (.var .pos)) .nil
noncomputable def kQ:MS:= .pass<|
 sv .lastelt (.bX (.var .heap) .pop)<|
 .ifs (.var .heap)
  (sv .returnitem (.idx (.var .heap) (.int 0))<|
  .asg [.idx (.var .heap) (.int 0)] (.var .lastelt)<|
  .exp (.call2 (.glob .sD) (.var .heap) (.int 0))<|
  .ret (.var .returnitem))
  .nil<|
 .ret (.var .lastelt)
noncomputable def kR:MS:= .pass<|
 sv .n (len (.var .x))<|
 .fR .i ⟨.rev,fdiv (.var .n) (.int 2), .none⟩ (.exp (.call2 (.glob .sD) (.var .x) (.var .i)) .nil) .nil
noncomputable def xY:MS:=
 sv .runs .kJ<|
 sv .before (times (.fP (.int 0)) (plus (len (.var .one)) (.int 1)))<|
 .fR .j ⟨.wY,len (.var .other), .none⟩
 (sv .here (times (.fP (.int 0)) (plus (len (.var .one)) (.int 1)))<|
  sv .fresh .kJ<|
  .fR .i ⟨.wY,len (.var .one), .none⟩
  (.ifs (.cmp .Eq (.idx (.var .one) (.var .i)) (.idx (.var .other) (.var .j)))
   (.asg [.idx (.var .here) (plus (.var .i) (.int 1))] (plus (.idx (.var .before) (.var .i)) (.int 1))<|
    .fR .size ⟨.Am, .int 1,plus (.idx (.var .here) (plus (.var .i) (.int 1))) (.int 1)⟩
    (app (.var .fresh) (plus (plus (times (minus (.int 16) (.var .size)) (.int 256)) (times (minus (plus (.var .i) (.int 1)) (.var .size)) (.int 16))) (minus (plus (.var .j) (.int 1)) (.var .size))) .nil) .nil)
   .nil .nil)<|
  .ifs (.cmp .Gt (plus (len (.var .runs)) (len (.var .fresh))) (.int 20))
  (.ret (.wZ (.var .runs) (.upto (.var .other) (.var .j)))) .nil<|
  .exp (.fH (.var .runs) .extend (.var .fresh))<|
  sv .before (.var .here) .nil)<|
 .ret (.wZ (.var .runs) (.var .other))
noncomputable def pM:MS:= .ret (plus (plus (times (fdiv (.var .t) (.int 256)) (.int 256)) (times (mod (.var .t) (.int 16)) (.int 16))) (mod (fdiv (.var .t) (.int 16)) (.int 16)))
noncomputable def tB:MS:=
 sv .size (minus (.int 16) (fdiv (.var .t) (.int 256)))<|
 .ret (.gZ (.cmp .LtE (plus (mod (fdiv (.var .t) (.int 16)) (.int 16)) (.var .size)) (mod (fdiv (.var .u) (.int 16)) (.int 16)))
 (.cmp .LtE (plus (mod (.var .t) (.int 16)) (.var .size)) (mod (.var .u) (.int 16))))
noncomputable def pN:MS:=
 sv .heap (.bH (.glob .list) (.var .runs))<|
 .exp (.bH (.glob .heapify) (.var .heap))<|
 sv .worths .fJ<|
 sv .left (len (.var .runs))<|
 .oh (.cmp .Gt (.var .left) (.int 0))
 (.aug .left .Sub (.int 1)<|
  .asg [.idx (.var .worths) (.bH (.glob .heappop) (.var .heap))] (.bin .Pow (.int 2) (.var .left)) .nil) .nil<|
 .ret (.var .worths)
noncomputable def tC:MS:=
 .ret (.bH (.glob .sorted) (.fQ (.dI (mod (fdiv (.var .t) (.int 16)) (.int 16)) (mod (.var .t) (.int 16)) (minus (.int 16) (fdiv (.var .t) (.int 256)))) .t .ex (.var .worths) .none
 (.cmp .Eq (mod (fdiv (.var .total) (.idx (.var .worths) (.var .t))) (.int 2)) (.int 1))))
noncomputable def pO:MS:=
 .ret (.comp (.dI (.idx (.var .b) (.int 0)) (.idx (.var .b) (.int 1)) (.idx (.var .b) (.int 2))) .b .ex (.bX (.uH (.glob .SequenceMatcher) .none (.var .one) (.var .other) (.bool false)) .get_matching_blocks) .none)
noncomputable def kT:MS:=
 sv .row (times (.fP (.int 0)) (plus (len (.var .other)) (.int 1)))<|
 .fR .x ⟨.ex, .var .one, .none⟩
 (sv .fresh (.fP (.int 0))<|
  .fR .j ⟨.wY,len (.var .other), .none⟩
  (.ifs (.cmp .Eq (.var .x) (.idx (.var .other) (.var .j)))
   (app (.var .fresh) (plus (.idx (.var .row) (.var .j)) (.int 1)) .nil)
   (app (.var .fresh) (.call2 (.glob .max) (.idx (.var .row) (plus (.var .j) (.int 1))) (.idx (.var .fresh) (.var .j))) .nil) .nil)<|
  sv .row (.var .fresh) .nil)<|
 .ret (.idx (.var .row) (.neg 1))
noncomputable def Dc:MS:=
 sv .letters (.comp (mod (.var .x) (.int 3)) .x .ex (.upto (plus (.upto (.var .script) (.int 14)) (.An [0,0,1,1,0,2])) (.int 14)) .none)<|
 .Cq .one (.comp (.idx (.var .letters) (.var .k)) .k .nX (.int 0) (len (.var .letters)))<|
 .asg [.tup [.runs, .other]] (.call2 (.glob .nS) (.var .one) (.comp (.idx (.var .letters) (.var .k)) .k .nX (.int 1) (len (.var .letters))))<|
 sv .worths (.bH (.glob .gk) (.var .runs))<|
 sv .turned_worths (.bH (.glob .gk) (.comp (.bH (.glob .eg) (.var .t)) .t .ex (.var .runs) .none))<|
 sv .ahead .fJ<|
 sv .sorter (.jP (.glob .TopologicalSorter))<|
 .fR .u ⟨.ex, .var .runs, .none⟩
 (.asg [.idx (.var .ahead) (.var .u)] (.fQ (.var .t) .t .ex (.var .runs) .none (.call2 (.glob .cQ) (.var .t) (.var .u)))<|
  .exp (.kI (.var .sorter) .add (.var .u) (.idx (.var .ahead) (.var .u))) .nil)<|
 .exp (.bX (.var .sorter) .prepare)<|
 sv .best .fJ<|
 sv .turned_best .fJ<|
 sv .rounds (.int 0)<|
 .oh (.bX (.var .sorter) .is_active)
 (sv .ready (.bX (.var .sorter) .get_ready)<|
  .fR .u ⟨.ex, .var .ready, .none⟩
  (.asg [.idx (.var .best) (.var .u)] (plus (.idx (.var .worths) (.var .u)) (.bH (.glob .max) (plus (.fP (.int 0)) (.comp (.idx (.var .best) (.var .t)) .t .ex (.idx (.var .ahead) (.var .u)) .none))))<|
   .asg [.idx (.var .turned_best) (.var .u)] (plus (.idx (.var .turned_worths) (.bH (.glob .eg) (.var .u))) (.bH (.glob .max) (plus (.fP (.int 0)) (.comp (.idx (.var .turned_best) (.var .t)) .t .ex (.idx (.var .ahead) (.var .u)) .none)))) .nil)<|
  .exp (.kH (.var .sorter) .done (.var .ready))<|
  .aug .rounds .Add (.int 1) .nil) .nil<|
 .ifs (.Ej (.cmp .NotEq (len (.var .best)) (len (.var .runs))) (.cmp .NotEq (.var .rounds) (.call2 (.glob .fF) (.var .one) (.var .other)))) (.ret (.bool false)) .nil<|
 sv .named (.call2 (.glob .e9) (.var .worths) (.bH (.glob .max) (plus (.fP (.int 0)) (.comp (.idx (.var .best) (.var .u)) .u .ex (.var .runs) .none))))<|
 .ifs (.cmp .NotEq (plus (.var .named) (.fP (.dI (len (.var .one)) (len (.var .other)) (.int 0)))) (.call2 (.glob .dw) (.var .one) (.var .other))) (.ret (.bool false)) .nil<|
 sv .named (.call2 (.glob .e9) (.var .turned_worths) (.bH (.glob .max) (plus (.fP (.int 0)) (.comp (.idx (.var .turned_best) (.var .u)) .u .ex (.var .runs) .none))))<|
 .ret (.cmp .Eq (plus (.var .named) (.fP (.dI (len (.var .other)) (len (.var .one)) (.int 0)))) (.call2 (.glob .dw) (.var .other) (.var .one)))
noncomputable def Dd:MS:= .pass<| .ret (.kK (.var .Et) (.dI (.var .a) (.var .b) (.var .size)))
noncomputable def xZ:MS:= .pass<|sv .result (.kK (.var .cls) (.var .iterable))<| .ifs (.cmp .NotEq (len (.var .result)) (.int 3)) .dead .nil<| .ret (.var .result)
noncomputable def j3:MS:= .pass<|
 .asg [.at (.var .self) .isjunk] (.var .isjunk)<|
 .asg [.at (.var .self) .a, .at (.var .self) .b] .none<|
 .asg [.at (.var .self) .autojunk] (.var .autojunk)<|
 .exp (.mh (.var .self) .set_seqs (.var .a) (.var .b)) .nil
noncomputable def kU:MS:= .pass<| .exp (.fH (.var .self) .set_seq1 (.var .a))<| .exp (.fH (.var .self) .set_seq2 (.var .b)) .nil
noncomputable def kW:MS:= .pass<|
 .ifs (.cmp .Is (.var .a) (.attr (.var .self) .a)) .Aq .nil<|
 .asg [.at (.var .self) .a] (.var .a)<|
 .asg [.at (.var .self) .matching_blocks, .at (.var .self) .opcodes] .none .nil
noncomputable def kX:MS:= .pass<|
 .ifs (.cmp .Is (.var .b) (.attr (.var .self) .b)) .Aq .nil<|
 .asg [.at (.var .self) .b] (.var .b)<|
 .asg [.at (.var .self) .matching_blocks, .at (.var .self) .opcodes] .none<|
 .asg [.at (.var .self) .fullbcount] .none<|
 .exp (.bX (.var .self) .jM) .nil
noncomputable def tE:MS:=
 sv .b (.attr (.var .self) .b)<|
 .asg [.at (.var .self) .b2j, .var .b2j] .fJ<|
 .Cs .i .elt (.var .b) (sv .indices (.mh (.var .b2j) .setdefault (.var .elt) .kJ)<|app (.var .indices) (.var .i) .nil)<|
 .asg [.at (.var .self) .bjunk, .var .junk] (.jP (.glob .set))<|
 sv .isjunk (.attr (.var .self) .isjunk)<|
 .ifs (.var .isjunk) .dead .nil<|
 .asg [.at (.var .self) .bpopular, .var .popular] (.jP (.glob .set))<|
 sv .n (len (.var .b))<|
 .ifs (.gZ (.attr (.var .self) .autojunk) (.cmp .GtE (.var .n) (.int 200))) .dead .nil .nil
noncomputable def ya:MS:= .pass<|
 .asg [.tup [.a, .b, .b2j, .isbjunk]] (.nj (.attr (.var .self) .a) (.attr (.var .self) .b) (.attr (.var .self) .b2j) (.iu (.attr (.var .self) .bjunk) .dM))<|
 .ifs (.cmp .Is (.var .ahi) .none) (sv .ahi (len (.var .a)) .nil) .nil<|
 .ifs (.cmp .Is (.var .bhi) .none) (sv .bhi (len (.var .b)) .nil) .nil<|
 .jQ [.besti, .bestj, .bestsize] (.dI (.var .alo) (.var .blo) (.int 0))<|
 sv .j2len .fJ<|
 sv .nothing .kJ<|
 .fR .i ⟨.Am, .var .alo, .var .ahi⟩
 (sv .j2lenget (.iu (.var .j2len) .aO)<|
  sv .newj2len .fJ<|
  .fR .j ⟨.ex, .mh (.var .b2j) .get (.idx (.var .a) (.var .i)) (.var .nothing), .none⟩
  (.ifs (.cmp .Lt (.var .j) (.var .blo)) .cont .nil<|
   .ifs (.cmp .GtE (.var .j) (.var .bhi)) .brk .nil<|
   .asg [.var .k, .idx (.var .newj2len) (.var .j)] (plus (.call2 (.var .j2lenget) (minus (.var .j) (.int 1)) (.int 0)) (.int 1))<|
   .ifs (.cmp .Gt (.var .k) (.var .bestsize)) (.jQ [.besti, .bestj, .bestsize] (.dI (plus (minus (.var .i) (.var .k)) (.int 1)) (plus (minus (.var .j) (.var .k)) (.int 1)) (.var .k)) .nil) .nil .nil)<|
  sv .j2len (.var .newj2len) .nil)<|
 .oh (.ie (.cmp .Gt (.var .besti) (.var .alo)) (.cmp .Gt (.var .bestj) (.var .blo)) (.not (.bH (.var .isbjunk) (.idx (.var .b) (minus (.var .bestj) (.int 1))))) (.cmp .Eq (.idx (.var .a) (minus (.var .besti) (.int 1))) (.idx (.var .b) (minus (.var .bestj) (.int 1)))))
 (.jQ [.besti, .bestj, .bestsize] (.dI (minus (.var .besti) (.int 1)) (minus (.var .bestj) (.int 1)) (plus (.var .bestsize) (.int 1))) .nil) .nil<|
 .oh (.ie (.cmp .Lt (plus (.var .besti) (.var .bestsize)) (.var .ahi)) (.cmp .Lt (plus (.var .bestj) (.var .bestsize)) (.var .bhi)) (.not (.bH (.var .isbjunk) (.idx (.var .b) (plus (.var .bestj) (.var .bestsize))))) (.cmp .Eq (.idx (.var .a) (plus (.var .besti) (.var .bestsize))) (.idx (.var .b) (plus (.var .bestj) (.var .bestsize)))))
 (.aug .bestsize .Add (.int 1) .nil) .nil<|
 .oh (.ie (.cmp .Gt (.var .besti) (.var .alo)) (.cmp .Gt (.var .bestj) (.var .blo)) (.bH (.var .isbjunk) (.idx (.var .b) (minus (.var .bestj) (.int 1)))) (.cmp .Eq (.idx (.var .a) (minus (.var .besti) (.int 1))) (.idx (.var .b) (minus (.var .bestj) (.int 1)))))
 (.jQ [.besti, .bestj, .bestsize] (.dI (minus (.var .besti) (.int 1)) (minus (.var .bestj) (.int 1)) (plus (.var .bestsize) (.int 1))) .nil) .nil<|
 .oh (.ie (.cmp .Lt (plus (.var .besti) (.var .bestsize)) (.var .ahi)) (.cmp .Lt (plus (.var .bestj) (.var .bestsize)) (.var .bhi)) (.bH (.var .isbjunk) (.idx (.var .b) (plus (.var .bestj) (.var .bestsize)))) (.cmp .Eq (.idx (.var .a) (plus (.var .besti) (.var .bestsize))) (.idx (.var .b) (plus (.var .bestj) (.var .bestsize)))))
 (sv .bestsize (plus (.var .bestsize) (.int 1)) .nil) .nil<|
 .ret (.ig (.glob .Match) (.var .besti) (.var .bestj) (.var .bestsize))
noncomputable def jA:MS:= .pass<|
 .ifs (.cmp .IsNot (.attr (.var .self) .matching_blocks) .none) (.ret (.attr (.var .self) .matching_blocks)) .nil<|
 .jQ [.la, .lb] (.wZ (len (.attr (.var .self) .a)) (len (.attr (.var .self) .b)))<|
 sv .queue (.fP (.nj (.int 0) (.var .la) (.int 0) (.var .lb)))<|
 sv .matching_blocks .kJ<|
 .oh (.var .queue)
 (.asg [.tup [.alo, .ahi, .blo, .bhi]] (.bX (.var .queue) .pop)<|
  .asg [.tup [.i, .j, .k], .var .x] (.rG (.var .self) .find_longest_match (.var .alo) (.var .ahi) (.var .blo) (.var .bhi))<|
  .ifs (.var .k)
  (app (.var .matching_blocks) (.var .x)<|
   .ifs (.gZ (.cmp .Lt (.var .alo) (.var .i)) (.cmp .Lt (.var .blo) (.var .j))) (app (.var .queue) (.nj (.var .alo) (.var .i) (.var .blo) (.var .j)) .nil) .nil<|
   .ifs (.gZ (.cmp .Lt (plus (.var .i) (.var .k)) (.var .ahi)) (.cmp .Lt (plus (.var .j) (.var .k)) (.var .bhi))) (app (.var .queue) (.nj (plus (.var .i) (.var .k)) (.var .ahi) (plus (.var .j) (.var .k)) (.var .bhi)) .nil) .nil .nil)
  .nil .nil) .nil<|
 .exp (.bX (.var .matching_blocks) .sort)<|
 .asg [.var .i1, .var .j1, .var .k1] (.int 0)<|
 sv .non_adjacent .kJ<|
 .Cr [.i2, .j2, .k2] ⟨.ex, .var .matching_blocks, .none⟩
 (.ifs (.gZ (.cmp .Eq (plus (.var .i1) (.var .k1)) (.var .i2)) (.cmp .Eq (plus (.var .j1) (.var .k1)) (.var .j2)))
  (.aug .k1 .Add (.var .k2) .nil)
  (.ifs (.var .k1) (app (.var .non_adjacent) (.dI (.var .i1) (.var .j1) (.var .k1)) .nil) .nil<|
   .jQ [.i1, .j1, .k1] (.dI (.var .i2) (.var .j2) (.var .k2)) .nil) .nil)<|
 .ifs (.var .k1) (app (.var .non_adjacent) (.dI (.var .i1) (.var .j1) (.var .k1)) .nil) .nil<|
 app (.var .non_adjacent) (.dI (.var .la) (.var .lb) (.int 0))<|
 .asg [.at (.var .self) .matching_blocks] (.eG .non_adjacent)<|
 .ret (.attr (.var .self) .matching_blocks)
noncomputable def j4:MS:= .asg [.at (.var .self) .node] (.var .node)<| .asg [.at (.var .self) .npredecessors] (.int 0)<| .asg [.at (.var .self) .successors] .kJ .nil
noncomputable def j5:MS:=
 .asg [.at (.var .self) .bV] .fJ<| .asg [.at (.var .self) .aG] .none<| .asg [.at (.var .self) .cA] (.int 0)<| .asg [.at (.var .self) .cD] (.int 0)<|
 .ifs (.cmp .IsNot (.var .graph) .none) .dead .nil .nil
noncomputable def tF:MS:=
 .ifs (.cmp .Is (.Jp .result (.fH (.attr (.var .self) .bV) .get (.var .node))) .none)
 (.asg [.idx (.attr (.var .self) .bV) (.var .node), .var .result] (.bH (.glob .nR) (.var .node)) .nil) .nil<|
 .ret (.var .result)
noncomputable def De:MS:= .pass<|
 .ifs (.cmp .IsNot (.attr (.var .self) .aG) .none) .dead .nil<|
 sv .nodeinfo (.fH (.var .self) .cR (.var .node))<|
 .mq (.var .nodeinfo) .npredecessors .Add (len (.var .predecessors))<|
 .fR .pred ⟨.ex, .var .predecessors, .none⟩
 (sv .pred_info (.fH (.var .self) .cR (.var .pred))<|
  app (.attr (.var .pred_info) .successors) (.var .node) .nil) .nil
noncomputable def kY:MS:= .pass<|
 .ifs (.cmp .IsNot (.attr (.var .self) .aG) .none) .dead .nil<|
 .asg [.at (.var .self) .aG] (.fQ (.attr (.var .i) .node) .i .vals (.attr (.var .self) .bV) .none (.cmp .Eq (.attr (.var .i) .npredecessors) (.int 0)))<|
 sv .cycle (.bX (.var .self) .fm)<|
 .ifs (.var .cycle) .dead .nil .nil
noncomputable def jB:MS:= .pass<|
 .ifs (.cmp .Is (.attr (.var .self) .aG) .none) .dead .nil<|
 sv .result (.bH (.glob .tuple) (.attr (.var .self) .aG))<|
 sv .n2i (.attr (.var .self) .bV)<|
 .fR .node ⟨.ex, .var .result, .none⟩ (.asg [.at (.idx (.var .n2i) (.var .node)) .npredecessors] (.glob .gW) .nil)<|
 .exp (.bX (.attr (.var .self) .aG) .clear)<|
 .mq (.var .self) .cA .Add (len (.var .result))<|
 .ret (.var .result)
noncomputable def jC:MS:= .pass<|
 .ifs (.cmp .Is (.attr (.var .self) .aG) .none) .dead .nil<|
 .ret (.Ej (.cmp .Lt (.attr (.var .self) .cD) (.attr (.var .self) .cA)) (.bH (.glob .bool) (.attr (.var .self) .aG)))
noncomputable def yb:MS:= .pass<|
 .ifs (.cmp .Is (.attr (.var .self) .aG) .none) .dead .nil<|
 sv .n2i (.attr (.var .self) .bV)<|
 .fR .node ⟨.ex, .var .nodes, .none⟩
 (.ifs (.cmp .Is (.Jp .nodeinfo (.fH (.var .n2i) .get (.var .node))) .none) .dead .nil<|
  sv .stat (.attr (.var .nodeinfo) .npredecessors)<|
  .ifs (.cmp .NotEq (.var .stat) (.glob .gW)) .dead .nil<|
  .asg [.at (.var .nodeinfo) .npredecessors] (.glob .iS)<|
  .fR .successor ⟨.ex, .attr (.var .nodeinfo) .successors, .none⟩
  (sv .successor_info (.idx (.var .n2i) (.var .successor))<|
   .mq (.var .successor_info) .npredecessors .Sub (.int 1)<|
   .ifs (.cmp .Eq (.attr (.var .successor_info) .npredecessors) (.int 0)) (app (.attr (.var .self) .aG) (.var .successor) .nil) .nil .nil)<|
  .mq (.var .self) .cD .Add (.int 1) .nil) .nil
noncomputable def tG:MS:=
 sv .n2i (.attr (.var .self) .bV)<|
 sv .stack .kJ<|
 sv .itstack .kJ<|
 sv .seen (.jP (.glob .set))<|
 sv .node2stacki .fJ<|
 .fR .node ⟨.ex, .var .n2i, .none⟩
 (.ifs (.cmp .In (.var .node) (.var .seen)) .cont .nil<|
  .oh (.bool true)
  (.ifs (.cmp .In (.var .node) (.var .seen))
   (.ifs (.cmp .In (.var .node) (.var .node2stacki)) .dead .nil .nil)
   (.exp (.fH (.var .seen) .add (.var .node))<|
    app (.var .itstack) (.iu (.bH (.glob .iter) (.attr (.idx (.var .n2i) (.var .node)) .successors)) .dN)<|
    .asg [.idx (.var .node2stacki) (.var .node)] (len (.var .stack))<|
    app (.var .stack) (.var .node) .nil)<|
   .oh (.var .stack) (.er .node .itstack .node2stacki .stack .nil) .brk .nil)
  .nil .nil)<|
 .ret .none
theorem tH(P:Params):dJ (fdOf (lV P)).scope jz (bodyOf (fdOf (lV P)))=true∧aL jz (bodyOf (fdOf (lV P)))=bodyOf (fdOf (lV P)):=⟨by kernel_rfl!,by kernel_rfl!⟩
theorem yc(P:Params):dJ (fdOf (lW P)).scope pK (bodyOf (fdOf (lW P)))=true∧aL pK (bodyOf (fdOf (lW P)))=bodyOf (fdOf (lW P)):=⟨by kernel_rfl!,by kernel_rfl!⟩
theorem vA(P:Params):dJ (fdOf (lT P)).scope kQ (bodyOf (fdOf (lT P)))=true∧aL kQ (bodyOf (fdOf (lT P)))=bodyOf (fdOf (lT P)):=⟨by kernel_rfl!,by kernel_rfl!⟩
theorem vB(P:Params):dJ (fdOf (lU P)).scope kR (bodyOf (fdOf (lU P)))=true∧aL kR (bodyOf (fdOf (lU P)))=bodyOf (fdOf (lU P)):=⟨by kernel_rfl!,by kernel_rfl!⟩
theorem Df(P:Params):dJ (fdOf (lX P)).scope xY (bodyOf (fdOf (lX P)))=true∧aL xY (bodyOf (fdOf (lX P)))=bodyOf (fdOf (lX P)):=⟨by kernel_rfl!,by kernel_rfl!⟩
theorem yd(P:Params):dJ (fdOf (lY P)).scope pM (bodyOf (fdOf (lY P)))=true∧aL pM (bodyOf (fdOf (lY P)))=bodyOf (fdOf (lY P)):=⟨by kernel_rfl!,by kernel_rfl!⟩
theorem AY(P:Params):dJ (fdOf (lZ P)).scope tB (bodyOf (fdOf (lZ P)))=true∧aL tB (bodyOf (fdOf (lZ P)))=bodyOf (fdOf (lZ P)):=⟨by kernel_rfl!,by kernel_rfl!⟩
theorem yf(P:Params):dJ (fdOf (l0 P)).scope pN (bodyOf (fdOf (l0 P)))=true∧aL pN (bodyOf (fdOf (l0 P)))=bodyOf (fdOf (l0 P)):=⟨by kernel_rfl!,by kernel_rfl!⟩
theorem AZ(P:Params):dJ (fdOf (l5 P)).scope tC (bodyOf (fdOf (l5 P)))=true∧aL tC (bodyOf (fdOf (l5 P)))=bodyOf (fdOf (l5 P)):=⟨by kernel_rfl!,by kernel_rfl!⟩
theorem yg(P:Params):dJ (fdOf (l6 P)).scope pO (bodyOf (fdOf (l6 P)))=true∧aL pO (bodyOf (fdOf (l6 P)))=bodyOf (fdOf (l6 P)):=⟨by kernel_rfl!,by kernel_rfl!⟩
theorem vC(P:Params):dJ (fdOf (l7 P)).scope kT (bodyOf (fdOf (l7 P)))=true∧aL kT (bodyOf (fdOf (l7 P)))=bodyOf (fdOf (l7 P)):=⟨by kernel_rfl!,by kernel_rfl!⟩
theorem E4(P:Params):dJ (fdOf (l9 P)).scope Dc (bodyOf (fdOf (l9 P)))=true∧aL Dc (bodyOf (fdOf (l9 P)))=bodyOf (fdOf (l9 P)):=⟨by kernel_rfl!,by kernel_rfl!⟩
theorem E5(P:Params):dJ (fdOf (uD P)).scope Dd (bodyOf (fdOf (uD P)))=true∧aL Dd (bodyOf (fdOf (uD P)))=bodyOf (fdOf (uD P)):=⟨by kernel_rfl!,by kernel_rfl!⟩
theorem Dg(P:Params):dJ (fdOf (uE P)).scope xZ (bodyOf (fdOf (uE P)))=true∧aL xZ (bodyOf (fdOf (uE P)))=bodyOf (fdOf (uE P)):=⟨by kernel_rfl!,by kernel_rfl!⟩
theorem yh(P:Params):dJ (fdOf (lD P)).scope j3 (bodyOf (fdOf (lD P)))=true∧aL j3 (bodyOf (fdOf (lD P)))=bodyOf (fdOf (lD P)):=⟨by kernel_rfl!,by kernel_rfl!⟩
theorem vD(P:Params):dJ (fdOf (lE P)).scope kU (bodyOf (fdOf (lE P)))=true∧aL kU (bodyOf (fdOf (lE P)))=bodyOf (fdOf (lE P)):=⟨by kernel_rfl!,by kernel_rfl!⟩
theorem vE(P:Params):dJ (fdOf (lF P)).scope kW (bodyOf (fdOf (lF P)))=true∧aL kW (bodyOf (fdOf (lF P)))=bodyOf (fdOf (lF P)):=⟨by kernel_rfl!,by kernel_rfl!⟩
theorem vF(P:Params):dJ (fdOf (lG P)).scope kX (bodyOf (fdOf (lG P)))=true∧aL kX (bodyOf (fdOf (lG P)))=bodyOf (fdOf (lG P)):=⟨by kernel_rfl!,by kernel_rfl!⟩
theorem A1(P:Params):dJ (fdOf (lH P)).scope tE (bodyOf (fdOf (lH P)))=true∧aL tE (bodyOf (fdOf (lH P)))=bodyOf (fdOf (lH P)):=⟨by kernel_rfl!,by kernel_rfl!⟩
theorem Dh(P:Params):dJ (fdOf (lJ P)).scope ya (bodyOf (fdOf (lJ P)))=true∧aL ya (bodyOf (fdOf (lJ P)))=bodyOf (fdOf (lJ P)):=⟨by kernel_rfl!,by kernel_rfl!⟩
theorem tK(P:Params):dJ (fdOf (lK P)).scope jA (bodyOf (fdOf (lK P)))=true∧aL jA (bodyOf (fdOf (lK P)))=bodyOf (fdOf (lK P)):=⟨by kernel_rfl!,by kernel_rfl!⟩
theorem yi(P:Params):dJ (fdOf (lM P)).scope j4 (bodyOf (fdOf (lM P)))=true∧aL j4 (bodyOf (fdOf (lM P)))=bodyOf (fdOf (lM P)):=⟨by kernel_rfl!,by kernel_rfl!⟩
theorem yj(P:Params):dJ (fdOf (lN P)).scope j5 (bodyOf (fdOf (lN P)))=true∧aL j5 (bodyOf (fdOf (lN P)))=bodyOf (fdOf (lN P)):=⟨by kernel_rfl!,by kernel_rfl!⟩
theorem A2(P:Params):dJ (fdOf (lO P)).scope tF (bodyOf (fdOf (lO P)))=true∧aL tF (bodyOf (fdOf (lO P)))=bodyOf (fdOf (lO P)):=⟨by kernel_rfl!,by kernel_rfl!⟩
theorem E6(P:Params):dJ (fdOf (jI P)).scope De (bodyOf (fdOf (jI P)))=true∧aL De (bodyOf (fdOf (jI P)))=bodyOf (fdOf (jI P)):=⟨by kernel_rfl!,by kernel_rfl!⟩
theorem vG(P:Params):dJ (fdOf (lP P)).scope kY (bodyOf (fdOf (lP P)))=true∧aL kY (bodyOf (fdOf (lP P)))=bodyOf (fdOf (lP P)):=⟨by kernel_rfl!,by kernel_rfl!⟩
theorem tL(P:Params):dJ (fdOf (lQ P)).scope jB (bodyOf (fdOf (lQ P)))=true∧aL jB (bodyOf (fdOf (lQ P)))=bodyOf (fdOf (lQ P)):=⟨by kernel_rfl!,by kernel_rfl!⟩
theorem tM(P:Params):dJ (fdOf (lR P)).scope jC (bodyOf (fdOf (lR P)))=true∧aL jC (bodyOf (fdOf (lR P)))=bodyOf (fdOf (lR P)):=⟨by kernel_rfl!,by kernel_rfl!⟩
theorem Di(P:Params):dJ (fdOf (jJ P)).scope yb (bodyOf (fdOf (jJ P)))=true∧aL yb (bodyOf (fdOf (jJ P)))=bodyOf (fdOf (jJ P)):=⟨by kernel_rfl!,by kernel_rfl!⟩
theorem A3(P:Params):dJ (fdOf (lS P)).scope tG (bodyOf (fdOf (lS P)))=true∧aL tG (bodyOf (fdOf (lS P)))=bodyOf (fdOf (lS P)):=⟨by kernel_rfl!,by kernel_rfl!⟩
noncomputable def codeOk(oc:Obj)(q:Str):Bool:=match oc.data with
 | .fields vs=>(match (vs[1]?:Option Value)with|some (Value.str q' aj)=>q'==q|_=>false)
 |_=>false
noncomputable def E7:FuncBody→Bool
 | .stmts aj=>true
 |_=>false
noncomputable def GR(o:Obj)(c:Addr)(oc:Obj):Bool:=match o.data with
 | .func fd=>E7 fd.body&& !fd.scope.isCoroutine&& !fd.scope.isGenerator&&decide (fd.scope.kind= .function)&&decide (fd.globals=mainGlobals)&&decide (fd.builtins=builtinsNs)&&fd.closure.isEmpty
   &&(fd.scope.names.all λx=>x.2 != .free)&&(match fd.code with| .ref c'=>decide (c'=c)|_=>false)&&codeOk oc fd.qualname
 |_=>false
theorem aS{prog:Program}{w:World}{B:Addr→Option Obj}(bf:BF prog w B){a c:Addr}{o oc:Obj}(h1:(KF w.params).lookup a=some o)(h2:(KF w.params).lookup c=some oc)(h:GR o c oc=true):cX prog w B a (fdOf o) (bodyOf (fdOf o)):=by
 unfold GR at h
 (set_option tactic.hygienic true in split at h)
 case h_2=>cases h
 rename_i fd hd;obtain⟨h,yk⟩:=bJ h;obtain⟨h,c9⟩:=bJ h;obtain⟨h,c8⟩:=bJ h;obtain⟨h,c7⟩:=bJ h;obtain⟨h,c6⟩:=bJ h;obtain⟨h,c5⟩:=bJ h;obtain⟨h,c4⟩:=bJ h;obtain⟨h,c3⟩:=bJ h;obtain⟨c1,c2⟩:=bJ h;have e:fdOf o=fd:=by unfold fdOf;rw[hd]
 rw[e];refine⟨⟨o,bf.eU _ _ h1,hd⟩,?_,by simpa using c2,by simpa using c3,of_decide_eq_true c4,of_decide_eq_true c5,of_decide_eq_true c6,by simpa using c7,λx hx=>?_,λh hB=>?_⟩
 ·unfold bodyOf
  cases q:fd.body<;>rw[q]at c1<;>first|rfl|cases c1
 ·simpa using List.all_eq_true.mp c8 x hx
 ·cases q:fd.code with
  |ref c'=>
   rw[q]at c9;have:=of_decide_eq_true c9;subst this;unfold codeOk at yk
   (set_option tactic.hygienic true in split at yk)
   case h_2=>cases yk
   rename_i vs hvs
   (set_option tactic.hygienic true in split at yk)
   case h_2=>cases yk
   rename_i q' t hq;exact⟨c',oc,vs,t,rfl,hB _ _ (bf.eU _ _ h2),hvs,by rw[hq,eq_of_beq yk]⟩
  |_=>rw[q]at c9;cases c9
section
variable{prog:Program}{w:World}{B:Addr→Option Obj}
theorem vH(bf:BF prog w B):cX prog w B 387 (fdOf (lV w.params)) (bodyOf (fdOf (lV w.params))):=aS bf (c:=386) (oc:=Gp w.params) (by kernel_rfl!) (by kernel_rfl!) (by kernel_rfl!)
theorem A5(bf:BF prog w B):cX prog w B 394 (fdOf (lW w.params)) (bodyOf (fdOf (lW w.params))):=aS bf (c:=393) (oc:=Gq w.params) (by kernel_rfl!) (by kernel_rfl!) (by kernel_rfl!)
theorem yl(bf:BF prog w B):cX prog w B 373 (fdOf (lT w.params)) (bodyOf (fdOf (lT w.params))):=aS bf (c:=372) (oc:=Gm w.params) (by kernel_rfl!) (by kernel_rfl!) (by kernel_rfl!)
theorem yo(bf:BF prog w B):cX prog w B 380 (fdOf (lU w.params)) (bodyOf (fdOf (lU w.params))):=aS bf (c:=379) (oc:=Gn w.params) (by kernel_rfl!) (by kernel_rfl!) (by kernel_rfl!)
theorem E8(bf:BF prog w B):cX prog w B 401 (fdOf (lX w.params)) (bodyOf (fdOf (lX w.params))):=aS bf (c:=400) (oc:=Gr w.params) (by kernel_rfl!) (by kernel_rfl!) (by kernel_rfl!)
theorem A6(bf:BF prog w B):cX prog w B 408 (fdOf (lY w.params)) (bodyOf (fdOf (lY w.params))):=aS bf (c:=407) (oc:=Gu w.params) (by kernel_rfl!) (by kernel_rfl!) (by kernel_rfl!)
theorem Dj(bf:BF prog w B):cX prog w B 415 (fdOf (lZ w.params)) (bodyOf (fdOf (lZ w.params))):=aS bf (c:=414) (oc:=Gv w.params) (by kernel_rfl!) (by kernel_rfl!) (by kernel_rfl!)
theorem A7(bf:BF prog w B):cX prog w B 422 (fdOf (l0 w.params)) (bodyOf (fdOf (l0 w.params))):=aS bf (c:=421) (oc:=Gw w.params) (by kernel_rfl!) (by kernel_rfl!) (by kernel_rfl!)
theorem Dk(bf:BF prog w B):cX prog w B 427 (fdOf (l5 w.params)) (bodyOf (fdOf (l5 w.params))):=aS bf (c:=426) (oc:=Gx w.params) (by kernel_rfl!) (by kernel_rfl!) (by kernel_rfl!)
theorem A8(bf:BF prog w B):cX prog w B 432 (fdOf (l6 w.params)) (bodyOf (fdOf (l6 w.params))):=aS bf (c:=431) (oc:=Gy w.params) (by kernel_rfl!) (by kernel_rfl!) (by kernel_rfl!)
theorem yp(bf:BF prog w B):cX prog w B 439 (fdOf (l7 w.params)) (bodyOf (fdOf (l7 w.params))):=aS bf (c:=438) (oc:=Gz w.params) (by kernel_rfl!) (by kernel_rfl!) (by kernel_rfl!)
theorem IL(bf:BF prog w B):cX prog w B 444 (fdOf (l9 w.params)) (bodyOf (fdOf (l9 w.params))):=aS bf (c:=443) (oc:=GA w.params) (by kernel_rfl!) (by kernel_rfl!) (by kernel_rfl!)
theorem IM(bf:BF prog w B):cX prog w B 82 (fdOf (uD w.params)) (bodyOf (fdOf (uD w.params))):=aS bf (c:=81) (oc:=Lr w.params) (by kernel_rfl!) (by kernel_rfl!) (by kernel_rfl!)
theorem E9(bf:BF prog w B):cX prog w B 89 (fdOf (uE w.params)) (bodyOf (fdOf (uE w.params))):=aS bf (c:=88) (oc:=Ls w.params) (by kernel_rfl!) (by kernel_rfl!) (by kernel_rfl!)
theorem A9(bf:BF prog w B):cX prog w B 160 (fdOf (lD w.params)) (bodyOf (fdOf (lD w.params))):=aS bf (c:=159) (oc:=F5 w.params) (by kernel_rfl!) (by kernel_rfl!) (by kernel_rfl!)
theorem yr(bf:BF prog w B):cX prog w B 167 (fdOf (lE w.params)) (bodyOf (fdOf (lE w.params))):=aS bf (c:=166) (oc:=F6 w.params) (by kernel_rfl!) (by kernel_rfl!) (by kernel_rfl!)
theorem yt(bf:BF prog w B):cX prog w B 174 (fdOf (lF w.params)) (bodyOf (fdOf (lF w.params))):=aS bf (c:=173) (oc:=F7 w.params) (by kernel_rfl!) (by kernel_rfl!) (by kernel_rfl!)
theorem yu(bf:BF prog w B):cX prog w B 181 (fdOf (lG w.params)) (bodyOf (fdOf (lG w.params))):=aS bf (c:=180) (oc:=F8 w.params) (by kernel_rfl!) (by kernel_rfl!) (by kernel_rfl!)
theorem Dl(bf:BF prog w B):cX prog w B 188 (fdOf (lH w.params)) (bodyOf (fdOf (lH w.params))):=aS bf (c:=187) (oc:=F9 w.params) (by kernel_rfl!) (by kernel_rfl!) (by kernel_rfl!)
theorem Fb(bf:BF prog w B):cX prog w B 196 (fdOf (lJ w.params)) (bodyOf (fdOf (lJ w.params))):=aS bf (c:=195) (oc:=Ga w.params) (by kernel_rfl!) (by kernel_rfl!) (by kernel_rfl!)
theorem vI(bf:BF prog w B):cX prog w B 203 (fdOf (lK w.params)) (bodyOf (fdOf (lK w.params))):=aS bf (c:=202) (oc:=Gb w.params) (by kernel_rfl!) (by kernel_rfl!) (by kernel_rfl!)
theorem Ba(bf:BF prog w B):cX prog w B 261 (fdOf (lM w.params)) (bodyOf (fdOf (lM w.params))):=aS bf (c:=260) (oc:=Gd w.params) (by kernel_rfl!) (by kernel_rfl!) (by kernel_rfl!)
theorem Bb(bf:BF prog w B):cX prog w B 298 (fdOf (lN w.params)) (bodyOf (fdOf (lN w.params))):=aS bf (c:=297) (oc:=Ge w.params) (by kernel_rfl!) (by kernel_rfl!) (by kernel_rfl!)
theorem Dm(bf:BF prog w B):cX prog w B 305 (fdOf (lO w.params)) (bodyOf (fdOf (lO w.params))):=aS bf (c:=304) (oc:=Gf w.params) (by kernel_rfl!) (by kernel_rfl!) (by kernel_rfl!)
theorem IP(bf:BF prog w B):cX prog w B 312 (fdOf (jI w.params)) (bodyOf (fdOf (jI w.params))):=aS bf (c:=311) (oc:=Gg w.params) (by kernel_rfl!) (by kernel_rfl!) (by kernel_rfl!)
theorem yx(bf:BF prog w B):cX prog w B 317 (fdOf (lP w.params)) (bodyOf (fdOf (lP w.params))):=aS bf (c:=316) (oc:=Gh w.params) (by kernel_rfl!) (by kernel_rfl!) (by kernel_rfl!)
theorem vJ(bf:BF prog w B):cX prog w B 324 (fdOf (lQ w.params)) (bodyOf (fdOf (lQ w.params))):=aS bf (c:=323) (oc:=Gi w.params) (by kernel_rfl!) (by kernel_rfl!) (by kernel_rfl!)
theorem vK(bf:BF prog w B):cX prog w B 331 (fdOf (lR w.params)) (bodyOf (fdOf (lR w.params))):=aS bf (c:=330) (oc:=Gj w.params) (by kernel_rfl!) (by kernel_rfl!) (by kernel_rfl!)
theorem Fc(bf:BF prog w B):cX prog w B 345 (fdOf (jJ w.params)) (bodyOf (fdOf (jJ w.params))):=aS bf (c:=344) (oc:=Gk w.params) (by kernel_rfl!) (by kernel_rfl!) (by kernel_rfl!)
theorem Dn(bf:BF prog w B):cX prog w B 352 (fdOf (lS w.params)) (bodyOf (fdOf (lS w.params))):=aS bf (c:=351) (oc:=Gl w.params) (by kernel_rfl!) (by kernel_rfl!) (by kernel_rfl!)
end
section
variable{prog:Program}{w:World}{B:Addr→Option Obj}{K:Addr→Option Obj}{os:Oz}{Ω:aa}{s:Shared}{l:Nat}
theorem qK(P:Params)(v0 v1 v2:Value)(S:Setting):peek (KF P) S (bindArgs (fdOf (lV P)) ⟨[v0,v1,v2],[]⟩)=some [(V.heap.name,v0),(V.startpos.name,v1),(V.pos.name,v2)]:=by kernel_rfl!
theorem vL(P:Params)(v0 v1:Value)(S:Setting):peek (KF P) S (bindArgs (fdOf (lW P)) ⟨[v0,v1],[]⟩)=some [(V.heap.name,v0),(V.pos.name,v1)]:=by kernel_rfl!
theorem tN(P:Params)(v0:Value)(S:Setting):peek (KF P) S (bindArgs (fdOf (lT P)) ⟨[v0],[]⟩)=some [(V.heap.name,v0)]:=by kernel_rfl!
theorem tO(P:Params)(v0:Value)(S:Setting):peek (KF P) S (bindArgs (fdOf (lU P)) ⟨[v0],[]⟩)=some [(V.x.name,v0)]:=by kernel_rfl!
theorem Bc(P:Params)(v0 v1:Value)(S:Setting):peek (KF P) S (bindArgs (fdOf (lX P)) ⟨[v0,v1],[]⟩)=some [(V.one.name,v0),(V.other.name,v1)]:=by kernel_rfl!
theorem vM(P:Params)(v0:Value)(S:Setting):peek (KF P) S (bindArgs (fdOf (lY P)) ⟨[v0],[]⟩)=some [(V.t.name,v0)]:=by kernel_rfl!
theorem yy(P:Params)(v0 v1:Value)(S:Setting):peek (KF P) S (bindArgs (fdOf (lZ P)) ⟨[v0,v1],[]⟩)=some [(V.t.name,v0),(V.u.name,v1)]:=by kernel_rfl!
theorem vN(P:Params)(v0:Value)(S:Setting):peek (KF P) S (bindArgs (fdOf (l0 P)) ⟨[v0],[]⟩)=some [(V.runs.name,v0)]:=by kernel_rfl!
theorem yC(P:Params)(v0 v1:Value)(S:Setting):peek (KF P) S (bindArgs (fdOf (l5 P)) ⟨[v0,v1],[]⟩)=some [(V.worths.name,v0),(V.total.name,v1)]:=by kernel_rfl!
theorem vO(P:Params)(v0 v1:Value)(S:Setting):peek (KF P) S (bindArgs (fdOf (l6 P)) ⟨[v0,v1],[]⟩)=some [(V.one.name,v0),(V.other.name,v1)]:=by kernel_rfl!
theorem tP(P:Params)(v0 v1:Value)(S:Setting):peek (KF P) S (bindArgs (fdOf (l7 P)) ⟨[v0,v1],[]⟩)=some [(V.one.name,v0),(V.other.name,v1)]:=by kernel_rfl!
theorem Dp(P:Params)(v0:Value)(S:Setting):peek (KF P) S (bindArgs (fdOf (l9 P)) ⟨[v0],[]⟩)=some [(V.script.name,v0)]:=by kernel_rfl!
theorem Dq(P:Params)(v0 v1 v2 v3:Value)(S:Setting):peek (KF P) S (bindArgs (fdOf (uD P)) ⟨[v0,v1,v2,v3],[]⟩)=some [(V.Et.name,v0),(V.a.name,v1),(V.b.name,v2),(V.size.name,v3)]:=by kernel_rfl!
theorem Bd(P:Params)(v0 v1:Value)(S:Setting):peek (KF P) S (bindArgs (fdOf (uE P)) ⟨[v0,v1],[]⟩)=some [(V.cls.name,v0),(V.iterable.name,v1)]:=by kernel_rfl!
theorem vP(P:Params)(v0 v1 v2 v3 v4:Value)(S:Setting):peek (KF P) S (bindArgs (fdOf (lD P)) ⟨[v0,v1,v2,v3,v4],[]⟩)=some [(V.self.name,v0),(V.isjunk.name,v1),(V.a.name,v2),(V.b.name,v3),(V.autojunk.name,v4)]:=by kernel_rfl!
theorem tQ(P:Params)(v0 v1 v2:Value)(S:Setting):peek (KF P) S (bindArgs (fdOf (lE P)) ⟨[v0,v1,v2],[]⟩)=some [(V.self.name,v0),(V.a.name,v1),(V.b.name,v2)]:=by kernel_rfl!
theorem tR(P:Params)(v0 v1:Value)(S:Setting):peek (KF P) S (bindArgs (fdOf (lF P)) ⟨[v0,v1],[]⟩)=some [(V.self.name,v0),(V.a.name,v1)]:=by kernel_rfl!
theorem tT(P:Params)(v0 v1:Value)(S:Setting):peek (KF P) S (bindArgs (fdOf (lG P)) ⟨[v0,v1],[]⟩)=some [(V.self.name,v0),(V.b.name,v1)]:=by kernel_rfl!
theorem yD(P:Params)(v0:Value)(S:Setting):peek (KF P) S (bindArgs (fdOf (lH P)) ⟨[v0],[]⟩)=some [(V.self.name,v0)]:=by kernel_rfl!
theorem Be(P:Params)(v0 v1 v2 v3 v4:Value)(S:Setting):peek (KF P) S (bindArgs (fdOf (lJ P)) ⟨[v0,v1,v2,v3,v4],[]⟩)=some [(V.self.name,v0),(V.alo.name,v1),(V.ahi.name,v2),(V.blo.name,v3),(V.bhi.name,v4)]:=by kernel_rfl!
theorem qL(P:Params)(v0:Value)(S:Setting):peek (KF P) S (bindArgs (fdOf (lK P)) ⟨[v0],[]⟩)=some [(V.self.name,v0)]:=by kernel_rfl!
theorem vQ(P:Params)(v0 v1:Value)(S:Setting):peek (KF P) S (bindArgs (fdOf (lM P)) ⟨[v0,v1],[]⟩)=some [(V.self.name,v0),(V.node.name,v1)]:=by kernel_rfl!
theorem yE(P:Params)(v0 v1:Value)(S:Setting):peek (KF P) S (bindArgs (fdOf (lO P)) ⟨[v0,v1],[]⟩)=some [(V.self.name,v0),(V.node.name,v1)]:=by kernel_rfl!
theorem tU(P:Params)(v0:Value)(S:Setting):peek (KF P) S (bindArgs (fdOf (lP P)) ⟨[v0],[]⟩)=some [(V.self.name,v0)]:=by kernel_rfl!
theorem qM(P:Params)(v0:Value)(S:Setting):peek (KF P) S (bindArgs (fdOf (lQ P)) ⟨[v0],[]⟩)=some [(V.self.name,v0)]:=by kernel_rfl!
theorem qN(P:Params)(v0:Value)(S:Setting):peek (KF P) S (bindArgs (fdOf (lR P)) ⟨[v0],[]⟩)=some [(V.self.name,v0)]:=by kernel_rfl!
theorem yF(P:Params)(v0:Value)(S:Setting):peek (KF P) S (bindArgs (fdOf (lS P)) ⟨[v0],[]⟩)=some [(V.self.name,v0)]:=by kernel_rfl!
theorem vR(P:Params)(v0:Value)(S:Setting):peek (KF P) S (bindArgs (fdOf (lN P)) ⟨[v0],[]⟩)=some [(V.self.name,v0),(V.graph.name, .none)]:=by kernel_rfl!
end
@[elab_as_elim] theorem cg{P:List Value→Prop}{l:List Value}(h:l.length=0)(k:P []):P l:=by
 cases l with
 |nil=>exact k
 |cons aj br=>cases h
@[elab_as_elim] theorem aN{P:List Value→Prop}{n:Nat}{l:List Value}(h:l.length=n+1)(k:∀a r,r.length=n→P (a::r)):P l:=by
 cases l with
 |nil=>cases h
 |cons a r=>exact k a r (Nat.succ.inj h)
section
variable{prog:Program}{w:World}{B:Addr→Option Obj}{Ω:aa}{l:Nat}{Q:af→aa→Prop}
theorem aC(bf:BF prog w B){a:Addr}{fd:FuncData}{body:List Stmt}(fn:cX prog w B a fd body){ms:MS}(hchk:dJ fd.scope ms body=true∧aL ms body=body){names:List V}{more:List Value}{bR:List af}(hm:aP more bR)(hnd:names.Nodup)
  (hloc:(names.all λv=>cz (fd.scope.names.lookup v.name))=true) {xs:List af} (hb:∀vs:List Value,vs.length=xs.length→∀S,peek (KF w.params) S (bindArgs fd ⟨vs,[]⟩)=some ((names.map V.name).zip (vs++more)))
  (h:exs prog w B l ms (λfl st'=>Q (aW fl) st'.Ω) ⟨bindM names (xs++bR),Ω⟩):aF prog w B l (.ref a) xs Q Ω:=by
 refine pJ bf fn (names:=names) hnd (λv hv=>List.all_eq_true.mp hloc v hv) hchk λK os A s vs R hB hh hv=>?_
 exact(kp_binds (R.eU bf hB) (hb vs hv.length)) _ _ _ _ ⟨vs++more,xs++bR,Ω,rfl,hv.append hm,R,h⟩
theorem qO(bf:BF prog w B){x0 x1 x2:af}(h:exs prog w B l jz (λfl st'=>Q (aW fl) st'.Ω) ⟨bindM [.heap, .startpos, .pos] [x0,x1,x2],Ω⟩):aF prog w B l (.ref 387) [x0,x1,x2] Q Ω:=
 aC bf (vH bf) (tH _) (names:=[.heap, .startpos, .pos]) (more:=[]) (bR:=[]) trivial (by decide) (by kernel_rfl!) (λvs hv S=>aN hv λv0 aj hv=>aN hv λv1 aj hv=>aN hv λv2 aj hv=>cg hv (qK _ v0 v1 v2 S)) h
theorem vS(bf:BF prog w B){x0 x1:af}(h:exs prog w B l pK (λfl st'=>Q (aW fl) st'.Ω) ⟨bindM [.heap, .pos] [x0,x1],Ω⟩):aF prog w B l (.ref 394) [x0,x1] Q Ω:=
 aC bf (A5 bf) (yc _) (names:=[.heap, .pos]) (more:=[]) (bR:=[]) trivial (by decide) (by kernel_rfl!) (λvs hv S=>aN hv λv0 aj hv=>aN hv λv1 aj hv=>cg hv (vL _ v0 v1 S)) h
theorem tV(bf:BF prog w B){x0:af}(h:exs prog w B l kQ (λfl st'=>Q (aW fl) st'.Ω) ⟨bindM [.heap] [x0],Ω⟩):aF prog w B l (.ref 373) [x0] Q Ω:=
 aC bf (yl bf) (vA _) (names:=[.heap]) (more:=[]) (bR:=[]) trivial (by decide) (by kernel_rfl!) (λvs hv S=>aN hv λv0 aj hv=>cg hv (tN _ v0 S)) h
theorem tW(bf:BF prog w B){x0:af}(h:exs prog w B l kR (λfl st'=>Q (aW fl) st'.Ω) ⟨bindM [.x] [x0],Ω⟩):aF prog w B l (.ref 380) [x0] Q Ω:=
 aC bf (yo bf) (vB _) (names:=[.x]) (more:=[]) (bR:=[]) trivial (by decide) (by kernel_rfl!) (λvs hv S=>aN hv λv0 aj hv=>cg hv (tO _ v0 S)) h
theorem Bf(bf:BF prog w B){x0 x1:af}(h:exs prog w B l xY (λfl st'=>Q (aW fl) st'.Ω) ⟨bindM [.one, .other] [x0,x1],Ω⟩):aF prog w B l (.ref 401) [x0,x1] Q Ω:=
 aC bf (E8 bf) (Df _) (names:=[.one, .other]) (more:=[]) (bR:=[]) trivial (by decide) (by kernel_rfl!) (λvs hv S=>aN hv λv0 aj hv=>aN hv λv1 aj hv=>cg hv (Bc _ v0 v1 S)) h
theorem vU(bf:BF prog w B){x0:af}(h:exs prog w B l pM (λfl st'=>Q (aW fl) st'.Ω) ⟨bindM [.t] [x0],Ω⟩):aF prog w B l (.ref 408) [x0] Q Ω:=
 aC bf (A6 bf) (yd _) (names:=[.t]) (more:=[]) (bR:=[]) trivial (by decide) (by kernel_rfl!) (λvs hv S=>aN hv λv0 aj hv=>cg hv (vM _ v0 S)) h
theorem yG(bf:BF prog w B){x0 x1:af}(h:exs prog w B l tB (λfl st'=>Q (aW fl) st'.Ω) ⟨bindM [.t, .u] [x0,x1],Ω⟩):aF prog w B l (.ref 415) [x0,x1] Q Ω:=
 aC bf (Dj bf) (AY _) (names:=[.t, .u]) (more:=[]) (bR:=[]) trivial (by decide) (by kernel_rfl!) (λvs hv S=>aN hv λv0 aj hv=>aN hv λv1 aj hv=>cg hv (yy _ v0 v1 S)) h
theorem vV(bf:BF prog w B){x0:af}(h:exs prog w B l pN (λfl st'=>Q (aW fl) st'.Ω) ⟨bindM [.runs] [x0],Ω⟩):aF prog w B l (.ref 422) [x0] Q Ω:=
 aC bf (A7 bf) (yf _) (names:=[.runs]) (more:=[]) (bR:=[]) trivial (by decide) (by kernel_rfl!) (λvs hv S=>aN hv λv0 aj hv=>cg hv (vN _ v0 S)) h
theorem yH(bf:BF prog w B){x0 x1:af}(h:exs prog w B l tC (λfl st'=>Q (aW fl) st'.Ω) ⟨bindM [.worths, .total] [x0,x1],Ω⟩):aF prog w B l (.ref 427) [x0,x1] Q Ω:=
 aC bf (Dk bf) (AZ _) (names:=[.worths, .total]) (more:=[]) (bR:=[]) trivial (by decide) (by kernel_rfl!) (λvs hv S=>aN hv λv0 aj hv=>aN hv λv1 aj hv=>cg hv (yC _ v0 v1 S)) h
theorem vW(bf:BF prog w B){x0 x1:af}(h:exs prog w B l pO (λfl st'=>Q (aW fl) st'.Ω) ⟨bindM [.one, .other] [x0,x1],Ω⟩):aF prog w B l (.ref 432) [x0,x1] Q Ω:=
 aC bf (A8 bf) (yg _) (names:=[.one, .other]) (more:=[]) (bR:=[]) trivial (by decide) (by kernel_rfl!) (λvs hv S=>aN hv λv0 aj hv=>aN hv λv1 aj hv=>cg hv (vO _ v0 v1 S)) h
theorem tX(bf:BF prog w B){x0 x1:af}(h:exs prog w B l kT (λfl st'=>Q (aW fl) st'.Ω) ⟨bindM [.one, .other] [x0,x1],Ω⟩):aF prog w B l (.ref 439) [x0,x1] Q Ω:=
 aC bf (yp bf) (vC _) (names:=[.one, .other]) (more:=[]) (bR:=[]) trivial (by decide) (by kernel_rfl!) (λvs hv S=>aN hv λv0 aj hv=>aN hv λv1 aj hv=>cg hv (tP _ v0 v1 S)) h
theorem Dr(bf:BF prog w B){x0:af}(h:exs prog w B l Dc (λfl st'=>Q (aW fl) st'.Ω) ⟨bindM [.script] [x0],Ω⟩):aF prog w B l (.ref 444) [x0] Q Ω:=
 aC bf (IL bf) (E4 _) (names:=[.script]) (more:=[]) (bR:=[]) trivial (by decide) (by kernel_rfl!) (λvs hv S=>aN hv λv0 aj hv=>cg hv (Dp _ v0 S)) h
theorem Ds(bf:BF prog w B){x0 x1 x2 x3:af}(h:exs prog w B l Dd (λfl st'=>Q (aW fl) st'.Ω) ⟨bindM [.Et, .a, .b, .size] [x0,x1,x2,x3],Ω⟩):aF prog w B l (.ref 82) [x0,x1,x2,x3] Q Ω:=
 aC bf (IM bf) (E5 _) (names:=[.Et, .a, .b, .size]) (more:=[]) (bR:=[]) trivial (by decide) (by kernel_rfl!) (λvs hv S=>aN hv λv0 aj hv=>aN hv λv1 aj hv=>aN hv λv2 aj hv=>aN hv λv3 aj hv=>cg hv (Dq _ v0 v1 v2 v3 S)) h
theorem Bg(bf:BF prog w B){x0 x1:af}(h:exs prog w B l xZ (λfl st'=>Q (aW fl) st'.Ω) ⟨bindM [.cls, .iterable] [x0,x1],Ω⟩):aF prog w B l (.ref 89) [x0,x1] Q Ω:=
 aC bf (E9 bf) (Dg _) (names:=[.cls, .iterable]) (more:=[]) (bR:=[]) trivial (by decide) (by kernel_rfl!) (λvs hv S=>aN hv λv0 aj hv=>aN hv λv1 aj hv=>cg hv (Bd _ v0 v1 S)) h
theorem vX(bf:BF prog w B){x0 x1 x2 x3 x4:af}(h:exs prog w B l j3 (λfl st'=>Q (aW fl) st'.Ω) ⟨bindM [.self, .isjunk, .a, .b, .autojunk] [x0,x1,x2,x3,x4],Ω⟩):aF prog w B l (.ref 160) [x0,x1,x2,x3,x4] Q Ω:=
 aC bf (A9 bf) (yh _) (names:=[.self, .isjunk, .a, .b, .autojunk]) (more:=[]) (bR:=[]) trivial (by decide) (by kernel_rfl!) (λvs hv S=>aN hv λv0 aj hv=>aN hv λv1 aj hv=>aN hv λv2 aj hv=>aN hv λv3 aj hv=>aN hv λv4 aj hv=>cg hv (vP _ v0 v1 v2 v3 v4 S)) h
theorem tY(bf:BF prog w B){x0 x1 x2:af}(h:exs prog w B l kU (λfl st'=>Q (aW fl) st'.Ω) ⟨bindM [.self, .a, .b] [x0,x1,x2],Ω⟩):aF prog w B l (.ref 167) [x0,x1,x2] Q Ω:=
 aC bf (yr bf) (vD _) (names:=[.self, .a, .b]) (more:=[]) (bR:=[]) trivial (by decide) (by kernel_rfl!) (λvs hv S=>aN hv λv0 aj hv=>aN hv λv1 aj hv=>aN hv λv2 aj hv=>cg hv (tQ _ v0 v1 v2 S)) h
theorem tZ(bf:BF prog w B){x0 x1:af}(h:exs prog w B l kW (λfl st'=>Q (aW fl) st'.Ω) ⟨bindM [.self, .a] [x0,x1],Ω⟩):aF prog w B l (.ref 174) [x0,x1] Q Ω:=
 aC bf (yt bf) (vE _) (names:=[.self, .a]) (more:=[]) (bR:=[]) trivial (by decide) (by kernel_rfl!) (λvs hv S=>aN hv λv0 aj hv=>aN hv λv1 aj hv=>cg hv (tR _ v0 v1 S)) h
theorem t6(bf:BF prog w B){x0 x1:af}(h:exs prog w B l kX (λfl st'=>Q (aW fl) st'.Ω) ⟨bindM [.self, .b] [x0,x1],Ω⟩):aF prog w B l (.ref 181) [x0,x1] Q Ω:=
 aC bf (yu bf) (vF _) (names:=[.self, .b]) (more:=[]) (bR:=[]) trivial (by decide) (by kernel_rfl!) (λvs hv S=>aN hv λv0 aj hv=>aN hv λv1 aj hv=>cg hv (tT _ v0 v1 S)) h
theorem yI(bf:BF prog w B){x0:af}(h:exs prog w B l tE (λfl st'=>Q (aW fl) st'.Ω) ⟨bindM [.self] [x0],Ω⟩):aF prog w B l (.ref 188) [x0] Q Ω:=
 aC bf (Dl bf) (A1 _) (names:=[.self]) (more:=[]) (bR:=[]) trivial (by decide) (by kernel_rfl!) (λvs hv S=>aN hv λv0 aj hv=>cg hv (yD _ v0 S)) h
theorem Bh(bf:BF prog w B){x0 x1 x2 x3 x4:af}(h:exs prog w B l ya (λfl st'=>Q (aW fl) st'.Ω) ⟨bindM [.self, .alo, .ahi, .blo, .bhi] [x0,x1,x2,x3,x4],Ω⟩):aF prog w B l (.ref 196) [x0,x1,x2,x3,x4] Q Ω:=
 aC bf (Fb bf) (Dh _) (names:=[.self, .alo, .ahi, .blo, .bhi]) (more:=[]) (bR:=[]) trivial (by decide) (by kernel_rfl!) (λvs hv S=>aN hv λv0 aj hv=>aN hv λv1 aj hv=>aN hv λv2 aj hv=>aN hv λv3 aj hv=>aN hv λv4 aj hv=>cg hv (Be _ v0 v1 v2 v3 v4 S)) h
theorem qP(bf:BF prog w B){x0:af}(h:exs prog w B l jA (λfl st'=>Q (aW fl) st'.Ω) ⟨bindM [.self] [x0],Ω⟩):aF prog w B l (.ref 203) [x0] Q Ω:=
 aC bf (vI bf) (tK _) (names:=[.self]) (more:=[]) (bR:=[]) trivial (by decide) (by kernel_rfl!) (λvs hv S=>aN hv λv0 aj hv=>cg hv (qL _ v0 S)) h
theorem vY(bf:BF prog w B){x0 x1:af}(h:exs prog w B l j4 (λfl st'=>Q (aW fl) st'.Ω) ⟨bindM [.self, .node] [x0,x1],Ω⟩):aF prog w B l (.ref 261) [x0,x1] Q Ω:=
 aC bf (Ba bf) (yi _) (names:=[.self, .node]) (more:=[]) (bR:=[]) trivial (by decide) (by kernel_rfl!) (λvs hv S=>aN hv λv0 aj hv=>aN hv λv1 aj hv=>cg hv (vQ _ v0 v1 S)) h
theorem yJ(bf:BF prog w B){x0 x1:af}(h:exs prog w B l tF (λfl st'=>Q (aW fl) st'.Ω) ⟨bindM [.self, .node] [x0,x1],Ω⟩):aF prog w B l (.ref 305) [x0,x1] Q Ω:=
 aC bf (Dm bf) (A2 _) (names:=[.self, .node]) (more:=[]) (bR:=[]) trivial (by decide) (by kernel_rfl!) (λvs hv S=>aN hv λv0 aj hv=>aN hv λv1 aj hv=>cg hv (yE _ v0 v1 S)) h
theorem t7(bf:BF prog w B){x0:af}(h:exs prog w B l kY (λfl st'=>Q (aW fl) st'.Ω) ⟨bindM [.self] [x0],Ω⟩):aF prog w B l (.ref 317) [x0] Q Ω:=
 aC bf (yx bf) (vG _) (names:=[.self]) (more:=[]) (bR:=[]) trivial (by decide) (by kernel_rfl!) (λvs hv S=>aN hv λv0 aj hv=>cg hv (tU _ v0 S)) h
theorem qQ(bf:BF prog w B){x0:af}(h:exs prog w B l jB (λfl st'=>Q (aW fl) st'.Ω) ⟨bindM [.self] [x0],Ω⟩):aF prog w B l (.ref 324) [x0] Q Ω:=
 aC bf (vJ bf) (tL _) (names:=[.self]) (more:=[]) (bR:=[]) trivial (by decide) (by kernel_rfl!) (λvs hv S=>aN hv λv0 aj hv=>cg hv (qM _ v0 S)) h
theorem qR(bf:BF prog w B){x0:af}(h:exs prog w B l jC (λfl st'=>Q (aW fl) st'.Ω) ⟨bindM [.self] [x0],Ω⟩):aF prog w B l (.ref 331) [x0] Q Ω:=
 aC bf (vK bf) (tM _) (names:=[.self]) (more:=[]) (bR:=[]) trivial (by decide) (by kernel_rfl!) (λvs hv S=>aN hv λv0 aj hv=>cg hv (qN _ v0 S)) h
theorem yK(bf:BF prog w B){x0:af}(h:exs prog w B l tG (λfl st'=>Q (aW fl) st'.Ω) ⟨bindM [.self] [x0],Ω⟩):aF prog w B l (.ref 352) [x0] Q Ω:=
 aC bf (Dn bf) (A3 _) (names:=[.self]) (more:=[]) (bR:=[]) trivial (by decide) (by kernel_rfl!) (λvs hv S=>aN hv λv0 aj hv=>cg hv (yF _ v0 S)) h
theorem vZ(bf:BF prog w B){x0:af}(h:exs prog w B l j5 (λfl st'=>Q (aW fl) st'.Ω) ⟨bindM [.self, .graph] [x0, .none],Ω⟩):aF prog w B l (.ref 298) [x0] Q Ω:=
 aC bf (Bb bf) (yj _) (names:=[.self, .graph]) (more:=[.none]) (bR:=[.none]) ⟨rfl,trivial⟩ (by decide) (by kernel_rfl!) (λvs hv S=>aN hv λv0 aj hv=>cg hv (vR _ v0 S)) h
end
theorem Dt(P:Params)(v0 v1:Value)(vs:List Value):bindArgs (fdOf (jI P)) ⟨v0::v1::vs,[]⟩=(do let t←newTuple vs;pure [(V.self.name,v0),(V.node.name,v1),(V.predecessors.name,t)]):=by
 cases vs<;>kernel_rfl!
theorem Du(P:Params)(v0:Value)(vs:List Value):bindArgs (fdOf (jJ P)) ⟨v0::vs,[]⟩=(do let t←newTuple vs;pure [(V.self.name,v0),(V.nodes.name,t)]):=by
 cases vs<;>kernel_rfl!
section
variable{prog:Program}{w:World}{B:Addr→Option Obj}{Ω:aa}{l:Nat}{Q:af→aa→Prop}
theorem Dv(bf:BF prog w B){x0 x1:af}{xs:List af}(hl:xs.length<lim)(h:∀r,Ω r=none→exs prog w B l De (λfl st'=>Q (aW fl) st'.Ω) ⟨bindM [.self, .node, .predecessors] [x0,x1, .ref r],Ω.set r (.tup xs)⟩):aF prog w B l (.ref 312) (x0::x1::xs) Q Ω:=by
 refine pJ bf (IP bf) (names:=[.self, .node, .predecessors]) (by decide) (λv hv=>List.all_eq_true.mp (show ([V.self, .node, .predecessors].all λv=>cz ((fdOf (jI w.params)).scope.names.lookup v.name))=true by kernel_rfl!) v hv) (E6 _) λK os A s vs R hB hh hv=>?_
 refine aP.dS hv λv0 vs hv0 hv=>aP.dS hv λv1 vs hv1 hv=>?_
 ·rw[Dt]
  refine wpAny_bind (wpAny_newTuple (wpAny_pure ?_) (by rw[hv.length,sizeLine_eq];unfold lim at hl;exact O8 hl));exact⟨[v0,v1, .ref _],[x0,x1, .ref _],_,rfl,⟨hv0,hv1,rfl,trivial⟩,R.make (t:=s.toks) rfl (OO.N4 hv),h _ R.bE⟩
theorem Bj(bf:BF prog w B){x0:af}{xs:List af}(hl:xs.length<lim)(h:∀r,Ω r=none→exs prog w B l yb (λfl st'=>Q (aW fl) st'.Ω) ⟨bindM [.self, .nodes] [x0, .ref r],Ω.set r (.tup xs)⟩):aF prog w B l (.ref 345) (x0::xs) Q Ω:=by
 refine pJ bf (Fc bf) (names:=[.self, .nodes]) (by decide) (λv hv=>List.all_eq_true.mp (show ([V.self, .nodes].all λv=>cz ((fdOf (jJ w.params)).scope.names.lookup v.name))=true by kernel_rfl!) v hv) (Di _) λK os A s vs R hB hh hv=>?_
 refine aP.dS hv λv0 vs hv0 hv=>?_
 ·rw[Du]
  refine wpAny_bind (wpAny_newTuple (wpAny_pure ?_) (by rw[hv.length,sizeLine_eq];unfold lim at hl;exact O8 hl));exact⟨[v0, .ref _],[x0, .ref _],_,rfl,⟨hv0,rfl,trivial⟩,R.make (t:=s.toks) rfl (OO.N4 hv),h _ R.bE⟩
theorem Bk(C:Addr)(vs:List Value)(kw:List (Str×Value)):(Code.builtin "type.__call__" ⟨.ref C::vs,kw⟩).weight≤2:=Nat.le_of_ble_eq_true (by kernel_rfl)
theorem t9(a:Args):(Code.builtin "type.__call__" a).envs=[]:=by rfl
theorem Dw(a:Args):(Code.builtin "type.__call__" a).cUnits≤2:=by first|decide|exact Nat.le_of_ble_eq_true (by kernel_rfl)
theorem gC{A:Around}{c:Code}(h:c.envs=[]):(A.under c).frames=A.frames:=by
 show pushEnvs c.envs A.frames=A.frames;rw[h];cases A.frames<;>rfl
theorem pP{A:Around}{C:Addr}{vs:List Value}{kw:List (Str×Value)}(h:qo l A)(hl:l<60):qo (l+1) (A.under (.builtin "type.__call__" ⟨.ref C::vs,kw⟩)):=by
 obtain⟨h1,h2,h3,h4,h5⟩:=h;refine⟨?_,?_,?_,?_,?_⟩
 ·exact h1
 ·show A.depth+(Code.builtin "type.__call__" ⟨.ref C::vs,kw⟩).weight≤_;have:=Bk C vs kw;exact QG h2 this
 ·show A.units+(Code.builtin "type.__call__" ⟨.ref C::vs,kw⟩).cUnits≤_;have:=Dw ⟨.ref C::vs,kw⟩;exact QH h3 this
 ·rw[gC (t9 _)];exact h4
 ·exact Nat.succ_le_of_lt hl
theorem iG(bf:BF prog w B){C f:Addr}(hl:l<60)(hm:makesIn (KF w.params) C=true)(hf:findIn (KF w.params) (.ref C) "__init__"=some (some (.ref f)))(ht:typeIn (KF w.params) (.ref f)=some (.type "function")){xs:List af}
  {oC:Addr→bI} (hO:∀d,OO prog w (oC d) (instObj C d))
  (h:∀r d,Ω r=none→Ω d=none→r≠d→aF prog w B (l+1) (.ref f) (.ref r::xs) (λv az=>v= .none∧Q (.ref r) az) ((Ω.set d (.ns 0 λaj=>none)).set r (oC d))):aF prog w B l (.ref C) xs Q Ω:=by
 intro K os A s fv vs hB hfr hroom Xs hvs R;cases Xs;have X:=R.eU bf hB;have R1:=R.make (t:=s.toks) (ob:=emptyDict) (o:= .ns 0 λaj=>none) rfl ⟨[],0,rfl,Nat.le_refl _,⟨λt x q=>(nomatch q),λnm aj=>rfl⟩⟩;have hn1:=R.bE;have R2:=R1.make (t:=s.toks) (ob:=instObj C s.heap.objs.size) (o:=oC s.heap.objs.size) rfl (hO _);have hn2:=R1.bE;obtain⟨hh,g,d,t,o⟩:=s;refine make_core (makes_of X hm) (looks_findIn X hf) (λself=>bind_fn X self ht) (.inl rfl) ?_;have e:(hh.push emptyDict).objs.size=hh.objs.size+1:=Heap.size_push ..;dsimp only at R1 R2 hn1 hn2;rw[e]at R2 hn2;have hne:hh.objs.size+1≠hh.objs.size:=Nat.succ_ne_self _;have hn3:Ω (hh.objs.size+1)=none:=by rw[aa.ai hne]at hn2;exact hn2
 refine codeAny_mono (h (hh.objs.size+1) hh.objs.size hn3 hn1 hne K os _ _ (.ref f) (.ref (hh.objs.size+1)::vs) hB ?_ (pP hroom hl) rfl ⟨rfl,hvs⟩ R2) λr s' z=>?_
 ·obtain⟨fl,f1,f2⟩:=hfr
  exact⟨fl,(gC (t9 _)).trans f1,f2⟩
 ·rcases r with e|(v|_|_|_)<;>first|exact z.elim|skip
  obtain⟨x,az,h1,h2,h3,h4⟩:=z;subst h3;cases h1;exact⟨rfl, .ref _,az,rfl,h2,h4⟩
theorem qS(bf:BF prog w B)(hl:l<60){x:af}(h:∀r d,Ω r=none→Ω d=none→r≠d→exs prog w B (l+1) j4 (λfl st'=>aW fl= .none∧Q (.ref r) st'.Ω) ⟨bindM [.self, .node] [.ref r,x],(Ω.set d (.ns 0 λaj=>none)).set r (.node d λaj=>none)⟩):
  aF prog w B l (.ref 265) [x] Q Ω:=
 iG bf (f:=261) (oC:=λd=> .node d λaj=>none) hl (by kernel_rfl!) (by kernel_rfl!) (by kernel_rfl!) (λd=>⟨#[],rfl,λaj aj aj aj q=>nomatch q⟩) λr d h1 h2 h3=>vY bf (h r d h1 h2 h3)
theorem Fd(bf:BF prog w B)(hl:l<60){x y z u:af}(h:∀r d,Ω r=none→Ω d=none→r≠d→exs prog w B (l+1) j3 (λfl st'=>aW fl= .none∧Q (.ref r) st'.Ω) ⟨bindM [.self, .isjunk, .a, .b, .autojunk] [.ref r,x,y,z,u],(Ω.set d (.ns 0 λaj=>none)).set r (.inst 242 d)⟩):
  aF prog w B l (.ref 242) [x,y,z,u] Q Ω:=
 iG bf (f:=160) (oC:=λd=> .inst 242 d) hl (by kernel_rfl!) (by kernel_rfl!) (by kernel_rfl!) (λd=>rfl) λr d h1 h2 h3=>vX bf (h r d h1 h2 h3)
theorem Fe(bf:BF prog w B)(hl:l<60)(h:∀r d,Ω r=none→Ω d=none→r≠d→exs prog w B (l+1) j5 (λfl st'=>aW fl= .none∧Q (.ref r) st'.Ω) ⟨bindM [.self, .graph] [.ref r, .none],(Ω.set d (.ns 0 λaj=>none)).set r (.inst 362 d)⟩):
  aF prog w B l (.ref 362) [] Q Ω:=
 iG bf (f:=298) (oC:=λd=> .inst 362 d) hl (by kernel_rfl!) (by kernel_rfl!) (by kernel_rfl!) (λd=>rfl) λr d h1 h2 h3=>vZ bf (h r d h1 h2 h3)
end
end
section
set_option maxHeartbeats 4000000
open PySem PySem.W PyProof.Rows PySem.Calls Builtin Builtin.ObjectAttr Builtin.Getset_descriptor
section
variable{prog:Program}{w:World}{B:Addr→Option Obj}{Ω:aa}{l:Nat}{Q:af→aa→Prop}
namespace MX
theorem call(P:Params):specialIn (KF P) (.ref 135) "__call__"=some (some (.builtin "type.__call__")):=by kernel_rfl!
theorem typ(P:Params):instIn (KF P) (.ref 135) (.type "type")=some true:=by kernel_rfl!
theorem at_(P:Params):(KF P).lookup 135=some (F4 P):=by kernel_rfl!
theorem self(P:Params):mroIn (KF P) 135 (.ref 135)=some true:=by kernel_rfl!
theorem top(P:Params):mroIn (KF P) 135 (.type "object")=some true:=by kernel_rfl!
theorem made(P:Params)(S:Setting):peek (KF P) S (Bind.madeBy (.ref 135))=some none:=by kernel_rfl!
theorem init(P:Params):findIn (KF P) (.ref 135) "__init__"=some (some (.builtin "object.__init__")):=by kernel_rfl!
theorem reads(P:Params):readsIn (KF P) 135 (.type "type")=true:=by kernel_rfl!
theorem new(P:Params):findCls (KF P) (.ref 135) (.type "type") "__new__"=some (.get (.builtin "staticmethod.__get__") (.ref 136) .none (.ref 135)):=by kernel_rfl!
theorem rec(P:Params):recIn (KF P) 136 "staticmethod"=some [.ref 82]:=by kernel_rfl!
theorem Dy(a b c d:Value):argsOk "object.__init__" ⟨[a,b,c,d],[]⟩:=by unfold argsOk;kernel_rfl
end MX
theorem yL(bf:BF prog w B)(hl:l<60){x y z:af}(h:∀r1 r,Ω r1=none→Ω r=none→r≠r1→Q (.ref r) ((Ω.set r1 (.tup [x,y,z])).set r (.cZ [x,y,z]))):aF prog w B l (.ref 135) [x,y,z] Q Ω:=by
 have hnew:aF prog w B (l+1) (.ref 82) [.ref 135,x,y,z] (λv az=>∃r,v= .ref r∧az r=some (.cZ [x,y,z])∧Q v az) Ω:=by
  refine Ds bf ?_;refine⟨.ref 135,rfl,x,rfl,y,rfl,z,rfl,λr1 h1=> .mk aa.set_same (by simp[lim]) λr hr=>?_⟩;have hne:r≠r1:=λq=>by
   have hr:(Ω.set r1 (.tup [x,y,z])) r=none:=hr;rw[q,aa.set_same]at hr;cases hr
  have hr:(Ω.set r1 (.tup [x,y,z])) r=none:=hr;rw[aa.ai hne]at hr;exact⟨r,rfl,aa.set_same,h r1 r h1 hr hne⟩
 intro K os A s fv vs hB hfr hroom Xs hvs R;cases Xs;have X:=R.eU bf hB;have hC:=X _ _ (MX.at_ w.params);have lc:Looks (model prog w) s.heap (specialOf (.ref 135) "__call__") (some (.builtin "type.__call__")):=looks_specialIn X (MX.call _);have lt:Looks (model prog w) s.heap (isInstance (.ref 135) (.type "type")) true:=looks_instIn X (MX.typ _);have lm:Looks (model prog w) s.heap (Bind.madeBy (.ref 135)) none:=Looks.of_peek X (MX.made _ _);refine aP.dS hvs λv0 aj q0 q=>aP.dS q λv1 aj q1 q=>aP.dS q λv2 aj q2 q=>aP.jS q ?_
 ·have hvs:aP [v0,v1,v2] [_,_,_]:=⟨q0,q1,q2,trivial⟩
  refine codeAny_of_tree ?_;show wpAny _ _ (callAny (.ref 135) _) _ _ _;obtain⟨hh,g,d,t,o⟩:=s;refine nd_load hC ?_;show wpAny _ _ (callAny.viaDunder (.ref 135) _) _ _ _;unfold callAny.viaDunder;refine wpAny_bind (lc.at ?_);dsimp only;rw[tc_bind];refine wpAny_bind (wpAny_pure (wpAny_bind (wpAny_pure ?_)));refine wpAny_pure (a:=Fin.again (.call (.builtin "type.__call__") ⟨[.ref 135,v0,v1,v2],[]⟩)) (And.intro rfl ?_);refine codeAny_call_builtin_at (Code.quiet_builtin _ (by decide+kernel)) entry_typeCall (check_slot tc_kind tc_split lt (tc_args _ _ _) ?_);unfold Builtin.«type.__call__»;have lr:Looks (model prog w) hh (mroOf (.ref 135)) [.ref 135,.type "tuple",.type "object"]:=((Looks.ld (part:=none) hC).andThen .now).andThen .now;have Xu:qp K os (A.under (.builtin "type.__call__" ⟨[.ref 135,v0,v1,v2],[]⟩)):=by
   obtain⟨fl,f1,f2⟩:=hfr;exact⟨fl,(gC (t9 _)).trans f1,f2⟩
  refine wpAny_bind (lr.here ?_);dsimp only;refine wpAny_bind (lm.here ?_);dsimp only;refine wpAny_bind (cls_bind X (MX.reads _) (MX.new _) (wpAny_call (sm_get (s:=⟨hh,g,d,t+1,o⟩) X (MX.rec _) (handed_on rfl ?_))));refine wpAny_bind (wpAny_holding (wpAny_call (codeAny_mono (hnew K os _ _ (.ref 82) [.ref 135,v0,v1,v2] hB Xu (pP hroom hl) rfl ⟨rfl,hvs⟩ (R.toks (t:=t+1))) λr s' z=>?_)))
  rcases r with e|(v|_|_|_)<;>first|exact z.elim|skip
  obtain⟨x',az,h1,R',r,e,hr,hq⟩:=z;subst e;cases h1;have X':=R'.eU bf hB;obtain⟨items,n,dd,g1,g2,g3⟩:=R'.cZ hr;have t1:Looks (model prog w) s'.heap (typeOf (.ref r)) (.ref 135):=(Looks.ld g1).andThen .now;have s1:Looks (model prog w) s'.heap (isSubtype (.ref 135) (.ref 135)) true:=looks_mroIn X' (MX.self _);have s2:Looks (model prog w) s'.heap (isSubtype (.ref 135) (.type "object")) true:=looks_mroIn X' (MX.top _);have i1:Looks (model prog w) s'.heap (typeLookup (.ref 135) "__init__") (some (.builtin "object.__init__")):=looks_findIn X' (MX.init _);have m1:Looks (model prog w) s'.heap (Bind.madeBy (.ref 135)) none:=Looks.of_peek X' (MX.made _ _);have t2:Looks (model prog w) s'.heap (isInstance (.ref r) (.type "object")) true:=t1.andThen s2;have b1:Looks (model prog w) s'.heap (bindSpecial (.builtin "object.__init__") (.ref r)) (.builtin "object.__init__",[.ref r]):=Looks.of_pure (oi_bind _);obtain⟨Xv,g',d',t',o'⟩:=s';unfold isInstance callSpecial? specialOf
  repeat (first|with_reducible refine wpAny_call ?_|lk)
  refine codeAny_call_builtin oi_plain entry_oi (@check_slot (model prog w) _ _ _ "object.__init__" "object" "__init__" (.ref r) [v0,v1,v2] [] _ oi_kind oi_split t2 (MX.Dy _ _ _ _) ?_);unfold Builtin.«object.__init__»;refine wpAny_bind (t1.here ?_);refine wpAny_bind (i1.here ?_);dsimp only;refine wpAny_bind (m1.here ?_);exact wpAny_pure (wpAny_pure (wpAny_pure ⟨.ref r,az,rfl,R',hq⟩))
end
end
section
open PySem PySem.W PyProof.Rows PySem.Calls
noncomputable def nK(g:G):Option Value:=match g with
 | .gW=>some (.int (-1) 578)| .iS=>some (.int (-2) 581)
 |g=>match g.val with| .ref a=>some (.ref a)|_=>none
theorem Ff(P:Params)(g:G):nsIn (KF P) mainGlobals g.name=some (nK g):=by
 cases g<;>kernel_rfl!
noncomputable def zO(g:G):Option Value:=match g.val with
 | .builtin b=>some (.builtin b.id)| .type t=>some (.type t.id)|_=>none
theorem Fg(g:G)(h:nK g=none):bootBuiltins g.name=zO g:=by
 cases g<;>first|(cases h;done)|kernel_rfl|decide+kernel
theorem noName(g:G):g.name≠("__name__":Str):=by cases g with|len=>exact(by decide:(G.len ()).name≠("__name__":Str))|_=>decide
theorem MM{prog:Program}{w:World}{h0:Heap}{mb:Str→Option Value}(X:(KF w.params).In h0)(hb:h0.Ns builtinsNs mb)(Xw:∀x:Str,x≠"__name__"→mb x=bootBuiltins x)(lim:h0.NoLimit):BF prog w h0.get?:=by
 refine⟨λg env e1 e2 h hk=>?_,λa o e=>X a o e,λh hk=>lim.keeps hk⟩;have L1:Looks (model prog w) h (nsGet mainGlobals g.name) (nK g):=(looks_nsIn X (Ff w.params g)).keeps hk;cases q:nK g with
 |some v=>
  rw[q]at L1;refine⟨v,?_,λA Q E s k hq=>?_⟩
  ·cases g<;>first|(cases q;done)|(cases q;first|rfl|exact⟨_,rfl⟩)
  ·unfold loadGlobal
   rw[e1];exact wpAny_bind (L1 A _ E s k (wpAny_pure hq))
 |none=>
  rw[q]at L1;have hv:=(Xw g.name (noName g)).trans (Fg g q);have hs:∃v,zO g=some v∧VR v g.val:=by
   cases g<;>first|exact⟨_,rfl,rfl⟩|(cases q;done)
  obtain⟨v,hs,hv'⟩:=hs;refine⟨v,hv',λA Q E s k hq=>?_⟩;unfold loadGlobal;rw[e1,e2];refine wpAny_bind (L1 A _ E s k ?_);refine wpAny_bind (wpAny_nsGet (hb.keeps λb o e=>k b o (hk b o e)) ?_);rw[hv,hs];exact wpAny_pure hq
noncomputable def iH(new:Int)(sp:Nat):Nat→List Int→Nat→List Int×Nat
 |0,xs,pos=>(xs,pos)
 |f+1,xs,pos=>if sp<pos then(if new<xs.getD ((pos-1)/2) 0 then iH new sp f (xs.set pos (xs.getD ((pos-1)/2) 0)) ((pos-1)/2)else(xs,pos))else(xs,pos)
theorem Jv(new sp f xs pos):iH new sp (f+1) xs pos=if sp<pos then(if new<xs.getD ((pos-1)/2) 0 then iH new sp f (xs.set pos (xs.getD ((pos-1)/2) 0)) ((pos-1)/2)else(xs,pos))else(xs,pos):=rfl
noncomputable def Dz(xs:List Int)(sp pos:Nat):List Int:=let r:=iH (xs.getD pos 0) sp (pos+1) xs pos;r.1.set r.2 (xs.getD pos 0)
theorem v5{new:Int}{sp:Nat}:∀(f:Nat) (xs:List Int) (pos:Nat),pos<xs.length→(iH new sp f xs pos).1.length=xs.length∧(iH new sp f xs pos).2<xs.length
 |0,xs,pos,h=>⟨rfl,h⟩
 |f+1,xs,pos,h=>by
  rw[Jv]
  split
  ·split
   ·have:=v5 (new:=new) (sp:=sp) f (xs.set pos (xs.getD ((pos-1)/2) 0)) ((pos-1)/2) (by rw[List.length_set];exact NU h)
    rw[List.length_set]at this;exact this
   ·exact⟨rfl,h⟩
  ·exact⟨rfl,h⟩
theorem pT{xs:List Int}{i:Nat}(h:i<xs.length):(av xs)[i]?=some (.int (xs.getD i 0)):=by
 unfold av;rw[List.getElem?_map,List.getD_eq_getElem?_getD,List.getElem?_eq_getElem h];rfl
theorem DA{xs:List Int}{i:Nat}{v:Int}:(av xs).set i (.int v)=av (xs.set i v):=by unfold av;rw[List.map_set]
theorem aq{xs:List Int}:(av xs).length=xs.length:=by unfold av;rw[List.length_map]
section
variable{prog:Program}{w:World}{B:Addr→Option Obj}{Ω:aa}{l:Nat}{Q:af→aa→Prop}
theorem aX{i:Int}{R:af→St→Prop}{st:St}(h:R (.int i) st):ev prog w B l (.int i) R st:=h
theorem dj{R:af→St→Prop}{st:St}(h:R .none st):ev prog w B l .none R st:=h
theorem zP{b:Bool}{R:af→St→Prop}{st:St}(h:R (.bool b) st):ev prog w B l (.bool b) R st:=h
theorem Fi{g:G}{R:af→St→Prop}{st:St}(h:R g.val st):ev prog w B l (.glob g) R st:=h
theorem bu{b:Bool}{R:Bool→Prop}(h:R b):cW (.bool b) R Ω:= .bool h
theorem kZ{i:Int}{R:Bool→Prop}(h:R (i !=0)):cW (.int i) R Ω:= .int h
theorem jD{p:Addr}{xs:List af}{R:Bool→Prop}(hp:Ω p=some (.list xs))(hl:xs.length<lim)(h:R (!xs.isEmpty)):cW (.ref p) R Ω:=by
 exact .list hp hl h
theorem bK{x y:Int}{R:Bool→Prop}(h:R (decide (x<y))):gm .Lt (.int x) (.int y) R Ω:= .lt h
theorem DB{x y:Int}{R:Bool→Prop}(h:R (decide (x≤y))):gm .LtE (.int x) (.int y) R Ω:= .le h
theorem cmp_gt{x y:Int}{R:Bool→Prop}(h:R (decide (x>y))):gm .Gt (.int x) (.int y) R Ω:= .gt h
theorem DC{x y:Int}{R:Bool→Prop}(h:R (decide (x≥y))):gm .GtE (.int x) (.int y) R Ω:= .ge h
theorem dY{x y:Int}{R:Bool→Prop}(h:R (x==y)):gm .Eq (.int x) (.int y) R Ω:= .eq h
theorem ua{x y:Int}{R:Bool→Prop}(h:R (x !=y)):gm .NotEq (.int x) (.int y) R Ω:= .ne h
theorem aI{x y:Int}{R:af→aa→Prop}(h:R (.int (x+y)) Ω):nU .Add (.int x) (.int y) R Ω:= .add h
theorem cS{x y:Int}{R:af→aa→Prop}(h:R (.int (x-y)) Ω):nU .Sub (.int x) (.int y) R Ω:= .sub h
theorem iX{x y:Int}{R:af→aa→Prop}(h1:x.natAbs<2^31)(h2:y.natAbs<2^31)(h:R (.int (x*y)) Ω):nU .Mult (.int x) (.int y) R Ω:= .mul h1 h2 h
theorem Fj{y:Int}{R:af→aa→Prop}(h1:0≤y)(h2:y≤63)(h:R (.int (2^y.toNat)) Ω):nU .Pow (.int 2) (.int y) R Ω:= .pow h1 h2 h
theorem j6{x y:Int}{R:af→Prop}(h:R (.int (x+y))):Ak .Add (.int x) (.int y) R:= .add h
theorem zQ{x y:Int}{R:af→Prop}(h:R (.int (x-y))):Ak .Sub (.int x) (.int y) R:= .sub h
theorem eY{x y:Int}{R:af→aa→Prop}(h1:0<y)(h2:y<2^30)(h:R (.int (x/y)) Ω):nU .FloorDiv (.int x) (.int y) R Ω:= .div h1 h2 h
theorem eu{x y:Int}{R:af→aa→Prop}(h1:0<y)(h2:y<2^30)(h:R (.int (x%y)) Ω):nU .Mod (.int x) (.int y) R Ω:= .mod h1 h2 h
theorem uc{p q:Addr}{xs ys:List af}{R:af→aa→Prop}(hp:Ω p=some (.list xs))(hq:Ω q=some (.list ys))(h1:xs.length<lim)(h2:ys.length<lim)(h:∀r,Ω r=none→R (.ref r) (Ω.set r (.list (xs++ys)))):nU .Add (.ref p) (.ref q) R Ω:= .cat hp hq h1 h2 h
theorem Fl{x:Int}{R:af→aa→Prop}(h1:0≤x)(h:R (.int (x/2)) Ω):nU .RShift (.int x) (.int 1) R Ω:= .shr h1 h
theorem bN{b:Bool}{p q:Prop}(h:b=true)(hp:p):(if b then p else q):=by rw[h];exact hp
theorem aM{b:Bool}{p q:Prop}(h:b=false)(hq:q):(if b then p else q):=by rw[h];exact hq
theorem idx_int{p:Addr}{xs:List Int}{i:Nat}{R:af→Prop}(hp:Ω p=some (.list (av xs)))(hi:i<xs.length)(hl:xs.length<lim)(h:R (.int (xs.getD i 0))):Al (.ref p) (.int i) R Ω:=by
 exact .list hp (NI) (by unfold lim at hl;exact Vt hi hl) (by rw[Int.toNat_natCast];exact pT hi) h
theorem fy{p:Addr}{xs:List Int}{i:Nat}{v:Int}{R:aa→Prop}(hp:Ω p=some (.list (av xs)))(hi:i<xs.length)(hl:xs.length<lim)(h:R (Ω.set p (.list (av (xs.set i v))))):jO (.ref p) (.int i) (.int v) R Ω:=by
 exact .list hp (NI) (by rw[aq];exact Int.ofNat_lt.mpr hi) (by rw[aq];exact hl) (by rw[Int.toNat_natCast,DA];exact h)
theorem aa.iI{Ω:aa}{a:Addr}{o:bI}(h:Ω a=some o):Ω.set a o=Ω:=by
 funext b;unfold aa.set;by_cases q:b=a
 ·rw[if_pos q,q,h]
 ·rw[if_neg q]
theorem aa.set_set{Ω:aa}{a:Addr}{o o':bI}:(Ω.set a o).set a o'=Ω.set a o':=by
 funext b;unfold aa.set;by_cases q:b=a
 ·rw[if_pos q,if_pos q]
 ·rw[if_neg q,if_neg q,if_neg q]
theorem Fo{p:Addr}{new:Int}{sp:Nat}{QQ:bl→St→Prop}:∀(f:Nat) (xs:List Int) (pos:Nat) (m:eS) (Ω:aa),m .heap=some (.ref p)→m .startpos=some (.int sp)→m .pos=some (.int pos)→m .newitem=some (.int new)→Ω p=some (.list (av xs))→pos<xs.length→xs.length<lim→pos≤f→
  (∀m':eS,m' .heap=some (.ref p)→m' .pos=some (.int (iH new sp (f+1) xs pos).2)→m' .newitem=some (.int new)→QQ .next ⟨m',Ω.set p (.list (av (iH new sp (f+1) xs pos).1))⟩)→
  fT (uJ prog w B l (.cmp .Gt (.var .pos) (.var .startpos))) (exs prog w B l (sv .parentpos (.bin .RShift (minus (.var .pos) (.int 1)) (.int 1))<|
   sv .parent (.idx (.var .heap) (.var .parentpos))<| .ifs (.cmp .Lt (.var .newitem) (.var .parent)) (.asg [.idx (.var .heap) (.var .pos)] (.var .parent)<|sv .pos (.var .parentpos)<| .cont) .nil<| .brk)) (exs prog w B l .nil) QQ (f+1) ⟨m,Ω⟩:=by
 intro f
 induction f with
 |zero=>
  intro xs pos m Ω a1 a2 a3 a4 a5 a6 a7 a8 hq;have hn:¬sp<pos:=UO a8;have e:iH new sp (0+1) xs pos=(xs,pos):=by rw[Jv,if_neg hn]
  rw[e,aa.iI a5]at hq;exact⟨_,a3,_,a2,cmp_gt (aM (by simp;exact Nat.le_trans a8 (Nat.le_add_left _ _)) (hq m a1 a3 a4))⟩
 |succ f ih=>
  intro xs pos m Ω a1 a2 a3 a4 a5 a6 a7 a8 hq;refine⟨_,a3,_,a2,?_⟩
  by_cases hn:sp<pos
  ·refine cmp_gt (bN (by simp;exact hn) ?_)
   have hpar:((pos:Int)-1)/2=((pos-1)/2:Nat):=Wl hn;have hlt:(pos-1)/2<xs.length:=NU a6;refine⟨_,a3,cS (Fl (Wm hn) ?_)⟩;rw[hpar];refine⟨.ref p,a1, .int ((pos-1)/2:Nat),rfl,idx_int a5 hlt a7 ?_⟩;refine⟨.int new,a4,_,rfl,?_⟩
   by_cases hc:new<xs.getD ((pos-1)/2) 0
   ·refine bK (bN (by simpa using hc) ?_)
    refine⟨_,rfl,?_⟩;refine⟨.ref p,a1, .int pos,a3,fy a5 a6 a7 ?_⟩;refine⟨_,rfl,?_⟩;refine ih _ _ _ _ a1 a2 rfl a4 aa.set_same (by rw[List.length_set];exact hlt) (by rw[List.length_set];exact a7) (UP a8) λm' b1 b2 b3=>?_
    have e:iH new sp (f+1+1) xs pos=iH new sp (f+1) (xs.set pos (xs.getD ((pos-1)/2) 0)) ((pos-1)/2):=by rw[Jv,if_pos hn,if_pos hc]
    rw[e]at hq;rw[aa.set_set];exact hq m' b1 b2 b3
   ·refine bK (aM (by simpa using hc) ?_)
    have e:iH new sp (f+1+1) xs pos=(xs,pos):=by rw[Jv,if_pos hn,if_neg hc]
    rw[e,aa.iI a5]at hq;exact hq _ a1 a3 a4
  ·have e:iH new sp (f+1+1) xs pos=(xs,pos):=by rw[Jv,if_neg hn]
   rw[e,aa.iI a5]at hq;refine cmp_gt (aM (by simp;exact O2 hn) ?_);exact hq m a1 a3 a4
theorem qT(bf:BF prog w B){p:Addr}{xs:List Int}{sp ps:Nat}(hp:Ω p=some (.list (av xs)))(h1:sp≤ps)(h2:ps<xs.length)(hl:xs.length<lim)
  (hq:Q .none (Ω.set p (.list (av (Dz xs sp ps))))):aF prog w B l (.ref 387) [.ref p, .int sp, .int ps] Q Ω:=by
 refine qO bf ?_;refine⟨.ref p,rfl, .int ps,rfl,idx_int hp h2 hl ?_⟩;refine⟨ps+1,Fo ps xs ps _ Ω rfl rfl rfl rfl hp h2 hl (Nat.le_refl _) λm' b1 b2 b3=>?_⟩;obtain⟨c1,c2⟩:=v5 (new:=xs.getD ps 0) (sp:=sp) (ps+1) xs ps h2;refine⟨_,b3, .ref p,b1,_,b2,fy aa.set_same (by rw[c1];exact c2) (by rw[c1];exact hl) ?_⟩;rw[aa.set_set];exact hq
end
end
section
structure Rn where
 i:Nat
 j:Nat
 s:Nat
 deriving DecidableEq
def Mt(a b:List Int)(i j s:Nat):Prop:=i+s≤a.length∧j+s≤b.length∧∀k,k<s→a[i+k]?=b[j+k]?
def Run(a b:List Int)(r:Rn):Prop:=0<r.s∧Mt a b r.i r.j r.s
def Ah(r u:Rn):Prop:=r.i+r.s≤u.i∧r.j+r.s≤u.j
instance Ah.dec(r u:Rn):Decidable (Ah r u):=by unfold Ah;exact inferInstance
def mT(p q x y:Nat)(r:Rn):Prop:=p≤r.i∧r.i+r.s≤q∧x≤r.j∧r.j+r.s≤y
def B4(r v:Rn):Prop:=v.s<r.s∨(v.s=r.s∧(r.i<v.i∨(r.i=v.i∧r.j≤v.j)))
theorem Rn.ext'{r v:Rn}(h1:r.i=v.i)(h2:r.j=v.j)(h3:r.s=v.s):r=v:=by
 cases r;cases v;simp only at h1 h2 h3;subst h1 h2 h3;rfl
inductive bz(a b:List Int):Nat→Nat→Nat→Nat→List Rn→Prop where
 |nil {p q x y:Nat} (h:∀r,Run a b r→¬mT p q x y r):bz a b p q x y []
 |node {p q x y:Nat} {r:Rn} {gl gr:List Rn} (h1:Run a b r) (h2:mT p q x y r) (h3:∀v,Run a b v→mT p q x y v→B4 r v)
   (hl:bz a b p r.i x r.j gl) (hr:bz a b (r.i+r.s) q (r.j+r.s) y gr):bz a b p q x y (gl++r::gr)
noncomputable def sm{α:Type}(W:α→Nat):List α→Nat
 |[]=>0
 |x::xs=>W x+sm W xs
theorem lg{α:Type}(W:α→Nat):sm W []=0:=rfl
theorem lq{α:Type}(W:α→Nat)(x xs):sm W (x::xs)=W x+sm W xs:=rfl
theorem cT{α:Type}(W:α→Nat):∀xs ys,sm W (xs++ys)=sm W xs+sm W ys
 |[],ys=>by simp[lg,lq]
 |x::xs,ys=>by rw[List.cons_append];simp only[lg,lq];rw[cT W xs ys];exact QE
theorem nL{α:Type}(W:α→Nat){xs ys:List α}(h:xs.Perm ys):sm W xs=sm W ys:=by
 induction h with
 |nil=>rfl
 |cons x aj ih=>simp only[lg,lq];rw[ih]
 |swap x y l=>simp only[lg,lq];exact Nat.add_left_comm _ _ _
 |trans aj br h1 h2=>rw[h1,h2]
theorem yM{α β:Type}(W:β→Nat)(f:α→β):∀xs,sm W (xs.map f)=sm (λx=>W (f x)) xs
 |[]=>rfl
 |x::xs=>by rw[List.map_cons];simp only[lg,lq];rw[yM W f xs]
theorem f7{α:Type}{W W':α→Nat}:∀{xs:List α},(∀x∈xs,W x=W' x)→sm W xs=sm W' xs
 |[],aj=>rfl
 |x::xs,h=>by simp only[lg,lq];rw[h x (List.mem_cons_self ..),f7 λy hy=>h y (List.mem_cons_of_mem _ hy)]
theorem yN{α:Type}:∀xs:List α,sm (λaj=>1) xs=xs.length
 |[]=>rfl
 |x::xs=>by simp only[lg,lq,List.length_cons];rw[yN xs];exact Nat.add_comm _ _
theorem bz.all{a b:List Int}{p q x y:Nat}{G:List Rn}(h:bz a b p q x y G):∀r∈G,Run a b r∧mT p q x y r:=by
 induction h with
 |nil h=>intro r hr;cases hr
 |node h1 h2 h3 hl hr il ir=>
  intro v hv;unfold mT at*
  rcases List.mem_append.mp hv with hv|hv
  ·have:=il v hv;exact⟨this.1,⟨this.2.1,Ji this.2.2.1 h2.2.1,this.2.2.2.1,Ji this.2.2.2.2 h2.2.2.2⟩⟩
  ·rcases List.mem_cons.mp hv with rfl|hv
   ·exact⟨h1,h2⟩
   ·have:=ir v hv;exact⟨this.1,⟨NX this.2.1 h2.1,this.2.2.1,NX this.2.2.2.1 h2.2.2.1,this.2.2.2.2⟩⟩
theorem bz.chain{a b:List Int}{p q x y:Nat}{G:List Rn}(h:bz a b p q x y G):G.Pairwise Ah:=by
 induction h with
 |nil h=>exact List.Pairwise.nil
 |node h1 h2 h3 hl hr il ir=>
  have al:=hl.all;have ar:=hr.all;rw[List.pairwise_append,List.pairwise_cons];unfold mT Run at*;refine⟨il,⟨λv hv=>?_,ir⟩,λv hv u hu=>?_⟩
  ·have:=ar v hv;unfold Ah;exact⟨this.2.1,this.2.2.2.1⟩
  ·have:=al v hv
   unfold Ah
   rcases List.mem_cons.mp hu with rfl|hu
   ·exact⟨this.2.2.1,this.2.2.2.2⟩
   ·have:=ar u hu;omega
theorem mU{C:List Rn}(h:C.Pairwise Ah)(hs:∀v∈C,0<v.s):C.Nodup:=by
 induction C with
 |nil=>exact List.nodup_nil
 |cons c C ih=>
  rw[List.pairwise_cons]at h;rw[List.nodup_cons];refine⟨λhc=>?_,ih h.2 λv hv=>hs v (List.mem_cons_of_mem _ hv)⟩;have:=h.1 c hc;have:=hs c (List.mem_cons_self ..);unfold Ah at*;exact TU (by assumption) this
theorem bz.upper{a b:List Int}{W:Rn→Nat}(hW:∀u,Run a b u→∀S:List Rn,S.Nodup→(∀v∈S,Run a b v∧v≠u∧B4 u v)→sm W S<W u)
  {p q x y:Nat} {G:List Rn} (h:bz a b p q x y G):∀C:List Rn,C.Pairwise Ah→(∀v∈C,Run a b v∧mT p q x y v)→sm W C≤sm W G:=by
 induction h with
 |nil h=>
  intro C hC hv;cases C with
  |nil=>exact Nat.le_refl _
  |cons c C=>exact absurd (hv c (List.mem_cons_self ..)).2 (h c (hv c (List.mem_cons_self ..)).1)
 |@node p q x y r gl gr h1 h2 h3 hl hr il ir=>
  intro C hC hv;rw[cT];simp only[lg,lq]
  by_cases hm:r∈C
  ·obtain⟨C1,C2,rfl⟩:=List.append_of_mem hm
   rw[List.pairwise_append,List.pairwise_cons]at hC;obtain⟨c1,⟨c2,c3⟩,c4⟩:=hC;have e1:=il C1 c1 λv hv1=>by
    have:=hv v (List.mem_append_left _ hv1);have h5:=c4 v hv1 r (List.mem_cons_self ..);unfold mT Ah at*;exact⟨this.1,⟨this.2.1,h5.1,this.2.2.2.1,h5.2⟩⟩
   have e2:=ir C2 c3 λv hv1=>by
    have:=hv v (List.mem_append_right _ (List.mem_cons_of_mem _ hv1));have h5:=c2 v hv1;unfold mT Ah at*;exact⟨this.1,⟨h5.1,this.2.2.1,h5.2,this.2.2.2.2⟩⟩
   rw[cT];simp only[lg,lq];exact TV e1 e2
  ·have:=hW r h1 C (mU hC λv hv1=>(hv v hv1).1.1) λv hv1=>⟨(hv v hv1).1,λe=>hm (e▸hv1),h3 v (hv v hv1).1 (hv v hv1).2⟩
   exact TZ this
theorem Mt.join{a b:List Int}{i j s t:Nat}(h1:Mt a b i j s)(h2:Mt a b (i+s) (j+s) t):Mt a b i j (s+t):=by
 obtain⟨a1,a2,a3⟩:=h1;obtain⟨b1,b2,b3⟩:=h2;refine⟨KA b1,KA b2,λk hk=>?_⟩
 by_cases q:k<s
 ·exact a3 k q
 ·have:=b3 (k-s) (T3 hk q)
  have e1:i+s+(k-s)=i+k:=KC q;have e2:j+s+(k-s)=j+k:=KC q
  rwa [e1,e2]at this
theorem bz.apart{a b:List Int}{p q x y:Nat}{G:List Rn}(h:bz a b p q x y G):∀u∈G,∀v∈G,¬(u.i+u.s=v.i∧u.j+u.s=v.j):=by
 induction h with
 |nil h=>intro u hu;cases hu
 |@node p q x y r gl gr h1 h2 h3 hl hr il ir=>
  have al:=hl.all;have ar:=hr.all;have key:∀u v:Rn,Run a b u→Run a b v→mT p q x y u→mT p q x y v→(u=r∨v=r)→¬(u.i+u.s=v.i∧u.j+u.s=v.j):=by
   intro u v hu hv wu wv hr' ⟨e1,e2⟩;have m:Mt a b u.i u.j (u.s+v.s):=hu.2.join (by rw[e1,e2];exact hv.2);have hu1:=hu.1;have hv1:=hv.1;have:=h3 ⟨u.i,u.j,u.s+v.s⟩ ⟨by show 0<u.s+v.s;exact Nat.lt_add_right _ hu1,m⟩ (by unfold mT at*;simp only;exact⟨wu.1,KD e1 wv.2.1,wu.2.2.1,KD e2 wv.2.2.2⟩);unfold B4 at this;simp only at this
   rcases hr' with rfl|rfl<;>omega
  intro u hu v hv
  rcases List.mem_append.mp hu with hu|hu<;>rcases List.mem_append.mp hv with hv|hv
  ·exact il u hu v hv
  ·have a1:=al u hu
   rcases List.mem_cons.mp hv with rfl|hv
   ·exact key u v a1.1 h1 (by unfold mT at*;exact⟨a1.2.1,Ji a1.2.2.1 h2.2.1,a1.2.2.2.1,Ji a1.2.2.2.2 h2.2.2.2⟩) h2 (.inr rfl)
   ·have a2:=ar v hv;have:=h1.1;unfold mT at*;exact T6 a1.2.2.1 a2.2.1 this
  ·have a1:=al v hv
   rcases List.mem_cons.mp hu with rfl|hu
   ·have:=h1.1;have:=a1.1.1;unfold mT at*;exact T8 a1.2.2.1 (by assumption)
   ·have a2:=ar u hu;have:=h1.1;have:=a1.1.1;unfold mT at*;exact T9 a1.2.2.1 a2.2.1 (by assumption)
  ·rcases List.mem_cons.mp hu with mz|mz<;>rcases List.mem_cons.mp hv with hv'|hv'
   ·have:=h1.1;subst mz;subst hv';exact Ua this
   ·have a2:=ar v hv';subst mz;exact key u v h1 a2.1 h2 (by unfold mT at*;exact⟨NX a2.2.1 h2.1,a2.2.2.1,NX a2.2.2.2.1 h2.2.2.1,a2.2.2.2.2⟩) (.inl rfl)
   ·have a2:=ar u mz;subst hv';have:=h1.1;have:=a2.1.1;unfold mT at*;exact Ub a2.2.1 (by assumption)
   ·exact ir u mz v hv'
noncomputable def wt:List Int→Int→Nat
 |[],aj=>0
 |k::ks,t=>if t=k then 2^ks.length else wt ks t
theorem yO(t):wt [] t=0:=rfl
theorem yP(k ks t):wt (k::ks) t=if t=k then 2^ks.length else wt ks t:=rfl
theorem pU:∀(ks S:List Int),S.Nodup→(∀t∈S,t∈ks)→sm (wt ks) S<2^ks.length
 |[],S,aj,h=>by
  cases S with
  |nil=>simp[lg,lq]
  |cons c S=>exact absurd (h c (List.mem_cons_self ..)) (by simp)
 |k::ks,S,hn,h=>by
  have e:2^(k::ks).length=2^ks.length+2^ks.length:=by rw[List.length_cons,Nat.pow_succ];exact Nat.mul_two _
  rw[e]
  by_cases hk:k∈S
  ·rw[nL _ (List.perm_cons_erase hk)]
   simp only[lg,lq];have hn':=hn.erase k;have hm:∀t∈S.erase k,t≠k∧t∈ks:=λt ht=>by
    have h1:=(List.Nodup.mem_erase_iff hn).mp ht;exact⟨h1.1,by have:=h t h1.2;rcases List.mem_cons.mp this with h2|h2;exact absurd h2 h1.1;exact h2⟩
   have:=pU ks (S.erase k) hn' λt ht=>(hm t ht).2
   rw[f7 (W:=wt (k::ks)) (W':=wt ks) λt ht=>by simp[yO,yP,(hm t ht).1]];simp only[yO,yP,if_true];exact Nat.add_lt_add_left this _
  ·have hm:∀t∈S,t≠k∧t∈ks:=λt ht=>by
    have h1:t≠k:=λq=>hk (q▸ht)
    exact⟨h1,by have:=h t ht;rcases List.mem_cons.mp this with h2|h2;exact absurd h2 h1;exact h2⟩
   have:=pU ks S hn λt ht=>(hm t ht).2
   rw[f7 (W:=wt (k::ks)) (W':=wt ks) λt ht=>by simp[yO,yP,(hm t ht).1]];exact Nat.lt_add_right _ this
theorem DE:∀(ks:List Int),ks.Pairwise (·<·)→∀u∈ks,∀S:List Int,S.Nodup→(∀t∈S,t∈ks∧u<t)→sm (wt ks) S<wt ks u
 |[],aj,u,hu,br,dg,gM=>by cases hu
 |k::ks,hp,u,hu,S,hn,h=>by
  rw[List.pairwise_cons]at hp;have hku:k≤u:=by
   rcases List.mem_cons.mp hu with q|q
   ·exact VD q
   ·have:=hp.1 u q;exact Ys this
  have hm:∀t∈S,t≠k∧t∈ks:=λt ht=>by
   have h1:=h t ht;have h2:t≠k:=VE hku h1.2;exact⟨h2,by rcases List.mem_cons.mp h1.1 with h3|h3;exact absurd h3 h2;exact h3⟩
  rw[f7 (W:=wt (k::ks)) (W':=wt ks) λt ht=>by simp[yO,yP,(hm t ht).1]]
  by_cases q:u=k
  ·simp only[yO,yP,if_pos q]
   exact pU ks S hn λt ht=>(hm t ht).2
  ·simp only[yO,yP,if_neg q]
   exact DE ks hp.2 u (by rcases List.mem_cons.mp hu with h3|h3;exact absurd h3 q;exact h3) S hn λt ht=>⟨(hm t ht).2,(h t ht).2⟩
theorem nM:∀(ks S:List Int),ks.Nodup→S.Nodup→(∀t∈S,t∈ks)→∀t∈ks,(sm (wt ks) S/wt ks t%2=1↔t∈S)
 |[],aj,br,dg,gM,t,ht=>by cases ht
 |k::ks,S,hk,hn,h,t,ht=>by
  rw[List.nodup_cons]at hk;have hp:0<2^ks.length:=Nat.pos_of_ne_zero (by simp);have split:∀S':List Int,S'.Nodup→(∀t∈S',t∈ks)→sm (wt (k::ks)) S'=sm (wt ks) S':=λS' aj hm=>f7 λt ht=>by
   have:t≠k:=λq=>hk.1 (q▸hm t ht)
   simp[yO,yP,this]
  by_cases Og:k∈S
  ·have hn':=hn.erase k
   have hm:∀t∈S.erase k,t≠k∧t∈ks:=λt ht=>by
    have h1:=(List.Nodup.mem_erase_iff hn).mp ht;exact⟨h1.1,by have:=h t h1.2;rcases List.mem_cons.mp this with h2|h2;exact absurd h2 h1.1;exact h2⟩
   have hlt:=pU ks (S.erase k) hn' λt ht=>(hm t ht).2
   rw[nL _ (List.perm_cons_erase Og)];simp only[lg,lq];rw[split _ hn' λt ht=>(hm t ht).2]
   rcases List.mem_cons.mp ht with rfl|ht'
   ·simp only[yO,yP,if_true]
    rw[Nat.add_div_left _ hp,Nat.div_eq_of_lt hlt];simp[Og]
   ·have q:t≠k:=λq=>hk.1 (q▸ht')
    have ih:=nM ks (S.erase k) hk.2 hn' (λt ht=>(hm t ht).2) t ht';simp only[yO,yP,if_neg q,if_true];rw[List.Nodup.mem_erase_iff hn]at ih;rw[show (t∈S↔(t≠k∧t∈S))from⟨λz=>⟨q,z⟩,λz=>z.2⟩,←ih];obtain⟨e,he,hpe⟩:∃e,wt ks t=2^e∧e<ks.length:=yQ ks t ht'
    rw[he];have e2:2^ks.length=2^e*(2*2^(ks.length-e-1)):=by
     rw[←Nat.mul_assoc,←Nat.pow_succ,←Nat.pow_add];congr 1;exact P5 hpe
    rw[e2,Nat.mul_add_div (Nat.pos_of_ne_zero (by simp)),Nat.mul_add_mod]
  ·have hm:∀t∈S,t∈ks:=λt ht=>by
    have h1:t≠k:=λq=>Og (q▸ht)
    have:=h t ht;rcases List.mem_cons.mp this with h2|h2;exact absurd h2 h1;exact h2
   have hlt:=pU ks S hn hm;rw[split _ hn hm]
   rcases List.mem_cons.mp ht with rfl|ht'
   ·simp only[yO,yP,if_true]
    rw[Nat.div_eq_of_lt hlt];simp[Og]
   ·have q:t≠k:=λq=>hk.1 (q▸ht')
    simp only[yO,yP,if_neg q];exact nM ks S hk.2 hn hm t ht'
where yQ:∀(ks:List Int) (t:Int),t∈ks→∃e,wt ks t=2^e∧e<ks.length
 |[],aj,h=>by cases h
 |k::ks,t,h=>by
  by_cases q:t=k
  ·exact⟨ks.length,by simp[yO,yP,q],by simp⟩
  ·rcases List.mem_cons.mp h with h|h
   ·exact absurd h q
   ·obtain⟨e,h1,h2⟩:=yQ ks t h
    exact⟨e,by simp only[yO,yP,if_neg q];exact h1,by rw[List.length_cons];exact HB h2⟩
noncomputable def kE:List Nat→Nat
 |[]=>0
 |x::xs=>max x (kE xs)
theorem YV(x xs):kE (x::xs)=max x (kE xs):=rfl
theorem pV:∀{xs:List Nat} {x},x∈xs→x≤kE xs
 |y::ys,x,h=>by
  simp only[YV]
  rcases List.mem_cons.mp h with rfl|h
  ·exact Nat.le_max_left _ _
  ·have:=pV h;exact Ke this
theorem j7:∀(xs:List Nat),kE xs=0∨kE xs∈xs
 |[]=> .inl rfl
 |x::xs=>by
  simp only[YV]
  rcases j7 xs with h|h
  ·rw[h]
   by_cases q:x=0
   ·left;exact Ru q
   ·right;rw[Nat.max_eq_left (HC)];exact List.mem_cons_self ..
  ·by_cases q:kE xs≤x
   ·right;rw[Nat.max_eq_left q];exact List.mem_cons_self ..
   ·right;rw[Nat.max_eq_right (Nat.le_of_lt (Nat.lt_of_not_le q))];exact List.mem_cons_of_mem _ h
theorem v7{xs:List Nat}{M:Nat}(h1:M∈0::xs)(h2:∀x∈xs,x≤M):M=kE xs:=by
 have a:kE xs≤M:=by rcases j7 xs with h|h;exact Kf h;exact h2 _ h
 have b:M≤kE xs:=by
  rcases List.mem_cons.mp h1 with h|h
  ·exact Kf h
  ·exact pV h
 exact Nat.le_antisymm b a
noncomputable def GU(rs:List Rn)(W:Rn→Nat):Nat→Rn→Nat
 |0,aj=>0
 |n+1,u=>W u+kE ((rs.filter λt=>decide (Ah t u)).map (GU rs W n))
theorem IQ(rs W n u):GU rs W (n+1) u=W u+kE ((rs.filter λt=>decide (Ah t u)).map (GU rs W n)):=rfl
theorem j8{rs:List Rn}{W:Rn→Nat}(hs:∀r∈rs,0<r.s):∀(n m:Nat) (u:Rn),u.i<n→u.i<m→GU rs W n u=GU rs W m u
 |0,aj,br,h,dg=>Kg h
 |aj,0,br,dg,h=>Kg h
 |n+1,m+1,u,h1,h2=>by
  simp only[IQ]
  congr 2
  refine List.map_congr_left λt ht=>?_
  have h3:=List.mem_filter.mp ht;have h4:Ah t u:=of_decide_eq_true h3.2;have h5:=hs t h3.1;unfold Ah at h4;exact j8 hs n m t (QC h4.1 h5 h1) (QC h4.1 h5 h2)
noncomputable def best(rs:List Rn)(W:Rn→Nat)(u:Rn):Nat:=GU rs W (u.i+1) u
theorem gD{rs:List Rn}{W:Rn→Nat}(hs:∀r∈rs,0<r.s)(u:Rn):best rs W u=W u+kE ((rs.filter λt=>decide (Ah t u)).map (best rs W)):=by
 unfold best;rw[IQ]
 congr 2
 refine List.map_congr_left λt ht=>?_
 have h3:=List.mem_filter.mp ht;have h4:Ah t u:=of_decide_eq_true h3.2;have h5:=hs t h3.1;unfold Ah at h4;exact j8 hs _ _ t (Rv h4.1 h5) (F1)
theorem zR{rs:List Rn}{W:Rn→Nat}(hs:∀r∈rs,0<r.s):∀(c:List Rn) (u:Rn),(u::c).Pairwise (λx y=>Ah y x)→(∀v∈u::c,v∈rs)→sm W (u::c)≤best rs W u
 |[],u,aj,br=>by rw[gD hs];simp only[lg,lq];exact Pg
 |t::c,u,hp,hm=>by
  rw[List.pairwise_cons]at hp;have ih:=zR (W:=W) hs c t hp.2 λv hv=>hm v (List.mem_cons_of_mem _ hv)
  rw[gD hs];have:best rs W t≤kE ((rs.filter λt=>decide (Ah t u)).map (best rs W)):=
   pV (List.mem_map_of_mem (List.mem_filter.mpr ⟨hm t (by simp),decide_eq_true (hp.1 t (List.mem_cons_self ..))⟩))
  simp only[lg,lq]at ih ⊢;exact Rw ih this
theorem Ah.trans{x y z:Rn}(h1:Ah x y)(h2:Ah y z):Ah x z:=by unfold Ah at*;exact⟨Ji h1.1 h2.1,Ji h1.2 h2.2⟩
theorem zS{rs:List Rn}{W:Rn→Nat}(hs:∀r∈rs,0<r.s):∀(n:Nat) (u:Rn),u.i<n→u∈rs→∃c:List Rn,(u::c).Pairwise (λx y=>Ah y x)∧(∀v∈u::c,v∈rs)∧sm W (u::c)=best rs W u
 |0,aj,h,br=>(NO h).elim
 |n+1,u,hn,hu=>by
  rw[gD hs]
  rcases j7 ((rs.filter λt=>decide (Ah t u)).map (best rs W))with h|h
  ·exact⟨[],by simp,by simpa using hu,by rw[h];simp[lg,lq]⟩
  ·obtain⟨t,h1,h2⟩:=List.mem_map.mp h
   have h3:=List.mem_filter.mp h1;have h4:Ah t u:=of_decide_eq_true h3.2;have h5:=hs t h3.1;obtain⟨c,c1,c2,c3⟩:=zS (W:=W) hs n t (by unfold Ah at h4;exact QC h4.1 h5 hn) h3.1;refine⟨t::c,?_,?_,?_⟩
   ·rw[List.pairwise_cons]
    refine⟨λv hv=>?_,c1⟩
    rcases List.mem_cons.mp hv with rfl|hv
    ·exact h4
    ·rw[List.pairwise_cons]at c1
     exact(c1.1 v hv).trans h4
   ·intro v hv
    rcases List.mem_cons.mp hv with rfl|hv
    ·exact hu
    ·exact c2 v hv
   ·rw[←h2,←c3];simp only[lg,lq]
noncomputable def top(rs:List Rn)(W:Rn→Nat):Nat:=kE (rs.map (best rs W))
theorem DF{rs:List Rn}{W:Rn→Nat}(hs:∀r∈rs,0<r.s){C:List Rn}(hC:C.Pairwise Ah)(hm:∀v∈C,v∈rs):sm W C≤top rs W:=by
 have e:sm W C=sm W C.reverse:=nL W (List.reverse_perm C).symm;rw[e];have hp:C.reverse.Pairwise (λx y=>Ah y x):=List.pairwise_reverse.mpr hC;have hm':∀v∈C.reverse,v∈rs:=λv hv=>hm v (List.mem_reverse.mp hv)
 cases q:C.reverse with
 |nil=>exact Nat.zero_le _
 |cons u c=>
  rw[q]at hp hm';have:=zR (W:=W) hs c u hp hm';have:=pV (List.mem_map_of_mem (f:=best rs W) (hm' u (List.mem_cons_self ..)));unfold top;exact JH (by assumption) this
theorem DG{rs:List Rn}{W:Rn→Nat}(hs:∀r∈rs,0<r.s):∃C:List Rn,C.Pairwise Ah∧(∀v∈C,v∈rs)∧sm W C=top rs W:=by
 rcases j7 (rs.map (best rs W))with h|h
 ·exact⟨[],List.Pairwise.nil,by simp,by unfold top;rw[h];rfl⟩
 ·obtain⟨u,h1,h2⟩:=List.mem_map.mp h
  obtain⟨c,c1,c2,c3⟩:=zS (W:=W) hs (u.i+1) u (F1) h1;refine⟨(u::c).reverse,List.pairwise_reverse.mpr c1,λv hv=>c2 v (List.mem_reverse.mp hv),?_⟩;rw[nL W (List.reverse_perm _),c3];unfold top;exact h2
noncomputable def DH(a b:List Int)(k:Nat)(p:Nat→Nat):Nat→Nat
 |0=>0
 |j+1=>if a[k]?=b[j]? then p j+1 else max (p (j+1)) (DH a b k p j)
noncomputable def lcs(a b:List Int):Nat→Nat→Nat
 |0=>λaj=>0
 |k+1=>DH a b k (lcs a b k)
theorem j9{a b:List Int}{k j:Nat}:lcs a b (k+1) (j+1)=if a[k]?=b[j]? then lcs a b k j+1 else max (lcs a b k (j+1)) (lcs a b (k+1) j):=rfl
theorem DI(a b:List Int):∀k,lcs a b k 0=0
 |0=>rfl
 |aj+1=>rfl
theorem ud(a b:List Int):∀(k j:Nat) (C:List Rn),C.Pairwise (λx y=>Ah y x)→(∀v∈C,Run a b v∧v.i+v.s≤k∧v.j+v.s≤j)→C.length≤lcs a b k j
 |0,j,C,hp,h=>by
  cases C with
  |nil=>exact Nat.zero_le _
  |cons c C=>have:=h c (List.mem_cons_self ..);have:=this.1.1;omega
 |k+1,0,C,hp,h=>by
  cases C with
  |nil=>exact Nat.zero_le _
  |cons c C=>have:=h c (List.mem_cons_self ..);have:=this.1.1;omega
 |k+1,j+1,C,hp,h=>by
  cases C with
  |nil=>exact Nat.zero_le _
  |cons c C=>
   have hc:=h c (List.mem_cons_self ..);have hc1:=hc.1.1;have YW:=List.pairwise_cons.mp hp;have tail:∀v∈C,Run a b v∧v.i+v.s≤k∧v.j+v.s≤j:=λv hv=>by
    have:=YW.1 v hv;unfold Ah at this;exact⟨(h v (List.mem_cons_of_mem _ hv)).1,Kh this.1 hc.2.1 hc1,Kh this.2 hc.2.2 hc1⟩
   rw[j9]
   split
   ·have:=ud a b k j C YW.2 tail
    rw[List.length_cons];exact OI this
   ·rename_i hne
    by_cases q1:c.i+c.s≤k
    ·have:=ud a b k (j+1) (c::C) hp λv hv=>by
      rcases List.mem_cons.mp hv with rfl|hv
      ·exact⟨hc.1,q1,hc.2.2⟩
      ·have:=tail v hv;exact⟨this.1,this.2.1,F2 this.2.2⟩
     exact Rx this
    ·by_cases q2:c.j+c.s≤j
     ·have:=ud a b (k+1) j (c::C) hp λv hv=>by
       rcases List.mem_cons.mp hv with rfl|hv
       ·exact⟨hc.1,hc.2.1,q2⟩
       ·have:=tail v hv;exact⟨this.1,F2 this.2.1,this.2.2⟩
      exact Ke this
     ·exfalso
      apply hne
      have:=hc.1.2.2.2 (c.s-1) (OR hc1);have e1:c.i+(c.s-1)=k:=Kl hc.2.1 hc1 q1;have e2:c.j+(c.s-1)=j:=Kl hc.2.2 hc1 q2
      rwa [e1,e2]at this
termination_by k j=>k+j
theorem ue(a b:List Int):∀(k j:Nat),k≤a.length→j≤b.length→∃C:List Rn,C.Pairwise (λx y=>Ah y x)∧(∀v∈C,Run a b v∧v.i+v.s≤k∧v.j+v.s≤j)∧C.length=lcs a b k j
 |0,j,aj,br=>⟨[],by simp,by simp,rfl⟩
 |k+1,0,aj,br=>⟨[],by simp,by simp,rfl⟩
 |k+1,j+1,hk,hj=>by
  rw[j9]
  split
  ·rename_i he
   obtain⟨C,c1,c2,c3⟩:=ue a b k j (O3 hk) (O3 hj);refine⟨⟨k,j,1⟩::C,?_,?_,?_⟩
   ·rw[List.pairwise_cons]
    refine⟨λv hv=>?_,c1⟩;have:=c2 v hv;exact⟨this.2.1,this.2.2⟩
   ·intro v hv
    rcases List.mem_cons.mp hv with rfl|hv
    ·refine⟨⟨Nat.one_pos,by simpa using hk,by simpa using hj,λq hq=>?_⟩,by simp,by simp⟩
     have:q=0:=by simp only at hq;exact JP hq
     subst this
     simpa using he
    ·have:=c2 v hv
     exact⟨this.1,F2 this.2.1,F2 this.2.2⟩
   ·rw[List.length_cons,c3]
  ·by_cases q:lcs a b k (j+1)≤lcs a b (k+1) j
   ·obtain⟨C,c1,c2,c3⟩:=ue a b (k+1) j hk (O3 hj)
    exact⟨C,c1,λv hv=>by have:=c2 v hv;exact⟨this.1,this.2.1,F2 this.2.2⟩,Ry c3 q⟩
   ·obtain⟨C,c1,c2,c3⟩:=ue a b k (j+1) (O3 hk) hj
    exact⟨C,c1,λv hv=>by have:=c2 v hv;exact⟨this.1,F2 this.2.1,this.2.2⟩,Rz c3 q⟩
termination_by k j=>k+j
theorem Fp{a b:List Int}{rs:List Rn}(hrs:∀r,r∈rs↔Run a b r):top rs (λaj=>1)=lcs a b a.length b.length:=by
 have hs:∀r∈rs,0<r.s:=λr hr=>((hrs r).mp hr).1
 apply Nat.le_antisymm
 ·obtain⟨C,c1,c2,c3⟩:=DG (W:=λaj=>1) hs
  rw[←c3,yN];have:=ud a b a.length b.length C.reverse (List.pairwise_reverse.mpr c1) λv hv=>by
   have:=(hrs v).mp (c2 v (List.mem_reverse.mp hv));exact⟨this,this.2.1,this.2.2.1⟩
  rwa [List.length_reverse]at this
 ·obtain⟨C,c1,c2,c3⟩:=ue a b a.length b.length (Nat.le_refl _) (Nat.le_refl _)
  have:=DF (W:=λaj=>1) hs (C:=C.reverse) (List.pairwise_reverse.mpr c1) λv hv=>(hrs v).mpr (c2 v (List.mem_reverse.mp hv)).1
  rw[yN,List.length_reverse]at this;exact Nat.le_trans (Nat.le_of_eq (Eq.symm c3)) this
theorem yR{a b:List Int}{rs:List Rn}(hrs:∀r,r∈rs↔Run a b r){W:Rn→Nat}(hW:∀u,Run a b u→∀S:List Rn,S.Nodup→(∀v∈S,Run a b v∧v≠u∧B4 u v)→sm W S<W u)
  {G:List Rn} (h:bz a b 0 a.length 0 b.length G):top rs W=sm W G:=by
 have hs:∀r∈rs,0<r.s:=λr hr=>((hrs r).mp hr).1
 apply Nat.le_antisymm
 ·obtain⟨C,c1,c2,c3⟩:=DG (W:=W) hs
  rw[←c3];exact h.upper hW C c1 λv hv=>by
   have:=(hrs v).mp (c2 v hv);exact⟨this,Nat.zero_le _,this.2.1,Nat.zero_le _,this.2.2.1⟩
 ·exact DF hs h.chain λv hv=>(hrs v).mpr (h.all v hv).1
end
section
open PySem PySem.W PyProof.Rows
noncomputable def enc(r:Rn):Int:=(16-(r.s:Int))*256+r.i*16+r.j
noncomputable def nC(t:Int):Int×Int×Int:=(t/16%16,t%16,16-t/256)
noncomputable def gS(r:Rn):Int×Int×Int:=((r.i:Int),(r.j:Int),(r.s:Int))
def mV(r:Rn):Prop:=r.i<16∧r.j<16∧r.s<16
theorem dec_enc{r:Rn}(h:mV r):nC (enc r)=gS r:=by
 obtain⟨h1,h2,h3⟩:=h;unfold nC enc gS;refine Prod.ext ?_ (Prod.ext ?_ ?_)<;>simp only<;>omega
theorem Fq{r v:Rn}(h:gS r=gS v):r=v:=by
 unfold gS at h;simp only[Prod.mk.injEq]at h;exact Rn.ext' (Pa h.1) (Pa h.2.1) (Pa h.2.2)
theorem kc{r v:Rn}(h1:mV r)(h2:mV v)(h:enc r=enc v):r=v:=Fq (by rw[←dec_enc h1,←dec_enc h2,h])
theorem Run.qU{a b:List Int}{r:Rn}(ha:a.length≤7)(hb:b.length≤7)(h:Run a b r):mV r:=by
 obtain⟨h1,h2,h3,_⟩:=h;exact⟨KY h2 ha,KY h3 hb,U9 h2 ha⟩
theorem IS{r v:Rn}(h1:mV r)(h2:mV v)(h:B4 r v)(hne:v≠r):enc r<enc v:=by
 obtain⟨a1,a2,a3⟩:=h1;obtain⟨b1,b2,b3⟩:=h2;have:¬(r.i=v.i∧r.j=v.j∧r.s=v.s):=λ⟨e1,e2,e3⟩=>hne (Rn.ext' e1 e2 e3).symm
 unfold B4 at h;unfold enc;exact Qq a1 a2 this h
theorem eo{α β:Type}{f:α→β}:∀{l:List α},(∀x∈l,∀y∈l,f x=f y→x=y)→l.Nodup→(l.map f).Nodup
 |[],aj,br=>by simp
 |x::l,hi,h=>by
  rw[List.nodup_cons]at h;rw[List.map_cons,List.nodup_cons];refine⟨λq=>?_,eo (λy hy z hz=>hi y (List.mem_cons_of_mem _ hy) z (List.mem_cons_of_mem _ hz)) h.2⟩;obtain⟨y,hy,e⟩:=List.mem_map.mp q;have:=hi y (List.mem_cons_of_mem _ hy) x (List.mem_cons_self ..) e;exact h.1 (this▸hy)
theorem MO{a b:List Int}(ha:a.length≤7)(hb:b.length≤7){ks:List Int}(hks:ks.Pairwise (·<·))(hm:∀r,Run a b r→enc r∈ks):
  ∀u,Run a b u→∀S:List Rn,S.Nodup→(∀v∈S,Run a b v∧v≠u∧B4 u v)→sm (λr=>wt ks (enc r)) S<wt ks (enc u):=by
 intro u hu S hS h;rw[←yM (wt ks) enc];refine DE ks hks (enc u) (hm u hu) _ (eo (λx hx y hy=>kc ((h x hx).1.qU ha hb) ((h y hy).1.qU ha hb)) hS) λt ht=>?_
 obtain⟨v,hv,rfl⟩:=List.mem_map.mp ht;obtain⟨h1,h2,h3⟩:=h v hv;exact⟨hm v h1,IS (hu.qU ha hb) (h1.qU ha hb) h3 h2⟩
theorem r6{ks:List Int}(h:ks.Pairwise (·<·)):ks.Nodup:=h.imp λh=>Int.ne_of_lt h
theorem pW{a b:List Int}(ha:a.length≤7)(hb:b.length≤7){rs:List Rn}(hrs:∀r,r∈rs↔Run a b r){ks:List Int}(hks:ks.Pairwise (·<·))(hp:ks.Perm (rs.map enc)){G:List Rn}(hG:bz a b 0 a.length 0 b.length G):
  ((ks.filter λt=>decide (top rs (λr=>wt ks (enc r))/wt ks t%2=1)).map nC).Perm (G.map gS):=by
 have hm:∀r,Run a b r→enc r∈ks:=λr hr=>hp.mem_iff.mpr (List.mem_map_of_mem ((hrs r).mpr hr))
 rw[yR hrs (MO ha hb hks hm) hG,←yM (wt ks) enc];have hsm:∀r∈G,mV r:=λr hr=>(hG.all r hr).1.qU ha hb
 have YX:(G.map enc).Nodup:=eo (λx hx y hy=>kc (hsm x hx) (hsm y hy)) (mU hG.chain λv hv=>(hG.all v hv).1.1);have Xx:∀t∈G.map enc,t∈ks:=λt ht=>by
  obtain⟨v,hv,rfl⟩:=List.mem_map.mp ht;exact hm v (hG.all v hv).1
 have GV:=nM ks (G.map enc) (r6 hks) YX Xx;have p1:(ks.filter λt=>decide (sm (wt ks) (G.map enc)/wt ks t%2=1)).Perm (G.map enc):=by
  refine(List.perm_ext_iff_of_nodup ((r6 hks).filter _) YX).mpr λt=>?_
  rw[List.mem_filter,decide_eq_true_iff];exact⟨λ⟨h1,h2⟩=>(GV t h1).mp h2,λh=>⟨Xx t h,(GV t (Xx t h)).mpr h⟩⟩
 have p2:=p1.map nC;rw[List.map_map]at p2;refine p2.trans (List.Perm.of_eq ?_);exact List.map_congr_left λr hr=>dec_enc (hsm r hr)
noncomputable def Rn.sw(r:Rn):Rn:=⟨r.j,r.i,r.s⟩
theorem Run.sw{a b:List Int}{r:Rn}(h:Run a b r):Run b a r.sw:=by
 obtain⟨h1,h2,h3,h4⟩:=h;exact⟨h1,h3,h2,λk hk=>(h4 k hk).symm⟩
theorem IT{a b:List Int}{rs:List Rn}(hrs:∀r,r∈rs↔Run a b r):∀r,r∈rs.map Rn.sw↔Run b a r:=λr=>by
 rw[List.mem_map]
 constructor
 ·intro aH;obtain⟨v,hv,rfl⟩:=aH;exact((hrs v).mp hv).sw
 ·exact λh=>⟨r.sw,(hrs _).mpr h.sw,rfl⟩
theorem Ah.sw{r u:Rn}:Ah r.sw u.sw↔Ah r u:=by unfold Ah Rn.sw;exact And.comm
theorem DJ(rs:List Rn)(W:Rn→Nat):∀(n:Nat) (u:Rn),GU (rs.map Rn.sw) W n u.sw=GU rs (λr=>W r.sw) n u
 |0,aj=>rfl
 |n+1,u=>by
  simp only[IQ]
  congr 2
  rw[List.filter_map,List.map_map];have:((λt=>decide (Ah t u.sw))∘Rn.sw)=λt=>decide (Ah t u):=by funext t;simp only[Function.comp];exact decide_eq_decide.mpr Ah.sw
  rw[this];exact List.map_congr_left λt aj=>DJ rs W n t
theorem Ft{rs:List Rn}(hs:∀r∈rs,0<r.s)(W:Rn→Nat)(u:Rn):best (rs.map Rn.sw) W u.sw=best rs (λr=>W r.sw) u:=by
 unfold best;have hs':∀r∈rs.map Rn.sw,0<r.s:=λr hr=>by
  obtain⟨v,hv,rfl⟩:=List.mem_map.mp hr;exact hs v hv
 rw[j8 hs' _ (u.i+u.j+1) u.sw (Nat.lt_succ_self _) (by show u.j<_;exact PD),j8 hs (u.i+1) (u.i+u.j+1) u (F1) (Va)];exact DJ rs W _ u
theorem IU{rs:List Rn}(hs:∀r∈rs,0<r.s)(W:Rn→Nat):top (rs.map Rn.sw) W=top rs (λr=>W r.sw):=by
 unfold top;rw[List.map_map]
 congr 1
 exact List.map_congr_left λu aj=>Ft hs W u
theorem qW{a b:List Int}(ha:a.length≤7)(hb:b.length≤7){rs:List Rn}(hrs:∀r,r∈rs↔Run a b r){ks:List Int}(hks:ks.Pairwise (·<·))(hp:ks.Perm (rs.map λr=>enc r.sw)){G:List Rn}(hG:bz b a 0 b.length 0 a.length G):
  ((ks.filter λt=>decide (top rs (λr=>wt ks (enc r.sw))/wt ks t%2=1)).map nC).Perm (G.map gS):=by
 have hs:∀r∈rs,0<r.s:=λr hr=>((hrs r).mp hr).1
 have:=pW hb ha (IT hrs) hks (by rw[List.map_map];exact hp) hG
 rwa [IU hs]at this
theorem yS{x y:Int×Int×Int}(h1:dz x y=false)(h2:dz y x=false):x=y:=by
 obtain⟨a,b,c⟩:=x;obtain⟨d,e,f⟩:=y;unfold dz at h1 h2;simp only[Bool.or_eq_false_iff,Bool.and_eq_false_iff,decide_eq_false_iff_not]at h1 h2;refine Prod.ext ?_ (Prod.ext ?_ ?_)<;>simp only<;>omega
theorem iJ{xs ys:List (Int×Int×Int)}(h1:xs.Pairwise λx y=>dz y x=false)(h2:ys.Pairwise λx y=>dz y x=false)(hp:xs.Perm ys):xs=ys:=
 List.Perm.eq_of_pairwise (le:=λx y=>dz y x=false) (λx y aj aj a b=>yS b a) h1 h2 hp
theorem gE{C:List Rn}(h:C.Pairwise Ah)(hs:∀v∈C,0<v.s):(C.map gS).Pairwise λx y=>dz y x=false:=by
 rw[List.pairwise_map];refine h.imp_of_mem λ{x y} hx hy hxy=>?_
 have:=hs x hx;unfold Ah at hxy;unfold dz gS;simp only[Bool.or_eq_false_iff,Bool.and_eq_false_iff,decide_eq_false_iff_not];exact⟨WB hxy.1,Qs hxy.2⟩
theorem yT{r:Rn}(h:mV r):enc r/256*256+enc r%16*16+enc r/16%16=enc r.sw:=by
 obtain⟨h1,h2,h3⟩:=h;unfold enc Rn.sw;simp only;exact Qp h1 h2
theorem Bl{r u:Rn}(h:mV r)(h':mV u):(enc r/16%16+(16-enc r/256)≤enc u/16%16∧enc r%16+(16-enc r/256)≤enc u%16)↔Ah r u:=by
 have a:=dec_enc h;have b:=dec_enc h';unfold nC gS at a b;simp only[Prod.mk.injEq]at a b;rw[a.1,a.2.1,a.2.2,b.1,b.2.1];unfold Ah;exact Qt
theorem eK{xs:List Int}{p k:Nat}{v:Int}(hp:p<xs.length):(xs.set p v).getD k 0=if k=p then v else xs.getD k 0:=by
 rw[List.getD_eq_getElem?_getD,List.getD_eq_getElem?_getD,List.getElem?_set]
 by_cases q:p=k
 ·subst q;rw[if_pos rfl,if_pos hp,if_pos rfl];rfl
 ·rw[if_neg q,if_neg λe=>q e.symm]
theorem swap_perm{xs:List Int}{p q:Nat}{v:Int}(hp:p<xs.length)(hq:q<xs.length)(hne:q≠p):((xs.set p (xs.getD q 0)).set q v).Perm (xs.set p v):=by
 have h:=List.set_set_perm (as:=xs.set p v) (i:=p) (j:=q) (by rw[List.length_set];exact hp) (by rw[List.length_set];exact hq);have e1:(xs.set p v)[q]'(by rw[List.length_set];exact hq)=xs.getD q 0:=by
  rw[List.getElem_set_ne (Ne.symm hne),List.getD_eq_getElem?_getD,List.getElem?_eq_getElem hq];rfl
 have e2:(xs.set p v)[p]'(by rw[List.length_set];exact hp)=v:=List.getElem_set_self ..;rw[e1,e2,List.set_set]at h;exact h
def cN(sp:Nat)(xs:List Int):Prop:=∀k,0<k→k<xs.length→sp≤(k-1)/2→xs.getD ((k-1)/2) 0≤xs.getD k 0
inductive pX(sp:Nat):Nat→Prop where
 |refl:pX sp sp
 |step {k:Nat} (h:0<k) (h1:pX sp ((k-1)/2)):pX sp k
theorem pX.le{sp k:Nat}(h:pX sp k):sp≤k:=by
 induction h with
 |refl=>exact Nat.le_refl _
 |step h h1 ih=>exact Su ih
theorem pX.up{sp k:Nat}(h:pX sp k)(hk:sp<k):pX sp ((k-1)/2):=by
 cases h with
 |refl=>exact(Jf hk).elim
 |step h h1=>exact h1
structure DK(sp:Nat)(ys:List Int)(pos:Nat):Prop where
 one:∀k,0<k→k<ys.length→sp≤(k-1)/2→k≠pos→ys.getD ((k-1)/2) 0≤ys.getD k 0
 two:sp<pos→∀k,0<k→k<ys.length→(k-1)/2=pos→ys.getD ((pos-1)/2) 0≤ys.getD k 0
theorem r7{new:Int}{sp:Nat}:∀(f:Nat) (xs:List Int) (pos:Nat),pos<f→pos<xs.length→pX sp pos→DK sp (xs.set pos new) pos→
  cN sp ((iH new sp f xs pos).1.set (iH new sp f xs pos).2 new)∧((iH new sp f xs pos).1.set (iH new sp f xs pos).2 new).Perm (xs.set pos new)
 |0,xs,pos,h,aj,br,dg=>⟨(NO h).elim,(NO h).elim⟩
 |f+1,xs,pos,hf,hp,hd,hc=>by
  have hle:=hd.le;rw[Jv]
  by_cases hn:sp<pos
  ·rw[if_pos hn]
   have hd':=hd.up hn;have hle':=hd'.le;have hq:(pos-1)/2<xs.length:=NU hp;have hne:(pos-1)/2≠pos:=Sv hn;have hlen:(xs.set pos new).length=xs.length:=List.length_set;have hlen':(xs.set pos (xs.getD ((pos-1)/2) 0)).length=xs.length:=List.length_set
   by_cases hlt:new<xs.getD ((pos-1)/2) 0
   ·rw[if_pos hlt]
    have ih:=r7 (new:=new) (sp:=sp) f (xs.set pos (xs.getD ((pos-1)/2) 0)) ((pos-1)/2) (Sw hf hn) (by rw[hlen'];exact hq) hd' ?_
    ·exact⟨ih.1,ih.2.trans (swap_perm hp hq hne)⟩
    ·have g:∀k,((xs.set pos (xs.getD ((pos-1)/2) 0)).set ((pos-1)/2) new).getD k 0=if k=(pos-1)/2 then new else if k=pos then xs.getD ((pos-1)/2) 0 else xs.getD k 0:=λk=>by
      rw[eK (by rw[hlen'];exact hq),eK hp]
     have g0:∀k,(xs.set pos new).getD k 0=if k=pos then new else xs.getD k 0:=λk=>eK hp
     have o1:=hc.one;have o2:=hc.two hn;rw[hlen]at o1 o2
     constructor
     ·intro k h0 hk qX hkp
      rw[List.length_set,hlen']at hk;rw[g,g,if_neg hkp]
      by_cases q1:k=pos
      ·subst q1;rw[if_pos rfl,if_pos rfl];exact Ys hlt
      ·rw[if_neg q1]
       by_cases q2:(k-1)/2=(pos-1)/2
       ·rw[if_pos q2]
        have:=o1 k h0 hk qX q1;rw[g0,g0,q2,if_neg hne,if_neg q1]at this;exact VT this hlt
       ·rw[if_neg q2]
        by_cases q3:(k-1)/2=pos
        ·rw[if_pos q3]
         have:=o2 k h0 hk q3;rw[g0,g0,if_neg hne,if_neg q1]at this;exact this
        ·rw[if_neg q3]
         have:=o1 k h0 hk qX q1;rw[g0,g0,if_neg q3,if_neg q1]at this;exact this
     ·intro qX k h0 hk hkp
      rw[List.length_set,hlen']at hk;have n1:((pos-1)/2-1)/2≠(pos-1)/2:=Sx qX;have n2:((pos-1)/2-1)/2≠pos:=Sy hn;have hd2:=(hd'.up qX).le;have base:=o1 ((pos-1)/2) (Nat.zero_lt_of_lt qX) hq hd2 hne;rw[g0,g0,if_neg n2,if_neg hne]at base;rw[g,g,if_neg n1,if_neg n2,if_neg (Sz hkp qX)]
      by_cases q1:k=pos
      ·rw[if_pos q1];exact base
      ·rw[if_neg q1]
       have:=o1 k h0 hk (hkp▸hle') q1;rw[g0,g0,hkp,if_neg hne,if_neg q1]at this;exact Int.le_trans base this
   ·rw[if_neg hlt]
    refine⟨λk h0 hk qX=>?_,List.Perm.refl _⟩
    by_cases q:k=pos
    ·simp only
     rw[eK hp,eK hp,if_pos q,q,if_neg hne];exact Int.le_of_not_gt hlt
    ·exact hc.one k h0 hk qX q
  ·rw[if_neg hn]
   refine⟨λk h0 hk qX=>?_,List.Perm.refl _⟩;exact hc.one k h0 hk qX (SA qX h0 hn)
theorem kg{xs:List Int}{p:Nat}(hp:p<xs.length):xs.set p (xs.getD p 0)=xs:=by
 rw[List.getD_eq_getElem?_getD,List.getElem?_eq_getElem hp];exact List.set_getElem_self hp
theorem yU{xs:List Int}{sp pos:Nat}(hp:pos<xs.length)(hd:pX sp pos)(hc:DK sp xs pos):cN sp (Dz xs sp pos)∧(Dz xs sp pos).Perm xs:=by
 have:=r7 (new:=xs.getD pos 0) (sp:=sp) (pos+1) xs pos (F1) hp hd (by rw[kg hp];exact hc);rw[kg hp]at this;exact this
structure Sink(sp:Nat)(ys:List Int)(pos:Nat):Prop where
 one:∀k,0<k→k<ys.length→sp≤(k-1)/2→k≠pos→(k-1)/2≠pos→ys.getD ((k-1)/2) 0≤ys.getD k 0
 two:sp<pos→∀k,0<k→k<ys.length→(k-1)/2=pos→ys.getD ((pos-1)/2) 0≤ys.getD k 0
 desc:pX sp pos
 lt:pos<ys.length
theorem Sink.start{sp:Nat}{xs:List Int}(h:cN (sp+1) xs)(hl:sp<xs.length):Sink sp xs sp:=
 ⟨λk h0 hk qX h1 h2=>h k h0 hk (Pp qX h2),λh=>(Jf h).elim, .refl,hl⟩
theorem Sink.stop{sp pos:Nat}{ys:List Int}(h:Sink sp ys pos)(he:ys.length≤2*pos+1):DK sp ys pos:=
 ⟨λk h0 hk qX h1=>h.one k h0 hk qX h1 (SD he h0 hk),λhs k h0 hk e=>by exact PW e he hk hs⟩
theorem Sink.step{sp pos c:Nat}{xs:List Int}{new:Int}(h:Sink sp (xs.set pos new) pos)(hp:pos<xs.length)(hc:c<xs.length)(h0:0<c)(hcp:(c-1)/2=pos)(hmin:∀k,0<k→k<xs.length→(k-1)/2=pos→xs.getD c 0≤xs.getD k 0):
  Sink sp ((xs.set pos (xs.getD c 0)).set c new) c∧((xs.set pos (xs.getD c 0)).set c new).Perm (xs.set pos new):=by
 have hlen':(xs.set pos (xs.getD c 0)).length=xs.length:=List.length_set;have hlen:(xs.set pos new).length=xs.length:=List.length_set;have hne:c≠pos:=SG hcp h0;have g:∀k,((xs.set pos (xs.getD c 0)).set c new).getD k 0=if k=c then new else if k=pos then xs.getD c 0 else xs.getD k 0:=λk=>by
  rw[eK (by rw[hlen'];exact hc),eK hp]
 have g0:∀k,(xs.set pos new).getD k 0=if k=pos then new else xs.getD k 0:=λk=>eK hp
 have o1:=h.one;have o2:=h.two;have hdl:=h.desc.le;rw[hlen]at o1 o2;refine⟨⟨?_,?_, .step h0 (by rw[hcp];exact h.desc),by rw[List.length_set,hlen'];exact hc⟩,swap_perm hp hc hne⟩
 ·intro k hk0 hk qX h1 h2
  rw[List.length_set,hlen']at hk;rw[g,g,if_neg h1,if_neg h2]
  by_cases q1:k=pos
  ·subst q1
   rw[if_neg (Kv hk0),if_pos rfl];have:=o2 (SH qX hk0) c h0 hc hcp;rw[g0,g0,if_neg (Kv hk0),if_neg hne]at this;exact this
  ·rw[if_neg q1]
   by_cases q2:(k-1)/2=pos
   ·rw[if_pos q2];exact hmin k hk0 hk q2
   ·rw[if_neg q2]
    have:=o1 k hk0 hk qX q1 q2;rw[g0,g0,if_neg q2,if_neg q1]at this;exact this
 ·intro hs k hk0 hk e
  rw[List.length_set,hlen']at hk;rw[hcp,g,g,if_neg (Ne.symm hne),if_pos rfl,if_neg (SI e h0),if_neg (PT e hcp h0)];have:=o1 k hk0 hk (SJ e hcp hdl) (PT e hcp h0) (SK e hcp h0);rw[g0,g0,e,if_neg hne,if_neg (PT e hcp h0)]at this;exact this
theorem DL{xs:List Int}(h:cN 0 xs):∀k,k<xs.length→xs.getD 0 0≤xs.getD k 0:=by
 intro k
 induction k using Nat.strongRecOn with
 |ind k ih=>
  intro hk
  by_cases q:k=0
  ·subst q;exact Yr
  ·have:=ih ((k-1)/2) (SM q) (NU hk)
   have:=h k (Nat.pos_of_ne_zero q) hk (Nat.zero_le _);exact Int.le_trans (by assumption) this
end
section
open PySem PySem.W PyProof.Rows PySem.Calls
def Ext(Ω az:aa):Prop:=∀a o,Ω a=some o→az a=some o
theorem Ext.refl(Ω:aa):Ext Ω Ω:=λaj aj h=>h
theorem Ext.trans{Ω az nZ:aa}(h:Ext Ω az)(h':Ext az nZ):Ext Ω nZ:=λa o e=>h' a o (h a o e)
theorem aE{Ω:aa}{a r:Addr}{o:bI}(h:Ω a=some o)(hr:Ω r=none):a≠r:=λe=>by rw[e,hr]at h;cases h
theorem au{Ω:aa}{a r:Addr}{o x:bI}(h:Ω a=some o)(hr:Ω r=none):(Ω.set r x) a=some o:=by rw[aa.ai (aE h hr)];exact h
theorem Ext.fresh{Ω:aa}{r:Addr}{x:bI}(hr:Ω r=none):Ext Ω (Ω.set r x):=λa o h=>au h hr
theorem Ext.then{Ω az:aa}(h:Ext Ω az){r:Addr}{x:bI}(hr:az r=none):Ext Ω (az.set r x):=h.trans (.fresh hr)
theorem Ext.upd{Ω az:aa}(h:Ext Ω az){r:Addr}{x:bI}(hr:Ω r=none):Ext Ω (az.set r x):=λa o e=>by
 rw[aa.ai (aE e hr)];exact h a o e
theorem Ext.none{Ω az:aa}(h:Ext Ω az){r:Addr}(hr:az r=none):Ω r=none:=by
 cases q:Ω r with
 |none=>rfl
 |some o=>rw[h r o q]at hr;cases hr
section
variable{c:(Bool→St→Prop)→St→Prop}{b o:(bl→St→Prop)→St→Prop}{Q:bl→St→Prop}{mu:af→(St→Prop)→St→Prop}
theorem f9(I:Nat→St→Prop)(step:∀n st (K:St→Prop),I n st→(∀m,m<n→∀st',I m st'→K st')→c (λt s1=>if t then b (cC K Q) s1 else o Q s1) st){n:Nat}{st:St}(h:I n st):∃f,fT c b o Q f st:=by
 have:∀f n,n≤f→∀st,I n st→fT c b o Q (f+1) st:=by
  intro f
  induction f with
  |zero=>intro n hn st h;exact step n st _ h λm hm=>(Sd hn hm).elim
  |succ f ih=>intro n hn st h;exact step n st _ h λm hm st' h'=>ih m (Se hn hm) st' h'
 exact⟨n+1,this n n (Nat.le_refl _) st h⟩
theorem GW{Ω:aa}{p:Addr}{k:Nat}{vals:List af}(h:Ω p=some (.list vals)):BZ (.lst p k) Ω=match vals[k]? with|some x=>some (some (x, .lst p (k+1)))|none=>some none:=by
 show Ew (Cj (Ω p)) k _=_;rw[h];show some (vals[k]?.map _)=_;cases vals[k]?<;>rfl
theorem MR{Ω:aa}{p:Addr}{k:Nat}{vals:List af}(h:Ω p=some (.tup vals)):BZ (.tup p k) Ω=match vals[k]? with|some x=>some (some (x, .tup p (k+1)))|none=>some none:=by
 show Ew (Ck (Ω p)) k _=_;rw[h];show some (vals[k]?.map _)=_;cases vals[k]?<;>rfl
theorem DM{Ω:aa}{p:Addr}{ep k:Nat}{es:List (Int×af)}(h:Ω p=some (.dict ep es)){f:Int×af→af}{g:Nat→It}:Ew (Ao ep es.length (Ω p)) k (λe=>(f e,g (k+1)))=match (es.map f)[k]? with|some x=>some (some (x,g (k+1)))|none=>some none:=by
 rw[h,List.getElem?_map];show Ew (if ep=ep∧es.length=es.length then some es else none) k _=_;rw[if_pos ⟨rfl,rfl⟩];show some (es[k]?.map _)=_;cases es[k]?<;>rfl
theorem GX{Ω:aa}{x0 stp:Int}{N k:Nat}(h:k≤N):BZ (.nk (x0+k*stp) (N-k) stp) Ω=match ((List.range N).map λk:Nat=>af.int (x0+k*stp))[k]? with|some x=>some (some (x, .nk (x0+(k+1:Nat)*stp) (N-(k+1:Nat)) stp))|none=>some none:=by
 rw[List.getElem?_map];show (if (0:Int)<N-k then some (some (af.int (x0+k*stp),It.nk (x0+k*stp+stp) ((N:Int)-k-1) stp))else some none)=_
 by_cases q:k<N
 ·rw[if_pos (Vq q),List.getElem?_range q]
  simp only[Option.map_some]
  congr 4
  ·rw[Int.natCast_add,Int.add_mul];omega
  ·exact Vr
 ·rw[if_neg (Vs q),List.getElem?_eq_none (by simp;exact O2 q)];rfl
theorem kh(vals:List af)(its:Nat→It)(I:Nat→St→Prop)(hn:∀k st,I k st→BZ (its k) st.Ω=match vals[k]? with|some x=>some (some (x,its (k+1)))|none=>some none)
  (step:∀k x st (K:St→Prop),vals[k]?=some x→I k st→(∀st',I (k+1) st'→K st')→mu x (b (cC K Q)) st) (fin:∀st,I vals.length st→Q .next st) {st:St} (h:I 0 st):∃f,jr mu b Q f (its 0) st:=by
 have:∀f k,k+f=vals.length→∀st,I k st→jr mu b Q (f+1) (its k) st:=by
  intro f
  induction f with
  |zero=>
   intro k hk st h;show nY _ _ _;rw[hn k st h,List.getElem?_eq_none (OL hk)];have:k=vals.length:=NJ hk;rw[this]at h;exact fin st h
  |succ f ih=>
   intro k hk st h;show nY _ _ _;rw[hn k st h,List.getElem?_eq_getElem (HF hk)];exact step k _ st _ (List.getElem?_eq_getElem (HF hk)) h λst' h'=>ih (k+1) (NR hk) st' h'
 exact⟨_,this vals.length 0 (OM) st h⟩
theorem ki{p:Addr}(vals:List af)(I:Nat→St→Prop)(hn:∀k st,I k st→st.Ω p=some (.list vals))
  (step:∀k x st (K:St→Prop),vals[k]?=some x→I k st→(∀st',I (k+1) st'→K st')→mu x (b (cC K Q)) st) (fin:∀st,I vals.length st→Q .next st) {st:St} (h:I 0 st):∃f,jr mu b Q f (.lst p 0) st:=
 kh vals (λk=> .lst p k) I (λk st h=>GW (hn k st h)) step fin h
theorem nN{p:Addr}(vals:List af)(I:Nat→St→Prop)(hn:∀k st,I k st→st.Ω p=some (.tup vals))
  (step:∀k x st (K:St→Prop),vals[k]?=some x→I k st→(∀st',I (k+1) st'→K st')→mu x (b (cC K Q)) st) (fin:∀st,I vals.length st→Q .next st) {st:St} (h:I 0 st):∃f,jr mu b Q f (.tup p 0) st:=
 kh vals (λk=> .tup p k) I (λk st h=>MR (hn k st h)) step fin h
theorem DN{p:Addr}{ep:Nat}(es:List (Int×af))(I:Nat→St→Prop)(hn:∀k st,I k st→st.Ω p=some (.dict ep es))
  (step:∀k x st (K:St→Prop),es[k]?=some x→I k st→(∀st',I (k+1) st'→K st')→mu (.int x.1) (b (cC K Q)) st) (fin:∀st,I es.length st→Q .next st) {st:St} (h:I 0 st):∃f,jr mu b Q f (.keys p ep es.length 0) st:=
 kh (es.map λe=> .int e.1) (λk=> .keys p ep es.length k) I (λk st h=>by exact DM (g:=λk=> .keys p ep es.length k) (hn k st h))
  (λk x st K e hI hK=>by
   rw[List.getElem?_map]at e;cases q:es[k]? with
   |none=>rw[q]at e;cases e
   |some y=>rw[q]at e;cases e;exact step k y st K q hI hK) (λst h=>by rw[List.length_map]at h;exact fin st h) h
theorem iY{x0 stp:Int}(N:Nat){L:Int}(hL:L=N)(I:Nat→St→Prop)
  (step:∀k st (K:St→Prop),k<N→I k st→(∀st',I (k+1) st'→K st')→mu (.int (x0+k*stp)) (b (cC K Q)) st) (fin:∀st,I N st→Q .next st) {st:St} (h:I 0 st):∃f,jr mu b Q f (.nk x0 L stp) st:=by
 subst hL;have:=kh (mu:=mu) (b:=b) (Q:=Q) ((List.range N).map λk:Nat=>af.int (x0+k*stp)) (λk=> .nk (x0+k*stp) (N-k) stp) (λk st=>I k st∧k≤N) (λk st h=>?_) (λk x st K e hI hK=>?_) (λst h=>?_) (st:=st) ⟨h,Nat.zero_le _⟩
 ·simpa using this
 ·exact GX h.2
 ·rw[List.getElem?_map]at e
  by_cases q:k<N
  ·rw[List.getElem?_range q]at e
   cases e;exact step k st K q hI.1 λst' h'=>hK st' ⟨h',q⟩
  ·rw[List.getElem?_eq_none (by simp;exact O2 q)]at e;cases e
 ·have h1:=h.1
  rw[List.length_map,List.length_range]at h1;exact fin st h1
end
section
variable{elt:(af→St→Prop)→St→Prop}{c:(Bool→St→Prop)→St→Prop}{v:V}{Q:List af→St→Prop}
theorem iZ(vals:List af)(its:Nat→It)(I:Nat→List af→St→Prop)(hn:∀k ys st,I k ys st→BZ (its k) st.Ω=match vals[k]? with|some x=>some (some (x,its (k+1)))|none=>some none)
  (step:∀k x ys st (K:List af→St→Prop),vals[k]?=some x→I k ys st→(∀ys' st',I (k+1) ys' st'→K ys' st')→c (λt s1=>if t then elt (λy s2=>ys.length<lim∧K (ys++[y]) s2) s1 else K ys s1) {st with m:=st.m.set v x})
  (fin:∀ys st,I vals.length ys st→Q ys st) {st:St} (h:I 0 [] st):∃f,eH elt c v Q f (its 0) [] st:=by
 have:∀f k,k+f=vals.length→∀ys st,I k ys st→eH elt c v Q (f+1) (its k) ys st:=by
  intro f
  induction f with
  |zero=>
   intro k hk ys st h;show nY _ _ _;rw[hn k ys st h,List.getElem?_eq_none (OL hk)];have:k=vals.length:=NJ hk;rw[this]at h;exact fin ys st h
  |succ f ih=>
   intro k hk ys st h;show nY _ _ _;rw[hn k ys st h,List.getElem?_eq_getElem (HF hk)];exact step k _ ys st (λys' st'=>eH elt c v Q (f+1) (its (k+1)) ys' st') (List.getElem?_eq_getElem (HF hk)) h λys' st' h'=>ih (k+1) (NR hk) ys' st' h'
 exact⟨_,this vals.length 0 (OM) [] st h⟩
theorem iK{p:Addr}(vals:List af)(I:Nat→List af→St→Prop)(hn:∀k ys st,I k ys st→st.Ω p=some (.list vals))
  (step:∀k x ys st (K:List af→St→Prop),vals[k]?=some x→I k ys st→(∀ys' st',I (k+1) ys' st'→K ys' st')→c (λt s1=>if t then elt (λy s2=>ys.length<lim∧K (ys++[y]) s2) s1 else K ys s1) {st with m:=st.m.set v x})
  (fin:∀ys st,I vals.length ys st→Q ys st) {st:St} (h:I 0 [] st):∃f,eH elt c v Q f (.lst p 0) [] st:=
 iZ vals (λk=> .lst p k) I (λk ys st h=>GW (hn k ys st h)) step fin h
theorem Bm{p:Addr}{ep:Nat}(es:List (Int×af))(I:Nat→List af→St→Prop)(hn:∀k ys st,I k ys st→st.Ω p=some (.dict ep es))
  (step:∀k x ys st (K:List af→St→Prop),es[k]?=some x→I k ys st→(∀ys' st',I (k+1) ys' st'→K ys' st')→c (λt s1=>if t then elt (λy s2=>ys.length<lim∧K (ys++[y]) s2) s1 else K ys s1) {st with m:=st.m.set v (.int x.1)})
  (fin:∀ys st,I es.length ys st→Q ys st) {st:St} (h:I 0 [] st):∃f,eH elt c v Q f (.keys p ep es.length 0) [] st:=
 iZ (es.map λe=> .int e.1) (λk=> .keys p ep es.length k) I (λk ys st h=>by exact DM (g:=λk=> .keys p ep es.length k) (hn k ys st h))
  (λk x ys st K e hI hK=>by
   rw[List.getElem?_map]at e;cases q:es[k]? with
   |none=>rw[q]at e;cases e
   |some y=>rw[q]at e;cases e;exact step k y ys st K q hI hK) (λys st h=>by rw[List.length_map]at h;exact fin ys st h) h
theorem Bo{p:Addr}{ep:Nat}(es:List (Int×af))(I:Nat→List af→St→Prop)(hn:∀k ys st,I k ys st→st.Ω p=some (.dict ep es))
  (step:∀k x ys st (K:List af→St→Prop),es[k]?=some x→I k ys st→(∀ys' st',I (k+1) ys' st'→K ys' st')→c (λt s1=>if t then elt (λy s2=>ys.length<lim∧K (ys++[y]) s2) s1 else K ys s1) {st with m:=st.m.set v x.2})
  (fin:∀ys st,I es.length ys st→Q ys st) {st:St} (h:I 0 [] st):∃f,eH elt c v Q f (.vals p ep es.length 0) [] st:=
 iZ (es.map λe=>e.2) (λk=> .vals p ep es.length k) I (λk ys st h=>by exact DM (g:=λk=> .vals p ep es.length k) (hn k ys st h))
  (λk x ys st K e hI hK=>by
   rw[List.getElem?_map]at e;cases q:es[k]? with
   |none=>rw[q]at e;cases e
   |some y=>rw[q]at e;cases e;exact step k y ys st K q hI hK) (λys st h=>by rw[List.length_map]at h;exact fin ys st h) h
theorem DO{x0 stp:Int}(N:Nat){L:Int}(hL:L=N)(I:Nat→List af→St→Prop)
  (step:∀k ys st (K:List af→St→Prop),k<N→I k ys st→(∀ys' st',I (k+1) ys' st'→K ys' st')→c (λt s1=>if t then elt (λy s2=>ys.length<lim∧K (ys++[y]) s2) s1 else K ys s1) {st with m:=st.m.set v (.int (x0+k*stp))})
  (fin:∀ys st,I N ys st→Q ys st) {st:St} (h:I 0 [] st):∃f,eH elt c v Q f (.nk x0 L stp) [] st:=by
 subst hL;have:=iZ (elt:=elt) (c:=c) (v:=v) (Q:=Q) ((List.range N).map λk:Nat=>af.int (x0+k*stp)) (λk=> .nk (x0+k*stp) (N-k) stp) (λk ys st=>I k ys st∧k≤N) (λk ys st h=>?_) (λk x ys st K e hI hK=>?_) (λys st h=>?_) (st:=st) ⟨h,Nat.zero_le _⟩
 ·simpa using this
 ·exact GX h.2
 ·rw[List.getElem?_map]at e
  by_cases q:k<N
  ·rw[List.getElem?_range q]at e
   cases e;exact step k ys st K q hI.1 λys' st' h'=>hK ys' st' ⟨h',q⟩
  ·rw[List.getElem?_eq_none (by simp;exact O2 q)]at e;cases e
 ·have h1:=h.1
  rw[List.length_map,List.length_range]at h1;exact fin ys st h1
end
section
variable{prog:Program}{w:World}{B:Addr→Option Obj}{Ω:aa}{l:Nat}{Q:af→aa→Prop}
theorem aR{a:Addr}{xs:List af}(ha:a∈jN)(hl:l<60)(h:aF prog w B (l+1) (.ref a) xs Q Ω):aZ prog w B l (.ref a) xs Q Ω:= .fn ha hl h
theorem len_list{p:Addr}{ys:List af}(hp:Ω p=some (.list ys))(hl:ys.length<lim)(h:Q (.int ys.length) Ω):aZ prog w B l (.builtin .len) [.ref p] Q Ω:= .bi (.LX hp hl h)
theorem cj{p:Addr}{xs:List Int}(hp:Ω p=some (.list (av xs)))(hl:xs.length<lim)(h:Q (.int xs.length) Ω):aZ prog w B l (.builtin .len) [.ref p] Q Ω:=
 len_list hp (by rw[aq];exact hl) (by rw[aq];exact h)
theorem bY{p:Addr}{xs:List Int}{i:Nat}{k:Int}{R:af→Prop}(hp:Ω p=some (.list (av xs)))(hk:k=i)(hi:i<xs.length)(hl:xs.length<lim)(h:R (.int (xs.getD i 0))):Al (.ref p) (.int k) R Ω:=by
 subst hk;exact idx_int hp hi hl h
theorem mW{p:Addr}{xs:List Int}{i:Nat}{k v:Int}{R:aa→Prop}(hp:Ω p=some (.list (av xs)))(hk:k=i)(hi:i<xs.length)(hl:xs.length<lim)(h:R (Ω.set p (.list (av (xs.set i v))))):jO (.ref p) (.int k) (.int v) R Ω:=by
 subst hk;exact fy hp hi hl h
theorem di{p:Addr}{ep:Nat}{es:List (Int×af)}{k:Int}{x:af}{R:af→Prop}(hp:Ω p=some (.dict ep es))(hk:aO es k=some x)(h:R x):Al (.ref p) (.int k) R Ω:= .dict hp hk h
theorem cO{p:Addr}{ep:Nat}{es:List (Int×af)}{k:Int}{v:af}{R:aa→Prop}(hp:Ω p=some (.dict ep es))(hl:es.length<lim)(h:∀cK,R (Ω.set p (.dict cK (dput es k v)))):jO (.ref p) (.int k) v R Ω:= .dict hp hl h
theorem aY{p:Addr}{ys:List af}{x:af}(hp:Ω p=some (.list ys))(hl:ys.length<lim)(h:Q .none (Ω.set p (.list (ys++[x])))):aZ prog w B l (.builtin .nE) [.ref p,x] Q Ω:= .bi (.append hp hl h)
theorem v8{p:Addr}{ys:List af}{x:af}(hp:Ω p=some (.list (ys++[x])))(hl:ys.length+1<lim)(h:Q x (Ω.set p (.list ys))):aZ prog w B l (.builtin .wR) [.ref p] Q Ω:= .bi (.pop hp hl h)
theorem v9{p q:Addr}{ys zs:List af}(hne:p≠q)(hp:Ω p=some (.list ys))(hq:Ω q=some (.list zs))(hl:ys.length<lim)(hl':zs.length<lim)(h:Q .none (Ω.set p (.list (ys++zs)))):aZ prog w B l (.builtin .lextend) [.ref p, .ref q] Q Ω:= .bi (.extend hne hp hq hl hl' h)
theorem yV{p:Addr}{ys:List af}(hp:Ω p=some (.list ys))(hl:ys.length<lim)(h:Q .none (Ω.set p (.list []))):aZ prog w B l (.builtin .sA) [.ref p] Q Ω:= .bi (.clear hp hl h)
theorem zT{p:Addr}{ys:List af}(hp:Ω p=some (.tup ys))(hl:ys.length<lim)(h:Q (.int ys.length) Ω):aZ prog w B l (.builtin .len) [.ref p] Q Ω:= .bi (.LY hp hl h)
theorem len_dict{p:Addr}{ep:Nat}{ys:List (Int×af)}(hp:Ω p=some (.dict ep ys))(hl:ys.length<lim)(h:Q (.int ys.length) Ω):aZ prog w B l (.builtin .len) [.ref p] Q Ω:= .bi (.L4 hp hl h)
theorem Bp{p:Addr}{ys:List af}(hp:Ω p=some (.list ys))(hl:ys.length<lim)(h:∀r,Ω r=none→Q (.ref r) (Ω.set r (.list ys))):aZ prog w B l (.type .list) [.ref p] Q Ω:= .ty (.list hp hl h)
theorem yW{p:Addr}{ys:List af}(hp:Ω p=some (.list ys))(hl:ys.length<lim)(h:∀r,Ω r=none→Q (.ref r) (Ω.set r (.tup ys))):aZ prog w B l (.type .tuple) [.ref p] Q Ω:= .ty (.tuple hp hl h)
theorem Bq{p:Addr}{ys:List af}(hp:Ω p=some (.list ys))(hl:ys.length<lim)(h:Q (.bool (!ys.isEmpty)) Ω):aZ prog w B l (.type .bool) [.ref p] Q Ω:= .ty (.bool hp hl h)
theorem r9{p:Addr}{ep:Nat}{es:List (Int×af)}{k:Int}(hp:Ω p=some (.dict ep es))(h:Q ((aO es k).getD .none) Ω):aZ prog w B l (.builtin .aO) [.ref p, .int k] Q Ω:= .bi (.L6 hp h)
theorem Br{p:Addr}{ep:Nat}{es:List (Int×af)}{k:Int}{x:af}(hp:Ω p=some (.dict ep es))(h:Q ((aO es k).getD x) Ω):aZ prog w B l (.builtin .aO) [.ref p, .int k,x] Q Ω:= .bi (.get3 hp h)
theorem DP{p:Addr}{ns:List Int}(hp:Ω p=some (.list (av ns)))(h0:ns≠[])(h:∀M,M∈ns→(∀a∈ns,a≤M)→Q (.int M) Ω):aZ prog w B l (.builtin .max) [.ref p] Q Ω:= .bi (.L5 hp h0 h)
theorem aU{p:Addr}{ys:List af}{m:MN}{b:BI}(hp:Ω p=some (.list ys))(hm:Cg m=some b):fG Ω m (.ref p) (.builtin b):= .list hp hm
theorem i6{p:Addr}{ep:Nat}{es:List (Int×af)}{m:MN}{b:BI}(hp:Ω p=some (.dict ep es))(hm:Ci m=some b):fG Ω m (.ref p) (.builtin b):= .dict hp hm
inductive MU(Ω:aa)(p:Addr)(xs:List Int)(sp:Nat)(n:Nat)(st:St):Prop
 |mk (ys:List Int) (pos:Nat) (q1:st.m .heap=some (.ref p)) (q2:st.m .endpos=some (.int xs.length)) (q3:st.m .startpos=some (.int sp)) (q4:st.m .newitem=some (.int (xs.getD sp 0))) (q5:st.m .pos=some (.int pos)) (q6:st.m .childpos=some (.int (2*pos+1))) (q7:st.Ω=Ω.set p (.list (av ys))) (q8:ys.length=xs.length) (q9:n=xs.length-pos) (q10:pos<xs.length) (q11:Sink sp (ys.set pos (xs.getD sp 0)) pos) (q12:(ys.set pos (xs.getD sp 0)).Perm xs):MU Ω p xs sp n st
theorem mX(bf:BF prog w B)(bT:l<60){p:Addr}{xs:List Int}{sp:Nat}(hp:Ω p=some (.list (av xs)))(h2:sp<xs.length)(hl:xs.length<lim)(hh:cN (sp+1) xs)
  (hq:∀ys:List Int,ys.Perm xs→cN sp ys→Q .none (Ω.set p (.list (av ys)))):aF prog w B l (.ref 394) [.ref p, .int sp] Q Ω:=by
 refine vS bf ?_;refine⟨.ref p,rfl,cj hp hl ?_⟩;refine⟨.int sp,rfl, .ref p,rfl, .int sp,rfl,idx_int hp h2 hl ?_⟩;refine⟨.int sp,rfl,iX (JZ) (by unfold lim at hl;exact Lm h2 hl) (aX (aI ?_))⟩;refine f9 (I:=MU Ω p xs sp) ?_ (n:=xs.length-sp)
  ⟨xs,sp,rfl,rfl,rfl,rfl,rfl,rfl,(aa.iI hp).symm,rfl,rfl,h2,by rw[kg h2];exact Sink.start hh h2,by rw[kg h2]⟩
 intro n aH K bB hK;obtain⟨m,az⟩:=aH;obtain⟨ys,pos,a1,a2,a3,a4,a5,a6,a7,a8,a9,IV,Fv,YY⟩:=bB;dsimp only at a1 a2 a3 a4 a5 a6 a7;subst a7;have hys:(Ω.set p (.list (av ys))) p=some (.list (av ys)):=aa.set_same;have hl':ys.length<lim:=a8▸hl;refine⟨_,a6,_,a2,?_⟩
 by_cases hc:2*pos+1<xs.length
 ·refine bK (bN (by simp;exact PJ hc) ?_)
  refine⟨_,a6,aI ?_⟩;have go:∀c:Nat,c<xs.length→0<c→(c-1)/2=pos→(∀k,0<k→k<xs.length→(k-1)/2=pos→ys.getD c 0≤ys.getD k 0)→∀m':eS,m' .heap=some (.ref p)→m' .endpos=some (.int xs.length)→m' .startpos=some (.int sp)→m' .newitem=some (.int (xs.getD sp 0))→m' .pos=some (.int pos)→m' .childpos=some (.int c)→
    exs prog w B l (.asg [.idx (.var .heap) (.var .pos)] (.idx (.var .heap) (.var .childpos))<|sv .pos (.var .childpos)<|sv .childpos (plus (times (.int 2) (.var .pos)) (.int 1)) .nil) (cC K (gO (exs prog w B l (.asg [.idx (.var .heap) (.var .pos)] (.var .newitem)<| .exp (.ig (.glob .jL) (.var .heap) (.var .startpos) (.var .pos)) .nil) (λfl st'=>Q (aW fl) st'.Ω)) (λfl st'=>Q (aW fl) st'.Ω))) ⟨m',Ω.set p (.list (av ys))⟩:=by
   intro c c1 c2 c3 c4 m' b1 b2 b3 b4 b5 b6;refine⟨_,b1,_,b6,idx_int hys (O9 a8 c1) hl' ?_⟩;refine⟨_,b1,_,b5,fy hys (O9 a8 IV) hl' ?_⟩;refine⟨_,b6,_,rfl,iX (JZ) (by unfold lim at hl;exact Lm c1 hl) (aX (aI ?_))⟩;obtain⟨s1,s2⟩:=Fv.step (O9 a8 IV) (O9 a8 c1) c2 c3 (λk k1 k2 k3=>c4 k k1 (JG a8 k2) k3);exact hK (xs.length-c) (Qw c3 a9 c2 IV) _ ⟨ys.set pos (ys.getD c 0),c,b1,b2,b3,b4,rfl,rfl,aa.set_set,by rw[List.length_set];exact a8,rfl,c1,s1,s2.trans YY⟩
  have hcast:((2*pos+1:Nat):Int)=2*(pos:Int)+1:=PK;refine⟨_,rfl,_,a2,?_⟩
  by_cases hr:2*pos+2<xs.length
  ·refine bK (bN (by simp;exact PL hr) ?_)
   refine⟨_,a1,_,a6,bY (i:=2*pos+1) hys (PM) (a8▸hc) hl' ?_⟩;refine⟨_,a1,_,rfl,bY (i:=2*pos+2) hys (PN) (a8▸hr) hl' ?_⟩
   by_cases hlt:ys.getD (2*pos+1) 0<ys.getD (2*pos+2) 0
   ·refine bK (aM (by simpa using hlt) ?_)
    refine go (2*pos+1) hc (Nat.succ_pos _) (Ld) (λk k1 k2 k3=>?_) _ a1 a2 a3 a4 a5 (by rw[hcast];exact a6);have:k=2*pos+1∨k=2*pos+2:=J6 k3 k1
    rcases this with rfl|rfl<;>omega
   ·refine bK (bN (by simpa using hlt) ?_)
    refine⟨_,rfl,?_⟩;refine go (2*pos+2) hr (Nat.succ_pos _) (Vh) (λk k1 k2 k3=>?_) _ a1 a2 a3 a4 a5 ?_
    ·have:k=2*pos+1∨k=2*pos+2:=J6 k3 k1
     rcases this with rfl|rfl<;>omega
    ·show some (af.int _)=some (af.int _)
     congr 2
  ·refine bK (aM (by simp;exact WJ hr) ?_)
   refine go (2*pos+1) hc (Nat.succ_pos _) (Ld) (λk k1 k2 k3=>?_) _ a1 a2 a3 a4 a5 (by rw[hcast];exact a6);have:k=2*pos+1:=Vi k3 k1 k2 hr;subst this;exact Yr
 ·refine bK (aM (by simp;exact WK hc) ?_)
  refine⟨_,a4,_,a1,_,a5,fy hys (O9 a8 IV) hl' ?_⟩;rw[aa.set_set];refine⟨_,a1,_,a3,_,a5,aR (by decide) bT ?_⟩;have hlen:(ys.set pos (xs.getD sp 0)).length=xs.length:=by rw[List.length_set];exact a8
  refine qT bf aa.set_same Fv.desc.le Fv.lt (by rw[hlen];exact hl) ?_;rw[aa.set_set];obtain⟨r1,r2⟩:=yU Fv.lt Fv.desc (Fv.stop (by rw[hlen];exact Nat.le_of_not_lt hc));exact hq _ (r2.trans YY) r1
theorem uf(bf:BF prog w B)(bT:l<59){p:Addr}{xs:List Int}(hp:Ω p=some (.list (av xs)))(h0:xs≠[])(hl:xs.length<lim)(hh:cN 0 xs)
  (hq:∀(x:Int) (ys:List Int),(x::ys).Perm xs→(∀y∈ys,x≤y)→cN 0 ys→Q (.int x) (Ω.set p (.list (av ys)))):aF prog w B l (.ref 373) [.ref p] Q Ω:=by
 rcases List.eq_nil_or_concat xs with q|⟨dl,last,rfl⟩
 ·exact absurd q h0
 rw[List.concat_eq_append]at hp h0 hl hh hq;rw[List.length_append,List.length_singleton]at hl;have e:av (dl++[last])=av dl++[.int last]:=by simp[av]
 refine tV bf ?_;rw[e]at hp;refine⟨.ref p,rfl, .builtin .wR,aU hp rfl,v8 hp (by rw[aq];exact hl) ?_⟩;refine⟨.ref p,rfl,jD aa.set_same (by rw[aq];exact O1 hl) ?_⟩;have hmin:=DL hh;cases dl with
 |nil=>
  refine aM rfl ⟨.int last,rfl,?_⟩;exact hq last [] (List.Perm.refl _) (by simp) λk h1 h2=>by simp at h2
 |cons x t=>
  refine bN rfl ?_;have hp1:(Ω.set p (.list (av (x::t)))) p=some (.list (av (x::t))):=aa.set_same;have hl1:(x::t).length<lim:=O1 hl;refine⟨.ref p,rfl,bY (i:=0) (k:=0) hp1 rfl (by simp) hl1 ?_⟩;refine⟨.int last,rfl, .ref p,rfl,aX (mW (i:=0) (k:=0) (v:=last) hp1 rfl (by simp) hl1 ?_)⟩;rw[aa.set_set];refine⟨.ref p,rfl,aR (by decide) (Nat.lt_succ_of_lt bT) ?_⟩;refine mX bf (Nat.succ_lt_succ bT) (sp:=0) aa.set_same (by simp) (by simp only[List.set_cons_zero,List.length_cons]at hl1 ⊢;exact hl1) ?_ λys hys hyh=>?_
  ·intro k k1 k2 k3
   simp only[List.set_cons_zero,List.length_cons]at k2;have:=hh k k1 (by simp only[List.length_append,List.length_cons,List.length_nil];exact Nat.lt_succ_of_lt k2) (Nat.zero_le _);have g:∀j,0<j→j<t.length+1→((x::t).set 0 last).getD j 0=(x::t++[last]).getD j 0:=λj j1 j2=>by
    cases j with
    |zero=>exact Qx j1
    |succ j=>
     simp only[List.set_cons_zero,List.cons_append,List.getD_cons_succ];rw[List.getD_eq_getElem?_getD,List.getD_eq_getElem?_getD,List.getElem?_append_left (Nat.lt_of_succ_lt_succ j2)]
   rw[g _ (Nat.lt_of_succ_le k3) (Vj k2),g _ k1 k2];exact this
  ·rw[aa.set_set]
   refine⟨.int x,rfl,hq x ys ?_ ?_ hyh⟩
   ·refine(hys.cons x).trans ?_
    simp only[List.set_cons_zero,List.cons_append];exact(List.perm_append_singleton last t).symm.cons x
   ·intro y hy
    have hy1:y∈(x::t++[last]):=by
     have:=hys.mem_iff.mp hy;simp only[List.set_cons_zero,List.mem_cons]at this;simp only[List.mem_append,List.mem_cons,List.not_mem_nil,or_false]
     rcases this with h|h
     ·exact .inr h
     ·exact .inl (.inr h)
    obtain⟨k,hk,rfl⟩:=List.getElem_of_mem hy1;have:=hmin k hk;simp only[List.cons_append,List.getD_cons_zero]at this;rw[List.getD_eq_getElem?_getD,←List.cons_append,List.getElem?_eq_getElem hk]at this;exact this
theorem ug(bf:BF prog w B)(bT:l<59){p:Addr}{xs:List Int}(hp:Ω p=some (.list (av xs)))(hl:xs.length<lim)
  (hq:∀(ys:List Int),ys.Perm xs→cN 0 ys→Q .none (Ω.set p (.list (av ys)))):aF prog w B l (.ref 380) [.ref p] Q Ω:=by
 refine tW bf ?_;refine⟨.ref p,rfl,cj hp hl ?_⟩;have e:(xs.length:Int)/2=(xs.length/2:Nat):=PO;refine⟨.int xs.length,rfl,aX (eY (by decide) (by decide) (.mk (PR) (by unfold lim at hl;exact WL hl) ?_))⟩;refine iY (xs.length/2) e (I:=λk st=>st.m .x=some (.ref p)∧∃ys:List Int,st.Ω=Ω.set p (.list (av ys))∧ys.Perm xs∧cN (xs.length/2-k) ys) ?_ ?_ ?_
 ·intro k aH K hk bB hK;obtain⟨m,az⟩:=aH;obtain⟨a1,ys,a2,a3,a4⟩:=bB
  dsimp only at a1 a2;subst a2;have hlen:=a3.length_eq;refine⟨_,a1,_,rfl,aR (by decide) (Nat.lt_succ_of_lt bT) ?_⟩;have e2:(xs.length:Int)/2-1+k*-1=(xs.length/2-1-k:Nat):=by omega
  rw[e2];refine mX bf (Nat.succ_lt_succ bT) aa.set_same (Vk hlen hk) (hlen▸hl) ?_ λzs z1 z2=>?_
  ·have:xs.length/2-1-k+1=xs.length/2-k:=Vl hk
   rw[this];exact a4
  ·rw[aa.set_set]
   refine hK _ ⟨a1,zs,rfl,z1.trans a3,?_⟩;have:xs.length/2-(k+1)=xs.length/2-1-k:=Qy;rw[this];exact z2
 ·intro aH bB;obtain⟨m,az⟩:=aH;obtain⟨a1,ys,a2,a3,a4⟩:=bB
  dsimp only at a2;subst a2;rw[Nat.sub_self]at a4;exact hq ys a3 a4
 ·exact⟨rfl,xs,(aa.iI hp).symm,List.Perm.refl _,λk k1 k2 k3=>by exact WM k3 k1 k2⟩
end
noncomputable def wL:List Int→Nat→List (Int×af)
 |[],aj=>[]
 |k::ks,n=>(k, .int (2^(ks.length+n):Nat))::wL ks n
theorem Fw(n):wL [] n=[]:=rfl
theorem Fx(k ks n):wL (k::ks) n=(k, .int (2^(ks.length+n):Nat))::wL ks n:=rfl
theorem kj:∀(ks:List Int) (n:Nat),(wL ks n).map (·.1)=ks
 |[],aj=>rfl
 |k::ks,n=>by simp[Fw,Fx,kj ks n]
theorem pY(ks:List Int)(n:Nat):(wL ks n).length=ks.length:=by
 have:=congrArg List.length (kj ks n)
 rwa [List.length_map]at this
theorem wc:∀(ks:List Int) (x:Int) (n:Nat),wL (ks++[x]) n=wL ks (n+1)++[(x, .int (2^n:Nat))]
 |[],x,n=>by simp[Fw,Fx]
 |k::ks,x,n=>by
  rw[List.cons_append];simp only[Fw,Fx,List.cons_append];rw[wc ks x n]
  congr 3
  rw[List.length_append];simp only[List.length_singleton]
  congr 2
  exact Po
theorem ko:∀(ks:List Int) (t:Int),t∈ks→aO (wL ks 0) t=some (.int (wt ks t:Nat))
 |[],t,h=>by cases h
 |k::ks,t,h=>by
  unfold aO;simp only[Fw,Fx,List.find?_cons,Nat.add_zero]
  by_cases q:k=t
  ·simp[q,yO,yP]
  ·rw[decide_eq_false q]
   simp only;have:=ko ks t (by rcases List.mem_cons.mp h with h|h;exact absurd h.symm q;exact h);unfold aO at this;rw[this];have q':¬t=k:=λe=>q e.symm
   simp only[yO,yP,if_neg q']
theorem iL{es:List (Int×af)}{k:Int}{x:af}(h:k∉es.map (·.1)):dput es k x=es++[(k,x)]:=by
 unfold dput;rw[if_neg];intro q;obtain⟨e,h1,h2⟩:=List.any_eq_true.mp q;exact h (by rw[←of_decide_eq_true h2];exact List.mem_map_of_mem h1)
section
variable{prog:Program}{w:World}{B:Addr→Option Obj}{Ω:aa}{l:Nat}{Q:af→aa→Prop}
theorem mY(bf:BF prog w B){r:Rn}(hs:mV r)(hq:Q (.int (enc r.sw)) Ω):aF prog w B l (.ref 408) [.int (enc r)] Q Ω:=by
 refine vU bf ?_;obtain⟨h1,h2,h3⟩:=hs;have e:=yT ⟨h1,h2,h3⟩;have b:0≤enc r∧enc r<4096+256:=by unfold enc;exact⟨VK h3,VL h1 h2⟩
 refine⟨.int (enc r),rfl,eY (by decide) (by decide) (iX (VM b.1 b.2) (J5) ⟨.int (enc r),rfl,eu (by decide) (by decide) (iX (P7) (JY) (aI ⟨.int (enc r),rfl,eY (by decide) (by decide) (eu (by decide) (by decide) (aI ?_))⟩))⟩)⟩;show Q (.int (enc r/256*256+enc r%16*16+enc r/16%16)) Ω;rw[e];exact hq
theorem yX(bf:BF prog w B){r u:Rn}(hs:mV r)(hu:mV u)(hq:Q (.bool (decide (Ah r u))) Ω):aF prog w B l (.ref 415) [.int (enc r), .int (enc u)] Q Ω:=by
 refine yG bf ?_;have e:=Bl hs hu;refine⟨.int (enc r),rfl,eY (by decide) (by decide) (cS ?_)⟩;refine⟨.int (enc r),rfl,eY (by decide) (by decide) (eu (by decide) (by decide) ⟨.int (16-enc r/256),rfl,aI ⟨.int (enc u),rfl,eY (by decide) (by decide) (eu (by decide) (by decide) (DB ?_))⟩⟩)⟩
 by_cases q:enc r/16%16+(16-enc r/256)≤enc u/16%16
 ·refine bu (bN (by simpa using q) ?_)
  refine⟨.int (enc r),rfl,eu (by decide) (by decide) ⟨.int (16-enc r/256),rfl,aI ⟨.int (enc u),rfl,eu (by decide) (by decide) (DB ?_)⟩⟩⟩;show Q (.bool (decide (_))) Ω;rw[show decide (enc r%16+(16-enc r/256)≤enc u%16)=decide (Ah r u)from decide_eq_decide.mpr ⟨λh=>e.mp ⟨q,h⟩,λh=>(e.mpr h).2⟩];exact hq
 ·refine bu (aM (by simpa using q) ?_)
  show Q (.bool (decide (_))) Ω;rw[show decide (enc r/16%16+(16-enc r/256)≤enc u/16%16)=decide (Ah r u)from decide_eq_decide.mpr ⟨λh=>absurd h q,λh=>(e.mpr h).1⟩];exact hq
inductive MV(Ω:aa)(h r:Addr)(xs:List Int)(n:Nat)(st:St):Prop
 |mk (ks:List Int) (zs:List Int) (ep:Nat) (q1:st.m .heap=some (.ref h)) (q2:st.m .worths=some (.ref r)) (q3:st.m .left=some (.int zs.length)) (q4:n=zs.length) (q5:st.Ω h=some (.list (av zs))) (q6:st.Ω r=some (.dict ep (wL ks zs.length))) (q7:Ext Ω st.Ω) (q8:(ks++zs).Perm xs) (q9:cN 0 zs) (q10:ks.Pairwise (·<·)) (q11:(∀k∈ks,∀z∈zs,k<z)):MV Ω h r xs n st
theorem mZ(bf:BF prog w B)(bT:l<58){p:Addr}{xs:List Int}(hp:Ω p=some (.list (av xs)))(hn:xs.Nodup)(hl:xs.length≤60)
  (hq:∀r az ep ks,Ext Ω az→Ω r=none→az r=some (.dict ep (wL ks 0))→ks.Perm xs→ks.Pairwise (·<·)→Q (.ref r) az):aF prog w B l (.ref 422) [.ref p] Q Ω:=by
 have hlim:xs.length<lim:=by unfold lim;exact Nat.lt_of_le_of_lt hl (by decide)
 refine vV bf ?_;refine⟨.ref p,rfl,Bp hp (by rw[aq];exact hlim) λh hh=>?_⟩;refine⟨.ref h,rfl,aR (by decide) (JF bT) (ug bf (Nat.succ_lt_succ bT) aa.set_same hlim λys y1 y2=>?_)⟩;rw[aa.set_set];intro r hr;have uA:p≠h:=aE hp hh;have Oh:r≠h:=λq=>by
  have hr:(Ω.set h (.list (av ys))) r=none:=hr;rw[q,aa.set_same]at hr;cases hr
 have hr0:Ω r=none:=by
  have hr:(Ω.set h (.list (av ys))) r=none:=hr;rw[aa.ai Oh]at hr;exact hr
 refine⟨.ref p,rfl,cj (xs:=xs) ?_ hlim ?_⟩
 ·show ((Ω.set h _).set r _) p=_
  rw[aa.ai (aE hp hr0),aa.ai uA];exact hp
 refine f9 (I:=MV Ω h r xs) ?_ (n:=xs.length) ⟨[],ys,0,rfl,rfl,?_,y1.length_eq.symm,?_,?_,?_,y1,y2,List.Pairwise.nil,by simp⟩
 ·intro n aH K bB hK;obtain⟨m,az⟩:=aH;obtain⟨ks,zs,ep,a1,a2,a3,a4,a5,a6,a7,a8,a9,IV,Fv⟩:=bB
  dsimp only at a1 a2 a3 a5 a6 a7;have hlen:=a8.length_eq;rw[List.length_append]at hlen
  by_cases hz:0<zs.length
  ·refine⟨_,a3,cmp_gt (bN (by simp;exact hz) ?_)⟩
   refine⟨_,a3,zQ ?_⟩;refine⟨_,rfl,Fj (VN hz) (VO hlen hl) ?_⟩;refine⟨_,a2,_,a1,aR (by decide) (JF bT) (uf bf (Nat.succ_lt_succ bT) a5 (by intro q;rw[q]at hz;simp at hz) (Sf hlen hlim) a9 λx zs' z1 z2 z3=>?_)⟩;have zl:=z1.length_eq;rw[List.length_cons]at zl;have hnd:(ks++(x::zs')).Nodup:=by
    have h1:(ks++zs).Nodup:=a8.symm.nodup hn;exact((z1.append_left ks).symm).nodup h1
   have hxk:x∉ks:=λq=>by
    have:=(List.nodup_append.mp hnd).2.2 x q x (List.mem_cons_self ..);exact this rfl
   have hxz:x∉zs':=by
    have:=(List.nodup_append.mp hnd).2.1;exact(List.nodup_cons.mp this).1
   have hrd:(az.set h (.list (av zs'))) r=some (.dict ep (wL ks zs.length)):=by rw[aa.ai Oh];exact a6
   refine cO hrd (by rw[pY];exact Sg hlen hlim) λcK=>?_
   rw[iL (by rw[kj];exact hxk)];refine hK (n-1) (Sh a4 hz) _ ⟨ks++[x],zs',cK,a1,a2,?_,Si zl a4,?_,?_,?_,?_,z3,?_,?_⟩
   ·show some (af.int _)=some (af.int _)
    congr 2;exact Lh zl
   ·show ((az.set h _).set r _) h=_
    rw[aa.ai (Ne.symm Oh),aa.set_same]
   ·show ((az.set h _).set r _) r=_
    rw[aa.set_same,wc,←zl]
    congr 5
    have:((zs'.length+1:Nat):Int)-1=(zs'.length:Nat):=Li;rw[this,Int.toNat_natCast];exact congrArg af.int (by rw[Int.natCast_pow];rfl)
   ·exact(a7.upd hh).upd hr0
   ·rw[List.append_assoc];exact(z1.append_left ks).trans a8
   ·rw[List.pairwise_append]
    refine⟨IV,by simp,λk hk y hy=>?_⟩;rw[List.mem_singleton]at hy;subst hy;exact Fv k hk y (z1.mem_iff.mp (List.mem_cons_self ..))
   ·intro k hk z hz'
    rcases List.mem_append.mp hk with hk|hk
    ·exact Fv k hk z (z1.mem_iff.mp (List.mem_cons_of_mem _ hz'))
    ·rw[List.mem_singleton]at hk
     subst hk;have:=z2 z hz';have:k≠z:=λq=>hxz (q▸hz')
     exact VQ (by assumption) this
  ·refine⟨_,a3,cmp_gt (aM (decide_eq_false (VS hz)) ?_)⟩
   have hz0:zs=[]:=List.eq_nil_of_length_eq_zero (Sj hz);subst hz0;rw[List.append_nil]at a8;exact⟨_,a2,hq r az ep ks a7 hr0 a6 a8 IV⟩
 ·show some (af.int _)=some (af.int _)
  rw[y1.length_eq]
 ·show ((Ω.set h _).set r _) h=_
  rw[aa.ai (Ne.symm Oh),aa.set_same]
 ·exact aa.set_same
 ·exact((Ext.refl Ω).upd hh).upd hr0
end
end
section
open PySem PySem.W PyProof.Rows
noncomputable def sf(a b:List Int)(p x:Nat):Nat→Nat→Nat
 |0,aj=>0
 |aj+1,0=>0
 |i+1,j+1=>if p≤i∧x≤j∧a[i]?=b[j]? then sf a b p x i j+1 else 0
theorem GY(a b p x j):sf a b p x 0 j=0:=rfl
theorem GZ(a b p x i):sf a b p x (i+1) 0=0:=rfl
theorem yY(a b p x i j):sf a b p x (i+1) (j+1)=if p≤i∧x≤j∧a[i]?=b[j]? then sf a b p x i j+1 else 0:=rfl
theorem pZ(a b:List Int)(p x:Nat):∀(i j:Nat),sf a b p x i j≤i∧sf a b p x i j≤j
 |0,aj=>by simp[GY,GZ,yY]
 |aj+1,0=>by simp[GY,GZ,yY]
 |i+1,j+1=>by
  rw[yY];have:=pZ a b p x i j
  split<;>omega
theorem p7(a b:List Int)(p x:Nat):∀(i j s:Nat),i≤a.length→j≤b.length→0<s→(s≤sf a b p x i j↔p+s≤i∧x+s≤j∧Mt a b (i-s) (j-s) s)
 |0,j,s,hi,hj,hs=>by simp only[GY,GZ,yY];omega
 |i+1,0,s,hi,hj,hs=>by simp only[GY,GZ,yY];omega
 |i+1,j+1,s,hi,hj,hs=>by
  rw[yY];cases s with
  |zero=>exact(JU hs).elim
  |succ s=>
   have e1:i+1-(s+1)=i-s:=NQ;have e2:j+1-(s+1)=j-s:=NQ;rw[e1,e2]
   by_cases hc:p≤i∧x≤j∧a[i]?=b[j]?
   ·rw[if_pos hc]
    by_cases h0:s=0
    ·subst h0
     refine⟨λaj=>⟨Nat.succ_le_succ hc.1,Nat.succ_le_succ hc.2.1,JV hi,JV hj,λk hk=>?_⟩,λaj=>by exact Nat.le_add_left _ _⟩;have:k=0:=PG hk;subst this;exact hc.2.2
    ·have ih:=p7 a b p x i j s (O3 hi) (O3 hj) (Nat.pos_of_ne_zero h0)
     rw[Nat.add_le_add_iff_right,ih]
     constructor
     ·intro aH;obtain⟨h1,h2,h3,h4,h5⟩:=aH
      refine⟨JW h1,JW h2,KZ hi h1,KZ hj h2,λk hk=>?_⟩
      by_cases q:k<s
      ·exact h5 k q
      ·have:k=s:=J8 hk q
       subst this;have e3:i-k+k=i:=K2 h1;have e4:j-k+k=j:=K2 h2;rw[e3,e4];exact hc.2.2
     ·intro aH;obtain⟨h1,h2,h3,h4,h5⟩:=aH
      exact⟨JX h1,JX h2,K3 hi h1,K3 hj h2,λk hk=>h5 k (HB hk)⟩
   ·rw[if_neg hc]
    constructor
    ·intro h;exact⟨K4 h,K4 h,(PI h).elim⟩
    ·intro aH;obtain⟨h1,h2,h3,h4,h5⟩:=aH
     exfalso
     apply hc
     have:=h5 s (F1);have e3:i-s+s=i:=K5 h1;have e4:j-s+s=j:=K5 h2;rw[e3,e4]at this;exact⟨K6 h1,K6 h2,this⟩
noncomputable def col(a b:List Int)(j i:Nat):List Rn:=(List.range (sf a b 0 0 (i+1) (j+1))).map λs=>⟨i-s,j-s,s+1⟩
noncomputable def frs(a b:List Int)(j:Nat):Nat→List Rn
 |0=>[]
 |i+1=>frs a b j i++col a b j i
theorem yZ(a b j):frs a b j 0=[]:=rfl
theorem zb(a b j i):frs a b j (i+1)=frs a b j i++col a b j i:=rfl
noncomputable def zc(a b:List Int):Nat→List Rn
 |0=>[]
 |j+1=>zc a b j++frs a b j a.length
theorem Bs(a b):zc a b 0=[]:=rfl
theorem Bt(a b j):zc a b (j+1)=zc a b j++frs a b j a.length:=rfl
theorem zU{a b:List Int}{j i:Nat}(hi:i<a.length)(hj:j<b.length){r:Rn}:r∈col a b j i↔Run a b r∧r.i+r.s=i+1∧r.j+r.s=j+1:=by
 unfold col;rw[List.mem_map];have hle:=pZ a b 0 0 (i+1) (j+1)
 constructor
 ·intro aH;obtain⟨s,hs,rfl⟩:=aH
  rw[List.mem_range]at hs;have:=(p7 a b 0 0 (i+1) (j+1) (s+1) (JL hi) (JL hj) (JK)).mp (JL hs);have e1:i+1-(s+1)=i-s:=NQ;have e2:j+1-(s+1)=j-s:=NQ;rw[e1,e2]at this;exact⟨⟨by simp,this.2.2⟩,by simp only;exact K7 hle.1 hs,by simp only;exact K7 hle.2 hs⟩
 ·intro aH;obtain⟨⟨h0,h1⟩,h2,h3⟩:=aH
  have:=(p7 a b 0 0 (i+1) (j+1) r.s (JL hi) (JL hj) h0).mpr ⟨K8 h2,K8 h3,by
   have e1:i+1-r.s=r.i:=NS h2;have e2:j+1-r.s=r.j:=NS h3;rw[e1,e2];exact h1⟩
  refine⟨r.s-1,List.mem_range.mpr (Vb this h0),Rn.ext' ?_ ?_ ?_⟩<;>simp only<;>omega
theorem nO{a b:List Int}{j:Nat}(hj:j<b.length){r:Rn}:∀{i:Nat},i≤a.length→(r∈frs a b j i↔Run a b r∧r.i+r.s≤i∧r.j+r.s=j+1)
 |0,aj=>by
  simp only[yZ,zb,List.not_mem_nil,false_iff];intro aH;obtain⟨h1,h2,h3⟩:=aH;have:=h1.1;exact K9 h2 this
 |i+1,hi=>by
  simp only[yZ,zb,List.mem_append];rw[nO hj (i:=i) (O3 hi),zU (JM hi) hj]
  constructor
  ·rintro (⟨h1,h2,h3⟩|⟨h1,h2,h3⟩)
   ·exact⟨h1,F2 h2,h3⟩
   ·exact⟨h1,Nat.le_of_eq h2,h3⟩
  ·intro aH;obtain⟨h1,h2,h3⟩:=aH
   by_cases q:r.i+r.s≤i
   ·exact .inl ⟨h1,q,h3⟩
   ·exact .inr ⟨h1,La h2 q,h3⟩
theorem uh{a b:List Int}{r:Rn}:∀{j:Nat},j≤b.length→(r∈zc a b j↔Run a b r∧r.j+r.s≤j)
 |0,aj=>by
  simp only[Bs,Bt,List.not_mem_nil,false_iff];intro aH;obtain⟨h1,h2⟩:=aH;have:=h1.1;exact K9 h2 this
 |j+1,hj=>by
  simp only[Bs,Bt,List.mem_append];rw[uh (j:=j) (O3 hj),nO (JM hj) (Nat.le_refl _)]
  constructor
  ·rintro (⟨h1,h2⟩|⟨h1,h2,h3⟩)
   ·exact⟨h1,F2 h2⟩
   ·exact⟨h1,Nat.le_of_eq h3⟩
  ·intro aH;obtain⟨h1,h2⟩:=aH
   by_cases q:r.j+r.s≤j
   ·exact .inl ⟨h1,q⟩
   ·exact .inr ⟨h1,h1.2.1,La h2 q⟩
theorem zd{a b:List Int}{j i:Nat}:(col a b j i).length≤i+1:=by
 have:=pZ a b 0 0 (i+1) (j+1);simp only[col,List.length_map,List.length_range];exact this.1
theorem jE{a b:List Int}{j:Nat}:∀{i:Nat},i≤7→(frs a b j i).length≤8*i
 |0,aj=>by simp[yZ,zb]
 |i+1,h=>by
  have:=jE (a:=a) (b:=b) (j:=j) (i:=i) (Nat.le_of_succ_le h);have:=zd (a:=a) (b:=b) (j:=j) (i:=i);simp only[yZ,zb,List.length_append];exact Vc h (by assumption) this
theorem we(n:Nat):(List.range n).Nodup:=List.nodup_range
theorem Bu{a b:List Int}{j i:Nat}:(col a b j i).Nodup:=by
 refine eo (λx aj y aj h=>?_) (we _);have:=congrArg Rn.s h;simp only at this;exact Nat.succ.inj this
theorem sd{a b:List Int}{j:Nat}(hj:j<b.length):∀{i:Nat},i≤a.length→(frs a b j i).Nodup
 |0,aj=>by simp[yZ,zb]
 |i+1,hi=>by
  simp only[yZ,zb];rw[List.nodup_append];refine⟨sd hj (O3 hi),Bu,λx hx y hy e=>?_⟩;have h1:=(nO hj (O3 hi)).mp hx;have h2:=(zU (JM hi) hj).mp hy;subst e;exact Lb h2.2.1 h1.2.1
theorem se{a b:List Int}:∀{j:Nat},j≤b.length→(zc a b j).Nodup
 |0,aj=>by simp[Bs,Bt]
 |j+1,hj=>by
  simp only[Bs,Bt];rw[List.nodup_append];refine⟨se (O3 hj),sd (JM hj) (Nat.le_refl _),λx hx y hy e=>?_⟩;have h1:=(uh (O3 hj)).mp hx;have h2:=(nO (JM hj) (Nat.le_refl _)).mp hy;subst e;exact Lb h2.2.2 h1.2
theorem DQ{a b:List Int}{J:Nat}(hJ:J≤b.length){r:Rn}:Run a (b.take J) r↔Run a b r∧r.j+r.s≤J:=by
 unfold Run Mt;rw[List.length_take,Nat.min_eq_left hJ]
 constructor
 ·intro aH;obtain⟨h1,h2,h3,h4⟩:=aH
  refine⟨⟨h1,h2,OU h3 hJ,λk hk=>?_⟩,h3⟩;rw[h4 k hk,List.getElem?_take,if_pos (Lc h3 hk)]
 ·intro aH;obtain⟨⟨h1,h2,h3,h4⟩,h5⟩:=aH
  refine⟨h1,h2,h5,λk hk=>?_⟩;rw[h4 k hk,List.getElem?_take,if_pos (Lc h5 hk)]
theorem DR{a b:List Int}{J:Nat}(hJ:J≤b.length)(r:Rn):r∈zc a b J↔Run a (b.take J) r:=by
 rw[uh hJ,DQ hJ]
noncomputable def tab(n:Nat)(f:Nat→Nat):List Int:=(List.range n).map λk=>((f k:Nat):Int)
theorem bw(n:Nat)(f:Nat→Nat):(tab n f).length=n:=by simp[tab]
theorem kq{n:Nat}{f:Nat→Nat}{k:Nat}(h:k<n):(tab n f).getD k 0=(f k:Nat):=by
 unfold tab;rw[List.getD_eq_getElem?_getD,List.getElem?_map,List.getElem?_range h];rfl
theorem kr{n:Nat}{f g:Nat→Nat}(h:∀k,k<n→f k=g k):tab n f=tab n g:=by
 unfold tab;exact List.map_congr_left λk hk=>by rw[h k (List.mem_range.mp hk)]
theorem Fy{n:Nat}{f:Nat→Nat}{p v:Nat}(hp:p<n):(tab n f).set p (v:Int)=tab n (λk=>if k=p then v else f k):=by
 apply List.ext_getElem?
 intro k;unfold tab;rw[List.getElem?_set,List.getElem?_map,List.getElem?_map,List.length_map,List.length_range]
 by_cases q:p=k
 ·subst q
  rw[if_pos rfl,if_pos hp,List.getElem?_range hp];simp
 ·rw[if_neg q]
  by_cases hk:k<n
  ·rw[List.getElem?_range hk]
   have:k≠p:=λe=>q e.symm
   simp[this]
  ·rw[List.getElem?_eq_none (by simp;exact O2 hk)];rfl
theorem DS(n:Nat):List.replicate n (0:Int)=tab n λaj=>0:=by
 unfold tab
 apply List.ext_getElem?
 intro k;rw[List.getElem?_map,List.getElem?_replicate]
 by_cases q:k<n
 ·rw[if_pos q,List.getElem?_range q];rfl
 ·rw[if_neg q,List.getElem?_eq_none (by simp;exact O2 q)];rfl
theorem wg(n:Nat)(f:Nat→Nat):tab (n+1) f=tab n f++[((f n:Nat):Int)]:=by
 unfold tab;rw[List.range_succ,List.map_append];rfl
end
section
open PySem PySem.W PyProof.Rows PySem.Calls
theorem dH{xs ys:List Int}:av xs++av ys=av (xs++ys):=by simp[av]
theorem cF{xs:List Int}{v:Int}:av xs++[.int v]=av (xs++[v]):=by simp[av]
theorem ly{xs:List Int}{n:Nat}:(av xs).take n=av (xs.take n):=by simp[av,List.map_take]
theorem getD_eq{a b:List Int}{i j:Nat}(hi:i<a.length)(hj:j<b.length):a[i]?=b[j]?↔a.getD i 0=b.getD j 0:=by
 rw[List.getD_eq_getElem?_getD,List.getD_eq_getElem?_getD,List.getElem?_eq_getElem hi,List.getElem?_eq_getElem hj];simp
section
variable{prog:Program}{w:World}{B:Addr→Option Obj}{Ω:aa}{l:Nat}{Q:af→aa→Prop}
theorem Fz{p:Addr}{n:Int}{x:af}{R:af→aa→Prop}(hp:Ω p=some (.list [x]))(h1:0≤n)(h2:n<1000)(h:∀r,Ω r=none→R (.ref r) (Ω.set r (.list (List.replicate n.toNat x)))):nU .Mult (.ref p) (.int n) R Ω:=by
 exact .rep hp h1 h2 h
theorem p9{v:V}{p:Addr}{xs:List Int}{st:St}{R:af→St→Prop}(hm:st.m v=some (.ref p))(hp:st.Ω p=some (.list (av xs)))(hl:xs.length<900)
  (h:∀r az,Ext st.Ω az→st.Ω r=none→az r=some (.list (av (tab (xs.length+1) λaj=>0)))→R (.ref r) ⟨st.m,az⟩):ev prog w B l (times (.fP (.int 0)) (plus (len (.var v)) (.int 1))) R st:=by
 intro r0 h0;refine⟨_,hm,cj (au hp h0) (by unfold lim;exact Nat.lt_add_left _ hl) (aX (aI (Fz aa.set_same (Pr) (VY hl) λr hr=>?_)))⟩;have hx:Ext st.Ω ((st.Ω.set r0 (.list [.int 0])).set r (.list (List.replicate ((xs.length:Int)+1).toNat (.int 0)))):=(Ext.fresh h0).then hr;refine h r _ hx ((Ext.fresh h0).none hr) ?_;rw[aa.set_same];have e:((xs.length:Int)+1).toNat=xs.length+1:=Pu;rw[e,←DS];simp[av]
structure RI(Ω:aa)(p q pr pb ph pf:Addr)(a b:List Int)(j i:Nat)(fl:List Rn)(st:St):Prop where
 one:st.m .one=some (.ref p)
 other:st.m .other=some (.ref q)
 runs:st.m .runs=some (.ref pr)
 before:st.m .before=some (.ref pb)
 here:st.m .here=some (.ref ph)
 fresh:st.m .fresh=some (.ref pf)
 jj:st.m .j=some (.int j)
 ext:Ext Ω st.Ω
 hr:st.Ω pr=some (.list (av ((zc a b j).map enc)))
 hb:st.Ω pb=some (.list (av (tab (a.length+1) λk=>sf a b 0 0 k j)))
 hh:st.Ω ph=some (.list (av (tab (a.length+1) λk=>if k≤i then sf a b 0 0 k (j+1)else 0)))
 hf:st.Ω pf=some (.list (av (fl.map enc)))
theorem FA{v u:V}{p:Addr}{xs:List Int}{k:Nat}{st:St}{R:af→St→Prop}(hm:st.m v=some (.ref p))(hu:st.m u=some (.int k))(hk:k<1000)(hp:st.Ω p=some (.list (av xs)))(hl:xs.length<lim)
  (h:∀r,st.Ω r=none→R (.ref r) {st with Ω:=st.Ω.set r (.list (av (xs.take k)))}):ev prog w B l (.upto (.var v) (.var u)) R st:=by
 refine⟨_,hm,_,hu, .here hp (NI) (VZ hk) (by rw[aq];exact hl) λr hr=>?_⟩;rw[Int.toNat_natCast,ly];exact h r hr
inductive MW(Ω:aa)(p q pr:Addr)(a b:List Int)(j:Nat)(st:St):Prop
 |mk (pb:Addr) (q1:st.m .one=some (.ref p)) (q2:st.m .other=some (.ref q)) (q3:st.m .runs=some (.ref pr)) (q4:st.m .before=some (.ref pb)) (q5:Ext Ω st.Ω) (q6:st.Ω pr=some (.list (av ((zc a b j).map enc)))) (q7:st.Ω pb=some (.list (av (tab (a.length+1) λk=>sf a b 0 0 k j)))) (q8:pb≠pr) (q9:(zc a b j).length≤20):MW Ω p q pr a b j st
theorem Bv(bf:BF prog w B)(bT:l<58){p q:Addr}{a b:List Int}(hp:Ω p=some (.list (av a)))(jG:Ω q=some (.list (av b)))(ha:a.length≤7)(hb:b.length≤7)
  (hq:∀t r o J az,Ext Ω az→Ω r=none→J≤b.length→(zc a b J).length≤20→az t=some (.tup [.ref r, .ref o])→az r=some (.list (av ((zc a b J).map enc)))→az o=some (.list (av (b.take J)))→Q (.ref t) az):aF prog w B l (.ref 401) [.ref p, .ref q] Q Ω:=by
 refine Bf bf ?_;intro pr h1;have e1:Ext Ω (Ω.set pr (.list [])):= .fresh h1;refine p9 (p:=p) (xs:=a) rfl (e1 _ _ hp) (OX ha) λpb bA e2 h2 h3=>?_
 have YZ:Ext Ω bA:=e1.trans e2;have Xy:bA pr=some (.list []):=e2 _ _ aa.set_same;refine⟨.ref q,rfl,cj (YZ _ _ jG) (by unfold lim;exact O4 hb) ?_⟩;refine⟨Le,Vn hb,?_⟩;refine iY b.length (Vo) (I:=MW Ω p q pr a b) ?_ ?_ ?_
 ·intro j aH K hj bB hK;obtain⟨m,dB⟩:=aH;obtain⟨pb,a1,a2,a3,a4,a5,a6,a7,a8,a9⟩:=bB
  dsimp only at a1 a2 a3 a4 a5 a6 a7;have ej:(0:Int)+j*1=j:=Vp;rw[ej];refine p9 (p:=p) (xs:=a) a1 (a5 _ _ hp) (OX ha) λph cV e3 h4 h5=>?_
  intro pf h6;have e4:Ext cV (cV.set pf (.list [])):= .fresh h6;have MY:pr≠ph:=aE a6 h4;have hbp:pb≠ph:=aE a7 h4;have Oi:pr≠pf:=aE (e3 _ _ a6) h6;have hbf:pb≠pf:=aE (e3 _ _ a7) h6;have Y0:ph≠pf:=aE h5 h6;have nh:Ω ph=none:=a5.none h4;have nf:Ω pf=none:=(a5.trans e3).none h6;refine⟨.ref p,a1,cj ((a5.trans e3).trans e4 _ _ hp) (by unfold lim;exact O4 ha) ?_⟩;refine⟨Le,Vn ha,?_⟩;refine iY a.length (Vo) (I:=λi st=>RI Ω p q pr pb ph pf a b j i (frs a b j i) st) ?_ ?_ ?_
  ·intro i aH K' hi ri wM;obtain⟨m,gf⟩:=aH
   have ei:(0:Int)+i*1=i:=Vp;rw[ei];have hip:=ri.ext _ _ hp;have hiq:=ri.ext _ _ jG;refine⟨.ref p,ri.one, .int i,rfl,idx_int hip hi (by unfold lim;exact O4 ha) ?_⟩;refine⟨.ref q,ri.other, .int j,ri.jj,idx_int hiq hj (by unfold lim;exact O4 hb) ?_⟩
   by_cases hc:a.getD i 0=b.getD j 0
   ·refine dY (bN (by simpa using hc) ?_)
    have hs1:sf a b 0 0 (i+1) (j+1)=sf a b 0 0 i j+1:=by
     rw[yY];rw[if_pos ⟨Nat.zero_le _,Nat.zero_le _,(getD_eq hi hj).mpr hc⟩]
    have hle:=pZ a b 0 0 i j;refine⟨.ref pb,ri.before, .int i,rfl,idx_int ri.hb (by rw[bw];exact HB hi) (by rw[bw];unfold lim;exact Jj ha) ?_⟩;rw[kq (HB hi)];refine aI ⟨.ref ph,ri.here, .int i,rfl,aX (aI (mW (i:=i+1) ri.hh (JJ) (by rw[bw];exact Jg hi) (by rw[bw];unfold lim;exact Jj ha) ?_))⟩;have ev1:((sf a b 0 0 i j:Nat):Int)+1=(sf a b 0 0 (i+1) (j+1):Nat):=by rw[hs1];exact JJ
    rw[ev1,Fy (Jg hi)];have et:(tab (a.length+1) λk=>if k=i+1 then sf a b 0 0 (i+1) (j+1)else if k≤i then sf a b 0 0 k (j+1)else 0)=tab (a.length+1) λk=>if k≤i+1 then sf a b 0 0 k (j+1)else 0:=kr λk hk=>by
     by_cases q1:k=i+1
     ·subst q1;rw[if_pos rfl,if_pos (Nat.le_refl _)]
     ·by_cases q2:k≤i
      ·rw[if_neg q1,if_pos q2,if_pos (HA q2)]
      ·rw[if_neg q1,if_neg q2,if_neg (QD q1 q2)]
    rw[et];have Xv:(gf.set ph (.list (av (tab (a.length+1) λk=>if k≤i+1 then sf a b 0 0 k (j+1)else 0)))) ph=_:=aa.set_same;refine⟨.ref ph,ri.here, .int i,rfl,aX (aI (bY (i:=i+1) Xv (JJ) (by rw[bw];exact Jg hi) (by rw[bw];unfold lim;exact Jj ha) ?_))⟩;rw[kq (Jg hi),if_pos (Nat.le_refl _)];refine aI (Cn.mk (by decide) (by decide) (V9) (Wa hs1 hle.1 ha hi) ?_);refine iY (sf a b 0 0 (i+1) (j+1)) (Wc) (I:=λs st=>RI Ω p q pr pb ph pf a b j (i+1) (frs a b j i++(List.range s).map λs=>⟨i-s,j-s,s+1⟩) st∧st.m .i=some (.int i)) ?_ ?_ ?_
    ·intro s aH K'' hs bB Xz;obtain⟨m,zV⟩:=aH;obtain⟨ri,r2⟩:=bB
     refine⟨_,ri.fresh,_,aU ri.hf rfl,?_⟩;have hlen:(frs a b j i++(List.range s).map λs=>(⟨i-s,j-s,s+1⟩:Rn)).length<lim:=by
      have:=jE (a:=a) (b:=b) (j:=j) (i:=i) (Nat.le_of_lt (Nat.lt_of_lt_of_le hi ha));have:=pZ a b 0 0 (i+1) (j+1);rw[List.length_append,List.length_map,List.length_range];unfold lim;exact Td ha hi hs1 hle.1 hs (by assumption)
     have hsl:=pZ a b 0 0 (i+1) (j+1);refine⟨.int (1+s*1),rfl,cS (iX (Wd hs1 hle.1 ha hs hi) (J5) ⟨.int i,r2,aI ⟨.int (1+s*1),rfl,cS (iX (We hs1 hle.1 ha hi hs) (JY) (aI ⟨.int j,ri.jj,aI ⟨.int (1+s*1),rfl,cS (aI (aY ri.hf ?_ ?_))⟩⟩))⟩⟩)⟩
     ·rw[aq,List.length_map];exact hlen
     ·rw[cF]
      refine Xz _ ⟨⟨ri.one,ri.other,ri.runs,ri.before,ri.here,ri.fresh,ri.jj,ri.ext.upd nf,?_,?_,?_,?_⟩,r2⟩
      ·show (zV.set pf _) pr=_;rw[aa.ai Oi];exact ri.hr
      ·show (zV.set pf _) pb=_;rw[aa.ai hbf];exact ri.hb
      ·show (zV.set pf _) ph=_;rw[aa.ai Y0];exact ri.hh
      ·show (zV.set pf _) pf=_
       rw[aa.set_same,List.range_succ];simp only[List.map_append,List.map_cons,List.map_nil,List.append_assoc]
       congr 6
       unfold enc;simp only;exact Qc hs1 hle.1 hle.2 hs
    ·intro aH bB;obtain⟨m,zV⟩:=aH;obtain⟨ri,r2⟩:=bB
     exact wM _ ri
    ·refine⟨⟨ri.one,ri.other,ri.runs,ri.before,ri.here,ri.fresh,ri.jj,ri.ext.upd nh,?_,?_,Xv,?_⟩,rfl⟩
     ·show (gf.set ph _) pr=_;rw[aa.ai MY];exact ri.hr
     ·show (gf.set ph _) pb=_;rw[aa.ai hbp];exact ri.hb
     ·show (gf.set ph _) pf=_;rw[aa.ai (Ne.symm Y0)];rw[List.range_zero,List.map_nil,List.append_nil];exact ri.hf
   ·refine dY (aM (by simpa using hc) ?_)
    have hs0:sf a b 0 0 (i+1) (j+1)=0:=by
     rw[yY];rw[if_neg λz=>hc ((getD_eq hi hj).mp z.2.2)]
    refine wM _ ⟨ri.one,ri.other,ri.runs,ri.before,ri.here,ri.fresh,ri.jj,ri.ext,ri.hr,ri.hb,?_,?_⟩
    ·refine ri.hh.trans ?_
     congr 3
     refine kr λk hk=>?_
     by_cases q2:k≤i
     ·rw[if_pos q2,if_pos (HA q2)]
     ·by_cases q1:k=i+1
      ·subst q1;rw[if_neg q2,if_pos (Nat.le_refl _),hs0]
      ·rw[if_neg q2,if_neg (QD q1 q2)]
    ·refine ri.hf.trans ?_
     simp only[yZ,zb,col,hs0,List.range_zero,List.map_nil,List.append_nil]
  ·intro aH ri;obtain⟨m,gf⟩:=aH
   have hfl:(frs a b j a.length).length<lim:=by
    have:=jE (a:=a) (b:=b) (j:=j) (i:=a.length) ha;unfold lim;exact Te this ha
   refine⟨.ref pr,ri.runs,cj ri.hr (by rw[List.length_map];unfold lim;exact F0 a9) ?_⟩;refine⟨.ref pf,ri.fresh,cj ri.hf (by rw[List.length_map];exact hfl) ?_⟩;rw[List.length_map,List.length_map]
   by_cases hc:20<(zc a b j).length+(frs a b j a.length).length
   ·refine aI (aX (cmp_gt (bN (by simp;exact Pw hc) ?_)))
    refine⟨.ref pr,ri.runs,FA ri.other ri.jj (Nat.lt_of_lt_of_le (Nat.lt_of_lt_of_le hj hb) (by decide)) (ri.ext _ _ jG) (by unfold lim;exact O4 hb) λo ho t ht=>?_⟩;refine hq t pr o j _ ((ri.ext.then ho).then ht) h1 (OW hj) a9 aa.set_same (au (au ri.hr ho) ht) (au aa.set_same ht)
   ·refine aI (aX (cmp_gt (aM (by simp;exact Wf hc) ?_)))
    refine⟨.ref pr,ri.runs,_,aU ri.hr rfl, .ref pf,ri.fresh,v9 Oi ri.hr ri.hf (by rw[aq,List.length_map];unfold lim;exact F0 a9) (by rw[aq,List.length_map];exact hfl) ?_⟩;refine⟨.ref ph,ri.here,?_⟩;refine hK _ ⟨ph,ri.one,ri.other,ri.runs,rfl,ri.ext.upd h1,?_,?_,Ne.symm MY,?_⟩
    ·show (gf.set pr _) pr=_
     rw[aa.set_same,dH,←List.map_append];rfl
    ·show (gf.set pr _) ph=_
     refine(aa.ai (Ne.symm MY)).trans (ri.hh.trans ?_)
     congr 3
     exact kr λk hk=>by rw[if_pos (OZ hk)]
    ·simp only[Bs,Bt,List.length_append];exact Nat.le_of_not_lt hc
  ·refine⟨a1,a2,a3,a4,rfl,rfl,rfl,(a5.trans e3).trans e4,(e3.trans e4) _ _ a6,(e3.trans e4) _ _ a7,?_,?_⟩
   ·refine(e4 _ _ h5).trans ?_
    congr 3
    refine kr λk hk=>?_
    by_cases q:k≤0
    ·have:k=0:=Nat.eq_zero_of_le_zero q
     subst this;rw[if_pos (Nat.le_refl _)];simp[GY,GZ,yY]
    ·rw[if_neg q]
   ·exact aa.set_same
 ·intro aH bB;obtain⟨m,dB⟩:=aH;obtain⟨pb,a1,a2,a3,a4,a5,a6,a7,a8,a9⟩:=bB
  refine⟨.ref pr,a3, .ref q,a2,λt ht=>?_⟩;exact hq t pr q b.length _ (a5.then ht) h1 (Nat.le_refl _) a9 aa.set_same (au a6 ht) (by rw[List.take_length];exact(a5.then ht) _ _ jG)
 ·refine⟨pb,rfl,rfl,rfl,rfl,YZ,Xy,?_,Ne.symm (aE aa.set_same h2),by simp[Bs,Bt]⟩
  refine h3.trans ?_
  congr 3
  exact kr λk hk=>by cases k<;>simp[GY,GZ,yY]
theorem Bw{x y:Int}(h:Q (.int (max x y)) Ω):aZ prog w B l (.builtin .max) [.int x, .int y] Q Ω:= .bi (.max2 h)
inductive MZ(Ω:aa)(q:Addr)(a b:List Int)(k:Nat)(st:St):Prop
 |mk (pr:Addr) (q1:st.m .other=some (.ref q)) (q2:st.m .row=some (.ref pr)) (q3:Ext Ω st.Ω) (q4:st.Ω pr=some (.list (av (tab (b.length+1) λj=>lcs a b k j)))):MZ Ω q a b k st
inductive M0(Ω:aa)(q pr pf:Addr)(a b:List Int)(k:Nat)(j:Nat)(st:St):Prop
 |mk (q1:st.m .other=some (.ref q)) (q2:st.m .row=some (.ref pr)) (q3:st.m .fresh=some (.ref pf)) (q4:st.m .x=some (.int (a.getD k 0))) (q5:Ext Ω st.Ω) (q6:st.Ω pr=some (.list (av (tab (b.length+1) λj=>lcs a b k j)))) (q7:st.Ω pf=some (.list (av (tab (j+1) λj=>lcs a b (k+1) j)))):M0 Ω q pr pf a b k j st
theorem um(bf:BF prog w B){p q:Addr}{a b:List Int}(hp:Ω p=some (.list (av a)))(jG:Ω q=some (.list (av b)))(ha:a.length≤7)(hb:b.length≤7)
  (hq:∀az,Ext Ω az→Q (.int (lcs a b a.length b.length:Nat)) az):aF prog w B l (.ref 439) [.ref p, .ref q] Q Ω:=by
 refine tX bf ?_;refine p9 (p:=q) (xs:=b) rfl jG (OX hb) λpr bA e1 h1 h2=>?_
 have hp1:=e1 _ _ hp;refine⟨.ref p,rfl,?_⟩;refine rH.list hp1 ?_;refine ki (av a) (I:=MZ Ω q a b) ?_ ?_ ?_ ?_
 ·intro k aH bB;obtain⟨m,dB⟩:=aH;obtain⟨pr,a1,a2,a3,a4⟩:=bB;exact a3 _ _ hp
 ·intro k x aH K hx bB hK;obtain⟨m,dB⟩:=aH;obtain⟨pr,a1,a2,a3,a4⟩:=bB
  have hk:k<a.length:=by
   cases Nat.lt_or_ge k a.length with
   |inl h=>exact h
   |inr h=>rw[List.getElem?_eq_none (by rw[aq];exact h)]at hx;cases hx
  rw[pT hk]at hx;cases hx;intro pf hf;dsimp only at a1 a2 a3 a4;have hf:dB pf=none:=hf;have e2:Ext dB (dB.set pf (.list [.int 0])):= .fresh hf;have Oi:pr≠pf:=aE a4 hf;refine⟨.ref q,a1,cj ((a3.trans e2) _ _ jG) (by unfold lim;exact O4 hb) ?_⟩;refine⟨Le,Vn hb,?_⟩;refine iY b.length (Vo) (I:=M0 Ω q pr pf a b k) ?_ ?_ ?_
  ·intro j aH K' hj bB wM;obtain⟨m,cV⟩:=aH;obtain⟨b1,b2,b3,b4,b5,b6,b7⟩:=bB
   dsimp only at b1 b2 b3 b4 b5 b6 b7;have ej:(0:Int)+j*1=j:=Vp;rw[ej];have nf:Ω pf=none:=a3.none hf;have fin:∀v:Nat,v=lcs a b (k+1) (j+1)→∀m:eS,m .other=some (.ref q)→m .row=some (.ref pr)→m .fresh=some (.ref pf)→m .x=some (.int (a.getD k 0))→K' ⟨m,cV.set pf (.list (av (tab (j+1) λj=>lcs a b (k+1) j)++[.int (v:Nat)]))⟩:=λv hv m c1 c2 c3 c4=>by
    refine wM _ ⟨c1,c2,c3,c4,b5.upd nf,?_,?_⟩
    ·show (cV.set pf _) pr=_;rw[aa.ai Oi];exact b6
    ·show (cV.set pf _) pf=_
     rw[aa.set_same,cF,wg (j+1),hv]
   refine⟨_,b4, .ref q,b1, .int j,rfl,idx_int (b5 _ _ jG) hj (by unfold lim;exact O4 hb) ?_⟩
   by_cases hc:a.getD k 0=b.getD j 0
   ·refine dY (bN (by simpa using hc) ?_)
    have e:lcs a b (k+1) (j+1)=lcs a b k j+1:=by
     rw[j9];rw[if_pos ((getD_eq hk hj).mpr hc)]
    refine⟨.ref pf,b3,_,aU b7 rfl, .ref pr,b2, .int j,rfl,idx_int b6 (by rw[bw];exact HB hj) (by rw[bw];unfold lim;exact Jj hb) ?_⟩;rw[kq (HB hj)];refine aX (aI (aY b7 (by rw[aq,bw];unfold lim;exact OY hb hj) ?_));have:=fin (lcs a b k j+1) e.symm _ (show (m.set .j (.int j)) .other=_ from b1) b2 b3 b4;exact this
   ·refine dY (aM (by simpa using hc) ?_)
    have e:lcs a b (k+1) (j+1)=max (lcs a b k (j+1)) (lcs a b (k+1) j):=by
     rw[j9];rw[if_neg λz=>hc ((getD_eq hk hj).mp z)]
    refine⟨.ref pf,b3,_,aU b7 rfl, .ref pr,b2, .int j,rfl,aX (aI (bY (i:=j+1) b6 (JJ) (by rw[bw];exact Jg hj) (by rw[bw];unfold lim;exact Jj hb) ?_))⟩;rw[kq (Jg hj)];refine⟨.ref pf,b3, .int j,rfl,idx_int b7 (by rw[bw];exact F1) (by rw[bw];unfold lim;exact OY hb hj) ?_⟩;rw[kq (F1)];refine Bw (aY b7 (by rw[aq,bw];unfold lim;exact OY hb hj) ?_);have:=fin (max (lcs a b k (j+1)) (lcs a b (k+1) j)) e.symm _ (show (m.set .j (.int j)) .other=_ from b1) b2 b3 b4;rw[show max ((lcs a b k (j+1):Nat):Int) ((lcs a b (k+1) j:Nat):Int)=((max (lcs a b k (j+1)) (lcs a b (k+1) j):Nat):Int)from by exact P9];exact this
  ·intro aH bB;obtain⟨m,cV⟩:=aH;obtain⟨b1,b2,b3,b4,b5,b6,b7⟩:=bB
   refine⟨.ref pf,b3,?_⟩;exact hK _ ⟨pf,b1,rfl,b5,b7⟩
  ·refine⟨a1,a2,rfl,rfl,a3.trans e2,e2 _ _ a4,?_⟩
   show (dB.set pf _) pf=_;rw[aa.set_same];simp[tab,av,DI]
 ·intro aH bB;obtain⟨m,dB⟩:=aH;obtain⟨pr,a1,a2,a3,a4⟩:=bB
  rw[aq]at a4;refine⟨.ref pr,a2,?_⟩;refine .last a4 ?_ (by rw[aq,bw];unfold lim;exact Jj hb) (hq dB a3);rw[wg,←dH];simp[av]
 ·refine⟨pr,rfl,rfl,e1,h2.trans ?_⟩
  congr 3
theorem wh{p:Addr}{zs:List (Addr×Int×Int×Int)}(hp:Ω p=some (.list (refsOf zs)))(ht:bk .tup Ω zs)(hl:zs.length<64)(h:∀zs',zs'.Perm zs→dQ zs'→∀r,Ω r=none→Q (.ref r) (Ω.set r (.list (refsOf zs')))):aZ prog w B l (.builtin .sorted) [.ref p] Q Ω:= .bi (.sorted hp ht hl h)
theorem bk.ext{mk:List af→bI}{Ω az:aa}{zs:List (Addr×Int×Int×Int)}(h:bk mk Ω zs)(e:Ext Ω az):bk mk az zs:=λz hz=>e _ _ (h z hz)
inductive M1(Ω:aa)(p:Addr)(ks:List Int)(M:Nat)(k:Nat)(ys:List af)(st:St):Prop
 |mk (zs:List (Addr×Int×Int×Int)) (q1:ys=refsOf zs) (q2:st.m .worths=some (.ref p)) (q3:st.m .total=some (.int M)) (q4:Ext Ω st.Ω) (q5:bk .tup st.Ω zs) (q6:(∀z∈zs,Ω z.1=none)) (q7:zs.length≤k) (q8:zs.map (·.2)=((ks.take k).filter λt=>decide (M/wt ks t%2=1)).map nC):M1 Ω p ks M k ys st
theorem qa(bf:BF prog w B){p:Addr}{ep:Nat}{ks:List Int}{M:Nat}(hp:Ω p=some (.dict ep (wL ks 0)))(hk:ks.Pairwise (·<·))(hl:ks.length≤20)
  (hq:∀r az (zs:List (Addr×Int×Int×Int)),Ext Ω az→Ω r=none→az r=some (.list (refsOf zs))→bk .tup az zs→(∀z∈zs,Ω z.1=none)→zs.length≤20→(zs.map (·.2)).Perm ((ks.filter λt=>decide (M/wt ks t%2=1)).map nC)→(zs.map (·.2)).Pairwise (λx y=>dz y x=false)→Q (.ref r) az):aF prog w B l (.ref 427) [.ref p, .int M] Q Ω:=by
 refine yH bf ?_;refine⟨.ref p,rfl,?_⟩;refine rH.dict hp ?_;refine Bm (wL ks 0) (I:=M1 Ω p ks M) ?_ ?_ ?_ ?_
 ·intro k ys aH bB;obtain⟨m,bA⟩:=aH;obtain⟨zs,a1,a2,a3,a4,a5,a6,a7,a8⟩:=bB;exact a4 _ _ hp
 ·intro k aH ys bB K hx XA hK;obtain⟨t,v⟩:=aH;obtain⟨m,bA⟩:=bB;obtain⟨zs,a1,a2,a3,a4,a5,a6,a7,a8⟩:=XA
  dsimp only at a2 a3 a4 a5;have hkx:ks[k]?=some t:=by
   have:=congrArg (Option.map (·.1)) hx;rw[←List.getElem?_map,kj]at this
   simpa using this
  have XC:k<ks.length:=by
   cases Nat.lt_or_ge k ks.length with
   |inl h=>exact h
   |inr h=>rw[List.getElem?_eq_none h]at hkx;cases hkx
  have Y3:t∈ks:=List.mem_of_getElem? hkx;obtain⟨e,he,hel⟩:=nM.yQ ks t Y3;have hpos:0<wt ks t:=by rw[he];exact Nat.pos_of_ne_zero (by simp)
  have hlt:wt ks t<2^21:=by rw[he];exact Nat.pow_lt_pow_right (by decide) (Nat.lt_of_lt_of_le (Nat.lt_of_lt_of_le hel hl) (by decide))
  have htk:ks.take (k+1)=ks.take k++[t]:=by rw[List.take_add_one,hkx];rfl
  refine⟨.int M,a3, .ref p,a2, .int t,rfl,di (a4 _ _ hp) (ko ks t Y3) ?_⟩;refine eY (Pq hpos) (Qa hlt) (aX (eu (by decide) (by decide) (aX (dY ?_))));have XD:(((M:Nat):Int)/((wt ks t:Nat):Int)%2==1)=decide (M/wt ks t%2=1):=by
   rw[←Int.natCast_ediv]
   by_cases q:M/wt ks t%2=1
   ·rw[decide_eq_true q];simp;omega
   ·rw[decide_eq_false q];simp;omega
  rw[XD]
  by_cases hc:M/wt ks t%2=1
  ·refine bu (bN (by simpa using hc) ?_)
   refine⟨.int t,rfl,eY (by decide) (by decide) (aX (eu (by decide) (by decide) ⟨.int t,rfl,eu (by decide) (by decide) ⟨.int t,rfl,?_⟩⟩))⟩;refine eY (by decide) (by decide) (cS λr hr=>⟨by rw[a1];unfold refsOf;rw[List.length_map];unfold lim;exact Tc a7 hl XC,?_⟩);have hr:bA r=none:=hr;have ex:Ext bA (bA.set r (.tup [.int (t/16%16), .int (t%16), .int (16-t/256)])):= .fresh hr;refine hK _ _ ⟨zs++[(r,nC t)],?_,a2,a3,a4.trans ex,?_,?_,?_,?_⟩
   ·rw[a1];simp[refsOf]
   ·intro z hz
    rcases List.mem_append.mp hz with hz|hz
    ·exact ex _ _ (a5 z hz)
    ·rw[List.mem_singleton]at hz;subst hz
     exact aa.set_same
   ·intro z hz
    rcases List.mem_append.mp hz with hz|hz
    ·exact a6 z hz
    ·rw[List.mem_singleton]at hz;subst hz
     exact a4.none hr
   ·rw[List.length_append,List.length_singleton];exact OI a7
   ·rw[htk,List.filter_append,List.map_append,List.map_append,a8]
    congr 1
    rw[List.filter_cons_of_pos (by simpa using hc)];rfl
  ·refine bu (aM (by simpa using hc) ?_)
   refine hK _ _ ⟨zs,a1,a2,a3,a4,a5,a6,HA a7,?_⟩;rw[htk,List.filter_append,List.map_append,a8,List.filter_cons_of_neg (by simpa using hc)];simp
 ·intro ys aH bB r0 hr0;obtain⟨m,bA⟩:=aH;obtain⟨zs,a1,a2,a3,a4,a5,a6,a7,a8⟩:=bB
  dsimp only at a2 a3 a4 a5;rw[pY]at a7 a8;rw[List.take_length]at a8;have ex:Ext bA (bA.set r0 (.list ys)):= .fresh hr0;refine wh (zs:=zs) (by rw[a1];exact aa.set_same) (a5.ext ex) (Nat.lt_of_le_of_lt (Nat.le_trans a7 hl) (by decide)) λzs' z1 z2 r hr=>?_
  refine hq r _ zs' ((a4.trans ex).then hr) ((a4.trans ex).none hr) aa.set_same ?_ (λz hz=>a6 z (z1.mem_iff.mp hz)) (by rw[z1.length_eq];exact Nat.le_trans a7 hl) ?_ ?_
  ·exact λz hz=>au (ex _ _ (a5 z (z1.mem_iff.mp hz))) hr
  ·rw[←a8];exact z1.map _
  ·rw[List.pairwise_map];exact z2
 ·exact⟨[],rfl,rfl,rfl,Ext.refl Ω,(λz hz=>nomatch hz),(λz hz=>nomatch hz),Nat.zero_le _,rfl⟩
end
end
section
open PySem PySem.W PyProof.Rows
def Found(a b:List Int)(p q x y bi bj bs:Nat):Prop:=
 (bs=0∧bi=p∧bj=x∧∀r,Run a b r→¬mT p q x y r)∨
 (0<bs∧Run a b ⟨bi,bj,bs⟩∧mT p q x y ⟨bi,bj,bs⟩∧∀v,Run a b v→mT p q x y v→B4 ⟨bi,bj,bs⟩ v)
def cY(a b:List Int)(p x:Nat)(P:Nat→Nat→Prop)(bi bj bs:Nat):Prop:=
 (bs=0∧bi=p∧bj=x∧∀i j,P i j→sf a b p x (i+1) (j+1)=0)∨
 (0<bs∧∃i0 j0,P i0 j0∧sf a b p x (i0+1) (j0+1)=bs∧bi+bs=i0+1∧bj+bs=j0+1∧
  ∀i j,P i j→sf a b p x (i+1) (j+1)<bs∨(sf a b p x (i+1) (j+1)=bs∧(i0<i∨(i0=i∧j0≤j))))
theorem cY.more{a b:List Int}{p x:Nat}{P P':Nat→Nat→Prop}{bi bj bs:Nat}(h:cY a b p x P bi bj bs)(h1:∀i j,P i j→P' i j)(h2:∀i j,P' i j→P i j∨sf a b p x (i+1) (j+1)=0):cY a b p x P' bi bj bs:=by
 rcases h with⟨a1,a2,a3,a4⟩|⟨a1,i0,j0,a2,a3,a4,a5,a6⟩
 ·refine .inl ⟨a1,a2,a3,λi j hp=>?_⟩
  rcases h2 i j hp with h|h
  ·exact a4 i j h
  ·exact h
 ·refine .inr ⟨a1,i0,j0,h1 _ _ a2,a3,a4,a5,λi j hp=>?_⟩
  rcases h2 i j hp with h|h
  ·exact a6 i j h
  ·left;exact h▸a1
theorem cY.take{a b:List Int}{p x:Nat}{P P':Nat→Nat→Prop}{bi bj bs:Nat}(h:cY a b p x P bi bj bs){i0 j0:Nat}(h0:P' i0 j0)(h2:∀i j,P' i j→P i j∨(i=i0∧j=j0))
  (hk:bs<sf a b p x (i0+1) (j0+1)) {bi' Y4:Nat} (e1:bi'+sf a b p x (i0+1) (j0+1)=i0+1) (e2:Y4+sf a b p x (i0+1) (j0+1)=j0+1):cY a b p x P' bi' Y4 (sf a b p x (i0+1) (j0+1)):=by
 refine .inr ⟨Nat.zero_lt_of_lt hk,i0,j0,h0,rfl,e1,e2,λi j hp=>?_⟩
 rcases h2 i j hp with h'|⟨rfl,rfl⟩
 ·left
  rcases h with⟨a1,a2,a3,a4⟩|⟨a1,i1,j1,a2,a3,a4,a5,a6⟩
  ·have:=a4 i j h';exact Sm this hk
  ·have:=a6 i j h';exact Sn hk this
 ·right;exact⟨rfl, .inr ⟨rfl,Nat.le_refl _⟩⟩
theorem cY.keep{a b:List Int}{p x:Nat}{P P':Nat→Nat→Prop}{bi bj bs:Nat}(h:cY a b p x P bi bj bs){i0 j0:Nat}(h1:∀i j,P i j→P' i j)(h2:∀i j,P' i j→P i j∨(i=i0∧j=j0))(hlt:∀i j,P i j→i<i0∨(i=i0∧j≤j0))
  (hk:sf a b p x (i0+1) (j0+1)≤bs):cY a b p x P' bi bj bs:=by
 rcases h with⟨a1,a2,a3,a4⟩|⟨a1,i1,j1,a2,a3,a4,a5,a6⟩
 ·refine .inl ⟨a1,a2,a3,λi j hp=>?_⟩
  rcases h2 i j hp with h|⟨rfl,rfl⟩
  ·exact a4 i j h
  ·exact So a1 hk
 ·refine .inr ⟨a1,i1,j1,h1 _ _ a2,a3,a4,a5,λi j hp=>?_⟩
  rcases h2 i j hp with h|⟨rfl,rfl⟩
  ·exact a6 i j h
  ·have:=hlt _ _ a2
   exact Qz hk this
theorem cY.found{a b:List Int}{p q x y bi bj bs:Nat}(hq:q≤a.length)(hy:y≤b.length)(h:cY a b p x (λi j=>p≤i∧i<q∧x≤j∧j<y) bi bj bs):Found a b p q x y bi bj bs:=by
 have qx:∀v,Run a b v→mT p q x y v→∃i j,v.i+v.s=i+1∧v.j+v.s=j+1∧p≤i∧i<q∧x≤j∧j<y∧v.s≤sf a b p x (i+1) (j+1):=by
  intro v hv hw;have h0:=hv.1;obtain⟨w1,w2,w3,w4⟩:=hw;refine⟨v.i+v.s-1,v.j+v.s-1,Km h0,Km h0,Kn w1 h0,Ko w2 h0,Kn w3 h0,Ko w4 h0,?_⟩;have e1:v.i+v.s-1+1=v.i+v.s:=Kq h0;have e2:v.j+v.s-1+1=v.j+v.s:=Kq h0;rw[e1,e2];refine(p7 a b p x _ _ v.s (OU w2 hq) (OU w4 hy) h0).mpr ⟨Nat.add_le_add_right w1 _,Nat.add_le_add_right w3 _,?_⟩;rw[Nat.add_sub_cancel,Nat.add_sub_cancel];exact hv.2
 rcases h with⟨a1,a2,a3,a4⟩|⟨a1,i0,j0,a2,a3,a4,a5,a6⟩
 ·refine .inl ⟨a1,a2,a3,λv hv hw=>?_⟩
  obtain⟨i,j,c1,c2,c3,c4,c5,c6,c7⟩:=qx v hv hw;have:=a4 i j ⟨c3,c4,c5,c6⟩;have:=hv.1;exact Sp (by assumption) c7 this
 ·have hm:=(p7 a b p x (i0+1) (j0+1) bs (Nat.le_trans a2.2.1 hq) (Nat.le_trans a2.2.2.2 hy) a1).mp (OV a3)
  have e1:i0+1-bs=bi:=NS a4;have e2:j0+1-bs=bj:=NS a5;rw[e1,e2]at hm;refine .inr ⟨a1,⟨a1,hm.2.2⟩,⟨by simp only;exact Kr a4 hm.1,by simp only;exact JR a4 a2.2.1,by simp only;exact Kr a5 hm.2.1,by simp only;exact JR a5 a2.2.2.2⟩,λv hv hw=>?_⟩;obtain⟨i,j,c1,c2,c3,c4,c5,c6,c7⟩:=qx v hv hw;have:=a6 i j ⟨c3,c4,c5,c6⟩;unfold B4;simp only;exact PU a4 a5 c1 c2 c7 this
theorem Found.le{a b:List Int}{p q x y bi bj bs:Nat}(h:Found a b p q x y bi bj bs)(hp:p≤q)(hx:x≤y):p≤bi∧bi+bs≤q∧x≤bj∧bj+bs≤y:=by
 rcases h with⟨a1,a2,a3,a4⟩|⟨a1,a2,⟨b1,b2,b3,b4⟩,a4⟩
 ·exact⟨OV a2,Ks a2 a1 hp,OV a3,Ks a3 a1 hx⟩
 ·exact⟨b1,b2,b3,b4⟩
theorem Found.front{a b:List Int}{p q x y bi bj bs:Nat}(h:Found a b p q x y bi bj bs)(h1:p<bi)(h2:x<bj):a[bi-1]?≠b[bj-1]?:=by
 rcases h with⟨a1,a2,a3,a4⟩|⟨a1,⟨a2,a7⟩,⟨b1,b2,b3,b4⟩,a4⟩
 ·exact(Sq a2 h1).elim
 ·intro e
  obtain⟨m1,m2,m3⟩:=a7;simp only at m1 m2 m3 b1 b2 b3 b4;have:=a4 ⟨bi-1,bj-1,bs+1⟩ ⟨by simp,by simp only;exact NT m1 h1,by simp only;exact NT m2 h2,λk hk=>?_⟩ ⟨by simp only;exact JI h1,by simp only;exact NT b2 h1,by simp only;exact JI h2,by simp only;exact NT b4 h2⟩
  ·unfold B4 at this;simp only at this;exact Ss this
  ·simp only
   cases k with
   |zero=>exact e
   |succ k=>
    have:=m3 k (by simp only at hk;exact Nat.lt_of_succ_lt_succ hk);have e1:bi-1+(k+1)=bi+k:=Ku h1;have e2:bj-1+(k+1)=bj+k:=Ku h2;rw[e1,e2];exact this
theorem Found.back{a b:List Int}{p q x y bi bj bs:Nat}(hq:q≤a.length)(hy:y≤b.length)(h:Found a b p q x y bi bj bs)(h1:bi+bs<q)(h2:bj+bs<y):a[bi+bs]?≠b[bj+bs]?:=by
 intro e
 rcases h with⟨a1,a2,a3,a4⟩|⟨a1,⟨a2,a7⟩,⟨b1,b2,b3,b4⟩,a4⟩
 ·subst a1 a2 a3
  refine a4 ⟨bi,bj,1⟩ ⟨by simp,by simp only;exact Nat.le_trans h1 hq,by simp only;exact Nat.le_trans h2 hy,λk hk=>?_⟩ ⟨by simp,by simp only;exact JS h1,by simp,by simp only;exact JS h2⟩;have:k=0:=by simp only at hk;exact JP hk
  subst this;exact e
 ·obtain⟨m1,m2,m3⟩:=a7
  simp only at m1 m2 m3 b1 b2 b3 b4;have:=a4 ⟨bi,bj,bs+1⟩ ⟨by simp,by simp only;exact Nat.le_trans h1 hq,by simp only;exact Nat.le_trans h2 hy,λk hk=>?_⟩ ⟨by simp only;exact b1,by simp only;exact JT h1,by simp only;exact b3,by simp only;exact JT h2⟩
  ·unfold B4 at this;simp only at this;exact PV this
  ·simp only at hk ⊢
   by_cases q:k<bs
   ·exact m3 k q
   ·have:k=bs:=J8 hk q
    subst this;exact e
theorem zW{a b:List Int}{p x:Nat}:∀{i j:Nat},(i≤p∨j≤x)→sf a b p x i j=0
 |0,aj,br=>by simp[GY,GZ,yY]
 |aj+1,0,br=>by simp[GY,GZ,yY]
 |i+1,j+1,h=>by
  rw[yY];rw[if_neg (by omega)]
noncomputable def idxs(b:List Int)(n:Nat)(e:Int):List Nat:=(List.range n).filter λj=>decide (b[j]?=some e)
theorem DT{b:List Int}{n:Nat}{e:Int}{j:Nat}:j∈idxs b n e↔j<n∧b[j]?=some e:=by
 unfold idxs;rw[List.mem_filter,List.mem_range,decide_eq_true_iff]
theorem DU(b:List Int)(n:Nat)(e:Int):(idxs b n e).Pairwise (·<·):=List.Pairwise.filter _ List.pairwise_lt_range
theorem sq{b:List Int}{n:Nat}{e:Int}:idxs b (n+1) e=if b[n]?=some e then idxs b n e++[n]else idxs b n e:=by
 unfold idxs;rw[List.range_succ,List.filter_append]
 by_cases q:b[n]?=some e
 ·rw[if_pos q,List.filter_cons_of_pos (by simpa using q)];rfl
 ·rw[if_neg q,List.filter_cons_of_neg (by simpa using q)];simp
end
section
open PySem PySem.W PyProof.Rows PySem.Calls
theorem DV(es:List (Int×af))(k z:Int)(x:af):aO (es.map λe=>if e.1=k then(e.1,x)else e) z=if z=k then(aO es k).map (λaj=>x)else aO es z:=by
 induction es with
 |nil=>simp[aO]
 |cons e es ih=>
  unfold aO at ih ⊢;rw[List.map_cons,List.find?_cons,List.find?_cons,List.find?_cons]
  by_cases q:e.1=k
  ·rw[if_pos q]
   by_cases q2:z=k
   ·subst q2;simp[q]
   ·have q3:¬e.1=z:=λh=>q2 (h▸q)
    simp only[decide_eq_false q3,if_neg q2];rw[if_neg q2]at ih;exact ih
  ·rw[if_neg q]
   by_cases q3:e.1=z
   ·have q2:¬z=k:=λh=>q (q3.trans h)
    simp[q3,q2]
   ·simp only[decide_eq_false q3,decide_eq_false q]
    exact ih
theorem Bx(es:List (Int×af))(k z:Int)(x:af):aO (es++[(k,x)]) z=(match aO es z with|some v=>some v|none=>if z=k then some x else none):=by
 unfold aO;rw[List.find?_append];cases List.find? (λe=>decide (e.1=z)) es with
 |some e=>rfl
 |none=>
  simp only[Option.none_or,Option.map_none,List.find?_cons,List.find?_nil]
  by_cases q:k=z
  ·subst q;simp
  ·have q':¬z=k:=λh=>q h.symm
   simp[q,q']
theorem m8{es:List (Int×af)}{k:Int}:(es.any λe=>decide (e.1=k))=true↔(aO es k).isSome=true:=by
 unfold aO;rw[Option.isSome_map,List.find?_isSome,List.any_eq_true]
theorem fc(es:List (Int×af))(k z:Int)(x:af):aO (dput es k x) z=if z=k then some x else aO es z:=by
 unfold dput
 by_cases h:(es.any λe=>decide (e.1=k))=true
 ·rw[if_pos h,DV]
  rw[m8]at h;obtain⟨v,hv⟩:=Option.isSome_iff_exists.mp h;rw[hv];rfl
 ·rw[if_neg h,Bx]
  by_cases q:z=k
  ·subst q
   rw[m8]at h;cases hz:aO es z with
   |none=>simp
   |some v=>rw[hz]at h;exact absurd rfl h
  ·rw[if_neg q,if_neg q];cases aO es z<;>rfl
theorem fz(es:List (Int×af))(k:Int)(x:af):(dput es k x).length≤es.length+1:=by
 unfold dput;split
 ·rw[List.length_map];exact OJ
 ·rw[List.length_append];simp
theorem DW{L:List Nat}(h:L.Pairwise (·<·)){n y j:Nat}(hy:L[n]?=some y)(hj:j∈L)(hlt:j<y):j∈L.take n:=by
 rw[←List.take_append_drop n L]at hj
 rcases List.mem_append.mp hj with hj|hj
 ·exact hj
 ·exfalso
  have hn:n<L.length:=by
   cases Nat.lt_or_ge n L.length with
   |inl h=>exact h
   |inr h=>rw[List.getElem?_eq_none h]at hy;cases hy
  rw[List.getElem?_eq_getElem hn]at hy;cases hy;rw[List.drop_eq_getElem_cons hn]at hj;have hp:=List.Pairwise.drop (i:=n) h;rw[List.drop_eq_getElem_cons hn,List.pairwise_cons]at hp
  rcases List.mem_cons.mp hj with rfl|hj
  ·exact Jf hlt
  ·have:=hp.1 j hj;exact Uc hlt this
section
variable{prog:Program}{w:World}{B:Addr→Option Obj}{Ω:aa}{l:Nat}{Q:af→aa→Prop}
theorem ff{r:Addr}{ys:List af}{n:Nat}{R:List af→Prop}(hn:ys.length=n)(h:R ys):uK (.ref r) n R (Ω.set r (.tup ys)):=by
 exact .tup aa.set_same hn h
theorem zX{r:Addr}{ys:List af}{n:Nat}{R:List af→Prop}(hr:Ω r=some (.tup ys))(hn:ys.length=n)(h:R ys):uK (.ref r) n R Ω:= .tup hr hn h
theorem zY{r:Addr}{ys:List af}{n:Nat}{R:List af→Prop}(hr:Ω r=some (.cZ ys))(hn:ys.length=n)(h:R ys):uK (.ref r) n R Ω:= .cZ hr hn h
theorem By{f p:Addr}{ep:Nat}{es:List (Int×af)}{k:Int}{x:af}(hf:Ω f=some (.bound .aO p))(hp:Ω p=some (.dict ep es))(h:Q ((aO es k).getD x) Ω):aZ prog w B l (.ref f) [.int k,x] Q Ω:=by
 exact .get hf hp h
theorem i7{f p:Addr}{n:Nat}{S:Int→Bool}{k:Int}(hf:Ω f=some (.bound .dM p))(hp:Ω p=some (.set n S))(h:Q (.bool (S k)) Ω):aZ prog w B l (.ref f) [.int k] Q Ω:=by
 exact .cont hf hp h
theorem ze{v:V}{p:Addr}{ep:Nat}{es:List (Int×af)}{st:St}{R:af→St→Prop}(hm:st.m v=some (.ref p))(hp:st.Ω p=some (.dict ep es))(h:∀r,st.Ω r=none→R (.ref r) {st with Ω:=st.Ω.set r (.bound .aO p)}):ev prog w B l (.iu (.var v) .aO) R st:=by
 exact⟨_,hm, .get hp h⟩
structure FI(fC:aa)(pa pb pd ku pn:Addr)(alo ahi blo bhi bi bj bs:Nat)(st:St):Prop where
 a:st.m .a=some (.ref pa)
 b:st.m .b=some (.ref pb)
 b2j:st.m .b2j=some (.ref pd)
 DX:st.m .isbjunk=some (.ref ku)
 nothing:st.m .nothing=some (.ref pn)
 alo:st.m .alo=some (.int alo)
 ahi:st.m .ahi=some (.int ahi)
 blo:st.m .blo=some (.int blo)
 bhi:st.m .bhi=some (.int bhi)
 bi:st.m .besti=some (.int bi)
 bj:st.m .bestj=some (.int bj)
 bs:st.m .bestsize=some (.int bs)
 ext:Ext fC st.Ω
def IW(a b:List Int)(alo blo bhi:Nat)(es:List (Int×af))(i:Nat):Prop:=∀j:Nat,blo≤j→j<bhi→(aO es ((j:Int)-1)).getD (.int 0)= .int (sf a b alo blo i j:Nat)
def IX(b:List Int)(Ω:aa)(es:List (Int×af)):Prop:=∀e:Int,(aO es e=none∧idxs b b.length e=[])∨∃pe,aO es e=some (.ref pe)∧Ω pe=some (.list (av ((idxs b b.length e).map Int.ofNat)))
noncomputable def BA:MS:=
  (sv .j2lenget (.iu (.var .j2len) .aO)<|
  sv .newj2len .fJ<|
  .fR .j ⟨.ex, .mh (.var .b2j) .get (.idx (.var .a) (.var .i)) (.var .nothing), .none⟩
  (.ifs (.cmp .Lt (.var .j) (.var .blo)) .cont .nil<|
   .ifs (.cmp .GtE (.var .j) (.var .bhi)) .brk .nil<|
   .asg [.var .k, .idx (.var .newj2len) (.var .j)] (plus (.call2 (.var .j2lenget) (minus (.var .j) (.int 1)) (.int 0)) (.int 1))<|
   .ifs (.cmp .Gt (.var .k) (.var .bestsize)) (.jQ [.besti, .bestj, .bestsize] (.dI (plus (minus (.var .i) (.var .k)) (.int 1)) (plus (minus (.var .j) (.var .k)) (.int 1)) (.var .k)) .nil) .nil .nil)<|
  sv .j2len (.var .newj2len) .nil)
inductive M3(fC:aa)(pa pb pd ku pn pg pl pw:Addr)(alo ahi blo bhi i:Nat)(a b:List Int)(zZ:Nat)(es:List (Int×af))(L:List Nat)(n:Nat)(st:St):Prop
 |mk (bi bj bs cK:Nat) (es':List (Int×af)) (c1:FI fC pa pb pd ku pn alo ahi blo bhi bi bj bs st) (c2:st.m .i=some (.int i)) (c3:st.m .j2lenget=some (.ref pg)) (c4:st.m .newj2len=some (.ref pw)) (c5:st.Ω pg=some (.bound .aO pl)) (c6:st.Ω pl=some (.dict zZ es)) (c7:st.Ω pw=some (.dict cK es')) (Jw:es'.length≤n)
  (c8:∀j:Nat,aO es' j=if blo≤j∧j∈L.take n then some (.int (sf a b alo blo (i+1) (j+1):Nat))else none) (c9:aO es' (-1)=none) (yk:∀j∈L.take n,j<bhi)
  (AW:cY a b alo blo (λi' j'=>(alo≤i'∧i'<i∧blo≤j'∧j'<bhi)∨(i'=i∧blo≤j'∧j'∈L.take n)) bi bj bs):M3 fC pa pb pd ku pn pg pl pw alo ahi blo bhi i a b zZ es L n st
theorem DY{fC:aa}{pa pb pd ku pn:Addr}{alo ahi blo bhi bi bj bs:Nat}{a b:List Int}{lA:Nat}{jn:List (Int×af)}(hpa:fC pa=some (.list (av a)))(qY:fC pd=some (.dict lA jn))(hB:IX b fC jn)(qb:fC pn=some (.list []))
  (ha:a.length≤7) (hb:b.length≤7) (XE:ahi≤a.length) (Y5:bhi≤b.length) (Xw:blo≤bhi) {i:Nat} (hi1:alo≤i) (hi2:i<ahi) {pl:Addr} {zZ:Nat} {es:List (Int×af)} {st:St} (F:FI fC pa pb pd ku pn alo ahi blo bhi bi bj bs st) (hi:st.m .i=some (.int i)) (hl:st.m .j2len=some (.ref pl)) (hpl:st.Ω pl=some (.dict zZ es)) (Oj:IW a b alo blo bhi es i)
  (M5:cY a b alo blo (λi' j'=>alo≤i'∧i'<i∧blo≤j'∧j'<bhi) bi bj bs) {K:St→Prop} {QQ:bl→St→Prop}
  (hK:∀st' bi bj bs pl zZ es,FI fC pa pb pd ku pn alo ahi blo bhi bi bj bs st'→st'.m .j2len=some (.ref pl)→st'.Ω pl=some (.dict zZ es)→IW a b alo blo bhi es (i+1)→cY a b alo blo (λi' j'=>alo≤i'∧i'<i+1∧blo≤j'∧j'<bhi) bi bj bs→K st'):
  exs prog w B l BA (cC K QQ) st:=by
 obtain⟨m,bA⟩:=st;dsimp only at hi hl hpl;refine ze hl hpl λpg hg=>?_
 intro pw hw;dsimp only at hg;have hg:bA pg=none:=hg;have hw:(bA.set pg (.bound .aO pl)) pw=none:=hw;have e1:Ext bA (bA.set pg (.bound .aO pl)):= .fresh hg;have e2:Ext bA ((bA.set pg (.bound .aO pl)).set pw (.dict 0 [])):=e1.then hw;have qZ:=F.ext;dsimp only at qZ;have hwg:pg≠pw:=aE aa.set_same hw;have hwl:pl≠pw:=aE (e1 _ _ hpl) hw;have nw:fC pw=none:=(qZ.trans e1).none hw;have Y6:i<a.length:=NP XE hi2;refine⟨.ref pd,F.b2j,_,i6 ((qZ.trans e2) _ _ qY) rfl, .ref pa,F.a, .int i,hi,idx_int ((qZ.trans e2) _ _ hpa) Y6 (by unfold lim;exact O4 ha) ?_⟩;refine⟨.ref pn,F.nothing,Br ((qZ.trans e2) _ _ qY) ?_⟩;obtain⟨pe,XF,IY⟩:∃pe,(aO jn (a.getD i 0)).getD (.ref pn)= .ref pe∧fC pe=some (.list (av ((idxs b b.length (a.getD i 0)).map Int.ofNat))):=by
  rcases hB (a.getD i 0)with⟨q1,q2⟩|⟨pe,q1,q2⟩
  ·exact⟨pn,by rw[q1];rfl,by rw[q2];exact qb⟩
  ·exact⟨pe,by rw[q1];rfl,q2⟩
 rw[XF];have M6:=(qZ.trans e2) _ _ IY;refine rH.list M6 ?_;have XG:∀j,j∈idxs b b.length (a.getD i 0)↔j<b.length∧a[i]?=b[j]?:=λj=>by
  rw[DT];have:a[i]?=some (a.getD i 0):=by rw[List.getD_eq_getElem?_getD,List.getElem?_eq_getElem Y6];rfl
  rw[this];exact⟨λh=>⟨h.1,h.2.symm⟩,λh=>⟨h.1,h.2.symm⟩⟩
 have LV:=DU b b.length (a.getD i 0);have Y7:(idxs b b.length (a.getD i 0)).length≤b.length:=by
  unfold idxs;refine Nat.le_trans (List.length_filter_le ..) ?_;rw[List.length_range];exact ON
 generalize idxs b b.length (a.getD i 0)=L at XG LV IY M6 Y7;have hsf:∀j,blo≤j→j∈L→sf a b alo blo (i+1) (j+1)=sf a b alo blo i j+1:=λj h1 h2=>by
  rw[yY];rw[if_pos ⟨hi1,h1,((XG j).mp h2).2⟩]
 have M7:∀j,¬(blo≤j∧j∈L)→j<b.length→sf a b alo blo (i+1) (j+1)=0:=λj h1 h2=>by
  rw[yY];rw[if_neg λz=>h1 ⟨z.2.1,(XG j).mpr ⟨h2,z.2.2⟩⟩]
 let I:Nat→St→Prop:=M3 fC pa pb pd ku pn pg pl pw alo ahi blo bhi i a b zZ es L
 have after:∀n st,I n st→(∀j∈L,j<bhi→j∈L.take n)→exs prog w B l (sv .j2len (.var .newj2len) .nil) (cC K QQ) st:=by
  intro n aH bB hall;obtain⟨m',az⟩:=aH;obtain⟨bi,bj,bs,cK,es',c1,c2,c3,c4,c5,c6,c7,Jw,c8,c9,yk,AW⟩:=bB;refine⟨.ref pw,c4,hK _ bi bj bs pw cK es' ⟨c1.a,c1.b,c1.b2j,c1.DX,c1.nothing,c1.alo,c1.ahi,c1.blo,c1.bhi,c1.bi,c1.bj,c1.bs,c1.ext⟩ rfl c7 ?_ ?_⟩
  ·intro j h1 h2
   cases j with
   |zero=>
    have:((0:Nat):Int)-1=-1:=(by decide);rw[this,c9,zW (.inr (Nat.zero_le _))];rfl
   |succ j=>
    have:((j+1:Nat):Int)-1=j:=Li;rw[this,c8]
    by_cases q:blo≤j∧j∈L.take n
    ·rw[if_pos q];rfl
    ·rw[if_neg q,M7 j (λz=>q ⟨z.1,hall j z.2 (O1 h2)⟩) (Nat.lt_trans (Nat.lt_succ_self _) (Nat.lt_of_lt_of_le h2 Y5))];rfl
  ·refine AW.more (λi' j' h=>?_) λi' j' h=>?_
   ·rcases h with h|⟨rfl,h2,h3⟩
    ·exact⟨h.1,HB h.2.1,h.2.2.1,h.2.2.2⟩
    ·exact⟨hi1,F1,h2,yk j' h3⟩
   ·by_cases q:i'<i
    ·exact .inl (.inl ⟨h.1,q,h.2.2.1,h.2.2.2⟩)
    ·have:i'=i:=J8 h.2.1 q
     subst this
     by_cases q2:j'∈L
     ·exact .inl (.inr ⟨rfl,h.2.2.1,hall j' q2 h.2.2.2⟩)
     ·exact .inr (M7 j' (λz=>q2 z.2) (NP Y5 h.2.2.2))
 refine ki (p:=pe) (av (L.map Int.ofNat)) (I:=I) ?_ ?_ ?_ ?_
 ·intro n aH bB;obtain⟨m',az⟩:=aH;obtain⟨bi,bj,bs,cK,es',c1,_⟩:=bB
  exact c1.ext _ _ IY
 ·intro n x aH K' hx bB wM;obtain⟨m',az⟩:=aH;obtain⟨bi,bj,bs,cK,es',c1,c2,c3,c4,c5,c6,c7,Jw,c8,c9,yk,AW⟩:=bB
  have hn:n<L.length:=by
   cases Nat.lt_or_ge n L.length with
   |inl h=>exact h
   |inr h=>rw[List.getElem?_eq_none (by rw[aq,List.length_map];exact h)]at hx;cases hx
  have hj0:L[n]?=some L[n]:=List.getElem?_eq_getElem hn;have hx:x= .int (L[n]:Nat):=by
   unfold av at hx;rw[List.getElem?_map,List.getElem?_map,hj0]at hx;cases hx;rfl
  generalize L[n]=j at hj0 hx;subst hx;have hjL:j∈L:=List.mem_of_getElem? hj0;have htk:L.take (n+1)=L.take n++[j]:=by rw[List.take_add_one,hj0];rfl
  have hnj:∀j'∈L.take n,j'<j:=λj' h=>by
   have:=LV;rw[←List.take_append_drop n L,List.pairwise_append]at this;refine this.2.2 j' h j ?_;rw[List.drop_eq_getElem_cons hn];have:L[n]=j:=by rw[List.getElem?_eq_getElem hn]at hj0;exact Option.some.inj hj0
   rw[this];exact List.mem_cons_self ..
  have hmem:∀j',j'∈L.take (n+1)↔j'∈L.take n∨j'=j:=λj'=>by rw[htk,List.mem_append,List.mem_singleton]
  dsimp only at c2 c3 c4 c5 c6 c7;refine⟨.int j,rfl, .int blo,c1.blo,?_⟩
  by_cases hlt:j<blo
  ·refine bK (bN (by simpa using hlt) ?_)
   refine wM _ ⟨bi,bj,bs,cK,es',⟨c1.a,c1.b,c1.b2j,c1.DX,c1.nothing,c1.alo,c1.ahi,c1.blo,c1.bhi,c1.bi,c1.bj,c1.bs,c1.ext⟩,c2,c3,c4,c5,c6,c7,HA Jw,λj'=>?_,c9,?_,AW.more ?_ ?_⟩
   ·rw[c8]
    by_cases q:blo≤j'∧j'∈L.take n
    ·rw[if_pos q,if_pos ⟨q.1,(hmem j').mpr (.inl q.2)⟩]
    ·rw[if_neg q,if_neg]
     intro aH;obtain⟨z1,z2⟩:=aH
     rcases (hmem j').mp z2 with z2|z2
     ·exact q ⟨z1,z2⟩
     ·exact KG z2 z1 hlt
   ·intro j' hj'
    rcases (hmem j').mp hj' with z|z
    ·exact yk j' z
    ·exact Ud z Xw hlt
   ·rintro i' j' (h|⟨h1,h2,h3⟩)
    ·exact .inl h
    ·exact .inr ⟨h1,h2,(hmem j').mpr (.inl h3)⟩
   ·rintro i' j' (h|⟨h1,h2,h3⟩)
    ·exact .inl (.inl h)
    ·rcases (hmem j').mp h3 with z|z
     ·exact .inl (.inr ⟨h1,h2,z⟩)
     ·exact(KG z h2 hlt).elim
  ·refine bK (aM (by simpa using hlt) ?_)
   refine⟨.int j,rfl, .int bhi,c1.bhi,?_⟩
   by_cases hge:bhi≤j
   ·refine DC (bN (by simpa using hge) ?_)
    refine after n _ ⟨bi,bj,bs,cK,es',⟨c1.a,c1.b,c1.b2j,c1.DX,c1.nothing,c1.alo,c1.ahi,c1.blo,c1.bhi,c1.bi,c1.bj,c1.bs,c1.ext⟩,c2,c3,c4,c5,c6,c7,Jw,c8,c9,yk,AW⟩ λj' h1 h2=>DW LV hj0 h1 (NP hge h2)
   ·refine DC (aM (by simpa using hge) ?_)
    have XH:=Oj j (O2 hlt) (Nat.lt_of_not_le hge);refine⟨.ref pg,c3, .int j,rfl,aX (cS (aX (By c5 c6 ?_)))⟩;rw[XH];refine aX (aI ?_);have hkv:((sf a b alo blo i j:Nat):Int)+1=(sf a b alo blo (i+1) (j+1):Nat):=by rw[hsf j (O2 hlt) hjL];exact JJ
    rw[hkv];refine⟨.ref pw,c4, .int j,rfl,cO c7 (by unfold lim;exact Ue Jw hb Y7 hn) λG0=>?_⟩;have nl:=pZ a b alo blo (i+1) (j+1);have f1:∀j':Nat,aO (dput es' j (.int (sf a b alo blo (i+1) (j+1):Nat))) j'=if blo≤j'∧j'∈L.take (n+1)then some (.int (sf a b alo blo (i+1) (j'+1):Nat))else none:=λj'=>by
     rw[fc]
     by_cases q:j'=j
     ·subst q
      rw[if_pos rfl,if_pos ⟨O2 hlt,(hmem _).mpr (.inr rfl)⟩]
     ·rw[if_neg (Wj q),c8]
      by_cases q2:blo≤j'∧j'∈L.take n
      ·rw[if_pos q2,if_pos ⟨q2.1,(hmem j').mpr (.inl q2.2)⟩]
      ·rw[if_neg q2,if_neg]
       intro aH;obtain⟨z1,z2⟩:=aH
       rcases (hmem j').mp z2 with z2|z2
       ·exact q2 ⟨z1,z2⟩
       ·exact q z2
    have f2:aO (dput es' j (.int (sf a b alo blo (i+1) (j+1):Nat))) (-1)=none:=by rw[fc,if_neg (Wk)];exact c9
    have f3:∀j'∈L.take (n+1),j'<bhi:=λj' hj'=>by
     rcases (hmem j').mp hj' with z|z
     ·exact yk j' z
     ·exact Ug z hge
    have f4:(dput es' j (.int (sf a b alo blo (i+1) (j+1):Nat))).length≤n+1:=by have:=fz es' j (.int (sf a b alo blo (i+1) (j+1):Nat));exact QB this Jw
    have g1:(az.set pw (.dict G0 (dput es' j (.int (sf a b alo blo (i+1) (j+1):Nat))))) pg=some (.bound .aO pl):=by rw[aa.ai hwg];exact c5
    have g2:(az.set pw (.dict G0 (dput es' j (.int (sf a b alo blo (i+1) (j+1):Nat))))) pl=some (.dict zZ es):=by rw[aa.ai hwl];exact c6
    have g3:Ext fC (az.set pw (.dict G0 (dput es' j (.int (sf a b alo blo (i+1) (j+1):Nat))))):=c1.ext.upd nw;refine⟨_,rfl, .int bs,c1.bs,?_⟩
    by_cases hgt:bs<sf a b alo blo (i+1) (j+1)
    ·refine cmp_gt (bN (by simpa using hgt) ?_)
     refine⟨.int i,c2,_,rfl,cS (aX (aI ⟨.int j,rfl,_,rfl,cS (aX (aI ⟨_,rfl,λr hr=>ff rfl ?_⟩))⟩))⟩;have hr:(az.set pw (.dict G0 (dput es' j (.int (sf a b alo blo (i+1) (j+1):Nat))))) r=none:=hr;have e3:((i:Int)-(sf a b alo blo (i+1) (j+1):Nat)+1)=((i+1-sf a b alo blo (i+1) (j+1):Nat):Int):=Lk nl.1;have e4:((j:Int)-(sf a b alo blo (i+1) (j+1):Nat)+1)=((j+1-sf a b alo blo (i+1) (j+1):Nat):Int):=Lk nl.2;rw[e3,e4];refine wM _ ⟨i+1-sf a b alo blo (i+1) (j+1),j+1-sf a b alo blo (i+1) (j+1),sf a b alo blo (i+1) (j+1),G0,_,⟨c1.a,c1.b,c1.b2j,c1.DX,c1.nothing,c1.alo,c1.ahi,c1.blo,c1.bhi,rfl,rfl,rfl,g3.then hr⟩,c2,c3,c4,au g1 hr,au g2 hr,au aa.set_same hr,f4,f1,f2,f3,?_⟩;refine AW.take (.inr ⟨rfl,O2 hlt,(hmem j).mpr (.inr rfl)⟩) ?_ hgt (Nat.sub_add_cancel nl.1) (Nat.sub_add_cancel nl.2)
     rintro i' j' (h|⟨h1,h2,h3⟩)
     ·exact .inl (.inl h)
     ·rcases (hmem j').mp h3 with z|z
      ·exact .inl (.inr ⟨h1,h2,z⟩)
      ·exact .inr ⟨h1,z⟩
    ·refine cmp_gt (aM (by simpa using hgt) ?_)
     refine wM _ ⟨bi,bj,bs,G0,_,⟨c1.a,c1.b,c1.b2j,c1.DX,c1.nothing,c1.alo,c1.ahi,c1.blo,c1.bhi,c1.bi,c1.bj,c1.bs,g3⟩,c2,c3,c4,g1,g2,aa.set_same,f4,f1,f2,f3,?_⟩;refine AW.keep (i0:=i) (j0:=j) ?_ ?_ ?_ (O2 hgt)
     ·rintro i' j' (h|⟨h1,h2,h3⟩)
      ·exact .inl h
      ·exact .inr ⟨h1,h2,(hmem j').mpr (.inl h3)⟩
     ·rintro i' j' (h|⟨h1,h2,h3⟩)
      ·exact .inl (.inl h)
      ·rcases (hmem j').mp h3 with z|z
       ·exact .inl (.inr ⟨h1,h2,z⟩)
       ·exact .inr ⟨h1,z⟩
     ·rintro i' j' (h|⟨h1,h2,h3⟩)
      ·exact .inl h.2.1
      ·have:=hnj j' h3
       exact .inr ⟨h1,OW this⟩
 ·rintro st h
  refine after _ st h λj h1 h2=>?_
  rw[aq,List.length_map,List.take_length];exact h1
 ·refine⟨bi,bj,bs,0,[],⟨F.a,F.b,F.b2j,F.DX,F.nothing,F.alo,F.ahi,F.blo,F.bhi,F.bi,F.bj,F.bs,qZ.trans e2⟩,hi,rfl,rfl,au aa.set_same hw,e2 _ _ hpl,aa.set_same,Nat.le_refl _,λj=>?_,rfl,by simp,M5.more ?_ ?_⟩
  ·rw[if_neg (by simp)];rfl
  ·exact λi' j' h=> .inl h
  ·rintro i' j' (h|⟨_,_,h⟩)
   ·exact .inl h
   ·simp at h
end
structure wj(Ω:aa)(s d pa pb pd pj:Addr)(k:Nat)(m:At→Option af)(lA:Nat)(jn:List (Int×af))(a b:List Int):Prop where
 hs:Ω s=some (.inst 242 d)
 hd:Ω d=some (.ns k m)
 ma:m .a=some (.ref pa)
 mb:m .b=some (.ref pb)
 M8:m .b2j=some (.ref pd)
 mj:m .bjunk=some (.ref pj)
 ha:Ω pa=some (.list (av a))
 hb:Ω pb=some (.list (av b))
 qY:Ω pd=some (.dict lA jn)
 hB:IX b Ω jn
 hj:Ω pj=some (.set 0 λaj=>false)
theorem IX.ext{b:List Int}{Ω az:aa}{es:List (Int×af)}(h:IX b Ω es)(e:Ext Ω az):IX b az es:=λx=>by
 rcases h x with h|⟨pe,h1,h2⟩
 ·exact .inl h
 ·exact .inr ⟨pe,h1,e _ _ h2⟩
theorem wj.ext{Ω az:aa}{s d pa pb pd pj:Addr}{k:Nat}{m:At→Option af}{lA:Nat}{jn:List (Int×af)}{a b:List Int}(h:wj Ω s d pa pb pd pj k m lA jn a b)(e:Ext Ω az):wj az s d pa pb pd pj k m lA jn a b:=
 ⟨e _ _ h.hs,e _ _ h.hd,h.ma,h.mb,h.M8,h.mj,e _ _ h.ha,e _ _ h.hb,e _ _ h.qY,h.hB.ext e,e _ _ h.hj⟩
section
variable{prog:Program}{w:World}{B:Addr→Option Obj}{Ω:aa}{l:Nat}{Q:af→aa→Prop}
theorem cU{s d:Addr}{k:Nat}{m:At→Option af}{t:At}{x:af}{R:af→Prop}(hs:Ω s=some (.inst 242 d))(hd:Ω d=some (.ns k m))(hx:m t=some x)(h:R x):rD (.ref s) t R Ω:=by
 exact .inst hs (.inl rfl) hd hx h
theorem bx{s d:Addr}{k:Nat}{m:At→Option af}{t:At}{x:af}{R:aa→Prop}(hs:Ω s=some (.inst 242 d))(hd:Ω d=some (.ns k m))(ht:dO t=none)(hk:k<900)(h:R (Ω.set d (.ns (k+1) (ef.set m t x)))):fq (.ref s) t x R Ω:=by
 exact .inst hs (.inl rfl) ht hd hk h
theorem qc{x:Int}{R:Bool→Prop}(h:R false):gm .Is (.int x) .none R Ω:= .YF h
theorem dD{x:Addr}{R:Bool→Prop}(h:R false):gm .Is (.ref x) .none R Ω:= .YE h
theorem dZ{R:Bool→Prop}(h:R false):gm .IsNot .none .none R Ω:= .LW h
theorem wk{e:ME}{p:Addr}{n:Nat}{S:Int→Bool}{st:St}{R:af→St→Prop}(he:∀T:af→St→Prop,T (.ref p) st→ev prog w B l e T st)(hp:st.Ω p=some (.set n S))(h:∀r,st.Ω r=none→R (.ref r) {st with Ω:=st.Ω.set r (.bound .dM p)}):ev prog w B l (.iu e .dM) R st:=by
 exact he _ (.cont hp h)
theorem i8{c:(Bool→St→Prop)→St→Prop}{b o:(bl→St→Prop)→St→Prop}{QQ:bl→St→Prop}{st:St}(h:c (λt s1=>if t then b (cC (λaj=>False) QQ) s1 else o QQ s1) st):∃f,fT c b o QQ f st:=⟨1,h⟩
inductive M9(bA:aa)(pa pb pd ku pn:Addr)(alo ahi blo bhi:Nat)(a b:List Int)(n:Nat)(st:St):Prop
 |mk (bi:Nat) (bj:Nat) (bs:Nat) (pl:Addr) (zZ:Nat) (es:List (Int×af)) (q1:FI bA pa pb pd ku pn alo ahi blo bhi bi bj bs st) (q2:st.m .j2len=some (.ref pl)) (q3:st.Ω pl=some (.dict zZ es)) (q4:IW a b alo blo bhi es (alo+n)) (q5:cY a b alo blo (λi' j'=>alo≤i'∧i'<alo+n∧blo≤j'∧j'<bhi) bi bj bs):M9 bA pa pb pd ku pn alo ahi blo bhi a b n st
theorem find_spec(bf:BF prog w B)(bT:l<58){s d pa pb pd pj:Addr}{k:Nat}{m:At→Option af}{lA:Nat}{jn:List (Int×af)}{a b:List Int}(S:wj Ω s d pa pb pd pj k m lA jn a b)(ha:a.length≤7)(hb:b.length≤7){alo ahi blo bhi:Nat}(h1:alo≤ahi)(h2:ahi≤a.length)(h3:blo≤bhi)(h4:bhi≤b.length)
  (hq:∀r bi bj bs az,Ext Ω az→Ω r=none→az r=some (.cZ [.int (bi:Nat), .int (bj:Nat), .int (bs:Nat)])→Found a b alo ahi blo bhi bi bj bs→Q (.ref r) az):aF prog w B l (.ref 196) [.ref s, .int alo, .int ahi, .int blo, .int bhi] Q Ω:=by
 refine Bh bf ?_;refine⟨.ref s,rfl,cU S.hs S.hd S.ma ⟨.ref s,rfl,cU S.hs S.hd S.mb ⟨.ref s,rfl,cU S.hs S.hd S.M8 (wk (λT hT=>⟨.ref s,rfl,cU S.hs S.hd S.mj hT⟩) S.hj λku XJ r1 hr1=>ff rfl ?_)⟩⟩⟩;have XJ:Ω ku=none:=XJ;have hr1:(Ω.set ku (.bound .dM pj)) r1=none:=hr1;refine⟨.int ahi,rfl,dj (qc (aM rfl ?_))⟩;refine⟨.int bhi,rfl,dj (qc (aM rfl ?_))⟩;refine⟨.int alo,rfl, .int blo,rfl,λr2 hr2=>ff rfl ?_⟩;intro pl hpl pn qb;dsimp only at hr2 hpl qb;have e1:Ext Ω (Ω.set ku (.bound .dM pj)):= .fresh XJ;have e2:=e1.then hr1 (x:= .tup [.ref pa, .ref pb, .ref pd, .ref ku]);have e3:=e2.then hr2 (x:= .tup [.int alo, .int blo, .int 0]);have e4:=e3.then hpl (x:= .dict 0 []);have e5:=e4.then qb (x:= .list []);have gj:=au (au (au (au (aa.set_same (Ω:=Ω) (a:=ku) (o:= .bound .dM pj)) hr1 (x:= .tup [.ref pa, .ref pb, .ref pd, .ref ku])) hr2 (x:= .tup [.int alo, .int blo, .int 0])) hpl (x:= .dict 0 [])) qb (x:= .list []);have gn:=aa.set_same (Ω:=((((Ω.set ku (.bound .dM pj)).set r1 (.tup [.ref pa, .ref pb, .ref pd, .ref ku])).set r2 (.tup [.int alo, .int blo, .int 0])).set pl (.dict 0 []))) (a:=pn) (o:= .list []);have gl:=au (aa.set_same (Ω:=(((Ω.set ku (.bound .dM pj)).set r1 (.tup [.ref pa, .ref pb, .ref pd, .ref ku])).set r2 (.tup [.int alo, .int blo, .int 0]))) (a:=pl) (o:= .dict 0 [])) qb (x:= .list []);have S1:=S.ext e5;generalize DZ:(((((Ω.set ku (.bound .dM pj)).set r1 (.tup [.ref pa, .ref pb, .ref pd, .ref ku])).set r2 (.tup [.int alo, .int blo, .int 0])).set pl (.dict 0 [])).set pn (.list []))=bA at e5 gj gn gl S1;refine⟨.int alo,rfl, .int ahi,rfl,Le,VA h1 h2 ha,Le,VB h2 ha,?_⟩;refine iY (ahi-alo) (P4) (I:=M9 bA pa pb pd ku pn alo ahi blo bhi a b) ?_ ?_ ?_
 ·intro n aH K hn bB hK;obtain⟨m',az⟩:=aH;obtain⟨bi,bj,bs,pl,zZ,es,c1,c2,c3,c4,c5⟩:=bB
  have ei:(alo:Int)+n*1=(alo+n:Nat):=VC;rw[ei];refine DY (i:=alo+n) (st:=⟨m'.set .i (.int (alo+n:Nat)),az⟩) S1.ha S1.qY S1.hB gn ha hb h2 h4 h3 (Nat.le_add_right _ _) (Rp hn) (F:=⟨c1.a,c1.b,c1.b2j,c1.DX,c1.nothing,c1.alo,c1.ahi,c1.blo,c1.bhi,c1.bi,c1.bj,c1.bs,c1.ext⟩) rfl c2 c3 c4 c5 ?_;intro st' bi bj bs pl zZ es d1 d2 d3 d4 d5;exact hK st' ⟨bi,bj,bs,pl,zZ,es,d1,d2,d3,d4,d5⟩
 ·intro aH bB;obtain⟨m',az⟩:=aH;obtain⟨bi,bj,bs,pl,zZ,es,c1,c2,c3,c4,c5⟩:=bB
  have hF:Found a b alo ahi blo bhi bi bj bs:=by
   refine cY.found h2 h4 (c5.more ?_ ?_)
   ·intro i' j' h;exact⟨h.1,Rq h1 h.2.1,h.2.2.1,h.2.2.2⟩
   ·intro i' j' h;left;exact⟨h.1,Rr h.2.1,h.2.2.1,h.2.2.2⟩
  have hle:=hF.le h1 h3;have S2:=S1.ext c1.ext;have Na:=c1.ext _ _ gj;have gb:=S2.hb;have ga:=S2.ha;dsimp only at Na gb ga;have hlim:∀n:Nat,n≤7→n<lim:=λn hn=>by unfold lim;exact O4 hn
  refine i8 ⟨.int bi,c1.bi, .int alo,c1.alo,?_⟩;have D0:exs prog w B l (.oh (.ie (.cmp .Lt (plus (.var .besti) (.var .bestsize)) (.var .ahi)) (.cmp .Lt (plus (.var .bestj) (.var .bestsize)) (.var .bhi)) (.not (.bH (.var .isbjunk) (.idx (.var .b) (plus (.var .bestj) (.var .bestsize))))) (.cmp .Eq (.idx (.var .a) (plus (.var .besti) (.var .bestsize))) (.idx (.var .b) (plus (.var .bestj) (.var .bestsize)))))
    (.aug .bestsize .Add (.int 1) .nil) .nil<|
    .oh (.ie (.cmp .Gt (.var .besti) (.var .alo)) (.cmp .Gt (.var .bestj) (.var .blo)) (.bH (.var .isbjunk) (.idx (.var .b) (minus (.var .bestj) (.int 1)))) (.cmp .Eq (.idx (.var .a) (minus (.var .besti) (.int 1))) (.idx (.var .b) (minus (.var .bestj) (.int 1)))))
    (.jQ [.besti, .bestj, .bestsize] (.dI (minus (.var .besti) (.int 1)) (minus (.var .bestj) (.int 1)) (plus (.var .bestsize) (.int 1))) .nil) .nil<|
    .oh (.ie (.cmp .Lt (plus (.var .besti) (.var .bestsize)) (.var .ahi)) (.cmp .Lt (plus (.var .bestj) (.var .bestsize)) (.var .bhi)) (.bH (.var .isbjunk) (.idx (.var .b) (plus (.var .bestj) (.var .bestsize)))) (.cmp .Eq (.idx (.var .a) (plus (.var .besti) (.var .bestsize))) (.idx (.var .b) (plus (.var .bestj) (.var .bestsize)))))
    (sv .bestsize (plus (.var .bestsize) (.int 1)) .nil) .nil<|
    .ret (.ig (.glob .Match) (.var .besti) (.var .bestj) (.var .bestsize))) (λfl st'=>Q (aW fl) st'.Ω) ⟨m',az⟩:=by
   have last:exs prog w B l (.ret (.ig (.glob .Match) (.var .besti) (.var .bestj) (.var .bestsize))) (λfl st'=>Q (aW fl) st'.Ω) ⟨m',az⟩:=by
    refine⟨.int bi,c1.bi, .int bj,c1.bj, .int bs,c1.bs,aR (by decide) (JF bT) (yL bf (Nat.lt_of_le_of_lt bT (by decide)) λr1 r q1 q2 q3=>?_)⟩;have q1:az r1=none:=q1;have q2:az r=none:=q2;refine hq r bi bj bs _ ((e5.trans c1.ext).trans ?_) ((e5.trans c1.ext).none q2) aa.set_same hF;exact(Ext.fresh q1).upd q2
   have D3:exs prog w B l (.oh (.ie (.cmp .Lt (plus (.var .besti) (.var .bestsize)) (.var .ahi)) (.cmp .Lt (plus (.var .bestj) (.var .bestsize)) (.var .bhi)) (.bH (.var .isbjunk) (.idx (.var .b) (plus (.var .bestj) (.var .bestsize)))) (.cmp .Eq (.idx (.var .a) (plus (.var .besti) (.var .bestsize))) (.idx (.var .b) (plus (.var .bestj) (.var .bestsize)))))
     (sv .bestsize (plus (.var .bestsize) (.int 1)) .nil) .nil<| .ret (.ig (.glob .Match) (.var .besti) (.var .bestj) (.var .bestsize))) (λfl st'=>Q (aW fl) st'.Ω) ⟨m',az⟩:=by
    refine i8 ⟨.int bi,c1.bi, .int bs,c1.bs,aI ⟨.int ahi,c1.ahi,?_⟩⟩
    by_cases q1:bi+bs<ahi
    ·refine bK (bN (by simp;exact Jd q1) ?_)
     refine⟨.int bj,c1.bj, .int bs,c1.bs,aI ⟨.int bhi,c1.bhi,?_⟩⟩
     by_cases q2:bj+bs<bhi
     ·refine bK (bN (by simp;exact Jd q2) ?_)
      refine⟨.ref ku,c1.DX, .ref pb,c1.b, .int bj,c1.bj, .int bs,c1.bs,aI (bY (i:=bj+bs) gb (NN) (Je h4 q2) (hlim _ hb) (i7 Na S2.hj (bu (aM rfl (aM rfl last)))))⟩
     ·exact bK (aM (by simp;exact Jk q2) (aM rfl last))
    ·exact bK (aM (by simp;exact Jk q1) (aM rfl last))
   have second:exs prog w B l (.oh (.ie (.cmp .Gt (.var .besti) (.var .alo)) (.cmp .Gt (.var .bestj) (.var .blo)) (.bH (.var .isbjunk) (.idx (.var .b) (minus (.var .bestj) (.int 1)))) (.cmp .Eq (.idx (.var .a) (minus (.var .besti) (.int 1))) (.idx (.var .b) (minus (.var .bestj) (.int 1)))))
    (.jQ [.besti, .bestj, .bestsize] (.dI (minus (.var .besti) (.int 1)) (minus (.var .bestj) (.int 1)) (plus (.var .bestsize) (.int 1))) .nil) .nil<|
     .oh (.ie (.cmp .Lt (plus (.var .besti) (.var .bestsize)) (.var .ahi)) (.cmp .Lt (plus (.var .bestj) (.var .bestsize)) (.var .bhi)) (.bH (.var .isbjunk) (.idx (.var .b) (plus (.var .bestj) (.var .bestsize)))) (.cmp .Eq (.idx (.var .a) (plus (.var .besti) (.var .bestsize))) (.idx (.var .b) (plus (.var .bestj) (.var .bestsize)))))
     (sv .bestsize (plus (.var .bestsize) (.int 1)) .nil) .nil<| .ret (.ig (.glob .Match) (.var .besti) (.var .bestj) (.var .bestsize))) (λfl st'=>Q (aW fl) st'.Ω) ⟨m',az⟩:=by
    refine i8 ⟨.int bi,c1.bi, .int alo,c1.alo,?_⟩
    by_cases q1:alo<bi
    ·refine cmp_gt (bN (by simp;exact q1) ?_)
     refine⟨.int bj,c1.bj, .int blo,c1.blo,?_⟩
     by_cases q2:blo<bj
     ·refine cmp_gt (bN (by simp;exact q2) ?_)
      refine⟨.ref ku,c1.DX, .ref pb,c1.b, .int bj,c1.bj,aX (cS (bY (i:=bj-1) gb (N2 q2) (Jh hle.2.2.2 h4 q2) (hlim _ hb) (i7 Na S2.hj (bu (aM rfl (aM rfl D3))))))⟩
     ·exact cmp_gt (aM (by simp;exact O2 q2) (aM rfl D3))
    ·exact cmp_gt (aM (by simp;exact O2 q1) (aM rfl D3))
   refine i8 ⟨.int bi,c1.bi, .int bs,c1.bs,aI ⟨.int ahi,c1.ahi,?_⟩⟩
   by_cases q1:bi+bs<ahi
   ·refine bK (bN (by simp;exact Jd q1) ?_)
    refine⟨.int bj,c1.bj, .int bs,c1.bs,aI ⟨.int bhi,c1.bhi,?_⟩⟩
    by_cases q2:bj+bs<bhi
    ·refine bK (bN (by simp;exact Jd q2) ?_)
     refine⟨.ref ku,c1.DX, .ref pb,c1.b, .int bj,c1.bj, .int bs,c1.bs,aI (bY (i:=bj+bs) gb (NN) (Je h4 q2) (hlim _ hb) (i7 Na S2.hj (bu (bN rfl ?_))))⟩;refine⟨.ref pa,c1.a, .int bi,c1.bi, .int bs,c1.bs,aI (bY (i:=bi+bs) ga (NN) (Je h2 q1) (hlim _ ha) ?_)⟩;refine⟨.ref pb,c1.b, .int bj,c1.bj, .int bs,c1.bs,aI (bY (i:=bj+bs) gb (NN) (Je h4 q2) (hlim _ hb) ?_)⟩;have:=hF.back h2 h4 q1 q2;rw[ne_eq,getD_eq (Je h2 q1) (Je h4 q2)]at this;exact dY (aM (by simpa using this) second)
    ·exact bK (aM (by simp;exact Jk q2) (aM rfl second))
   ·exact bK (aM (by simp;exact Jk q1) (aM rfl second))
  by_cases q1:alo<bi
  ·refine cmp_gt (bN (by simp;exact q1) ?_)
   refine⟨.int bj,c1.bj, .int blo,c1.blo,?_⟩
   by_cases q2:blo<bj
   ·refine cmp_gt (bN (by simp;exact q2) ?_)
    refine⟨.ref ku,c1.DX, .ref pb,c1.b, .int bj,c1.bj,aX (cS (bY (i:=bj-1) gb (N2 q2) (Jh hle.2.2.2 h4 q2) (hlim _ hb) (i7 Na S2.hj (bu (bN rfl ?_)))))⟩;refine⟨.ref pa,c1.a, .int bi,c1.bi,aX (cS (bY (i:=bi-1) ga (N2 q1) (Jh hle.2.1 h2 q1) (hlim _ ha) ?_))⟩;refine⟨.ref pb,c1.b, .int bj,c1.bj,aX (cS (bY (i:=bj-1) gb (N2 q2) (Jh hle.2.2.2 h4 q2) (hlim _ hb) ?_))⟩;have:=hF.front q1 q2;rw[ne_eq,getD_eq (Jh hle.2.1 h2 q1) (Jh hle.2.2.2 h4 q2)]at this;exact dY (aM (by simpa using this) D0)
   ·exact cmp_gt (aM (by simp;exact O2 q2) (aM rfl D0))
  ·exact cmp_gt (aM (by simp;exact O2 q1) (aM rfl D0))
 ·refine⟨alo,blo,0,pl,0,[],⟨rfl,rfl,rfl,rfl,rfl,rfl,rfl,rfl,rfl,rfl,rfl,rfl,λa o h=>by subst DZ;exact h⟩,rfl,(by subst DZ;exact gl),?_,?_⟩
  ·intro j q1 q2
   rw[Nat.add_zero,zW (a:=a) (b:=b) (p:=alo) (x:=blo) (i:=alo) (j:=j) (.inl (Nat.le_refl _))];rfl
  ·refine .inl ⟨rfl,rfl,rfl,λi' j' h=>?_⟩
   exact Rt h.1 h.2.1
end
def fE(d:Addr)(Ω az:aa):Prop:=∀a o,a≠d→Ω a=some o→az a=some o
theorem fE.trans{d:Addr}{Ω az nZ:aa}(h:fE d Ω az)(h':fE d az nZ):fE d Ω nZ:=λa o n e=>h' a o n (h a o n e)
theorem Ext.x{Ω az:aa}(h:Ext Ω az)(d:Addr):fE d Ω az:=λa o aj e=>h a o e
theorem fE.here{Ω:aa}{d:Addr}{o:bI}:fE d Ω (Ω.set d o):=λa o n h=>by rw[aa.ai n];exact h
theorem fE.set{Ω az:aa}{d:Addr}{o:bI}(h:fE d Ω az):fE d Ω (az.set d o):=h.trans .here
theorem fE.then{Ω az:aa}{d r:Addr}{o:bI}(h:fE d Ω az)(hr:az r=none):fE d Ω (az.set r o):=h.trans ((Ext.fresh hr).x d)
section
variable{b:(bl→St→Prop)→St→Prop}{Q:bl→St→Prop}
theorem BB{p:Addr}{vi vx:V}(vals:List af)(I:Nat→St→Prop)(hn:∀k st,I k st→st.Ω p=some (.list vals))
  (step:∀k x st (K:St→Prop),vals[k]?=some x→I k st→(∀st',I (k+1) st'→K st')→b (cC K Q) {st with m:=(st.m.set vi (.int k)).set vx x}) (fin:∀st,I vals.length st→Q .next st) {st:St} (h:I 0 st):∃f,mw p vi vx b Q f 0 st:=by
 have:∀f k,k+f=vals.length→∀st,I k st→mw p vi vx b Q (f+1) k st:=by
  intro f
  induction f with
  |zero=>
   intro k hk st h;show Ey _ _ _ _;rw[hn k st h];show Ex _ _ _;rw[List.getElem?_eq_none (OL hk)];have:k=vals.length:=NJ hk;rw[this]at h;exact fin st h
  |succ f ih=>
   intro k hk st h;show Ey _ _ _ _;rw[hn k st h];show Ex _ _ _;rw[List.getElem?_eq_getElem (HF hk)];exact step k _ st _ (List.getElem?_eq_getElem (HF hk)) h λst' h'=>ih (k+1) (NR hk) st' h'
 exact⟨_,this vals.length 0 (OM) st h⟩
end
section
variable{prog:Program}{w:World}{B:Addr→Option Obj}{Ω:aa}{l:Nat}{Q:af→aa→Prop}
theorem i9{s d:Addr}{k:Nat}{m:At→Option af}{n:MN}{f:Addr}(hs:Ω s=some (.inst 242 d))(hd:Ω d=some (.ns k m))(hf:jq 242 n=some f):fG Ω n (.ref s) (.ref f):= .own hs hd hf
theorem qd(h:∀r,Ω r=none→Q (.ref r) (Ω.set r (.set 0 λaj=>false))):aZ prog w B l (.type .set) [] Q Ω:= .ty (.set h)
theorem wm{p:Addr}{ep:Nat}{es:List (Int×af)}{k:Int}{x y:af}(hp:Ω p=some (.dict ep es))(hl:es.length<lim)(hy:aO es k=some y)(h:Q y Ω):aZ prog w B l (.builtin .iR) [.ref p, .int k,x] Q Ω:= .bi (.Ce hp hl hy h)
theorem wo{p:Addr}{ep:Nat}{es:List (Int×af)}{k:Int}{x:af}(hp:Ω p=some (.dict ep es))(hl:es.length<lim)(hy:aO es k=none)(h:∀cK,Q x (Ω.set p (.dict cK (dput es k x)))):aZ prog w B l (.builtin .iR) [.ref p, .int k,x] Q Ω:=by
 exact .bi (.Cf hp hl hy h)
theorem qe{R:Bool→Prop}(h:R false):cW .none R Ω:= .none h
inductive Nb(bA:aa)(s pb pd:Addr)(b:List Int)(i:Nat)(st:St):Prop
 |mk (q1:st.m .self=some (.ref s)) (q2:st.m .b=some (.ref pb)) (q3:st.m .b2j=some (.ref pd)) (q4:fE pd bA st.Ω) (ep:Nat) (es:List (Int×af)) (q5:st.Ω pd=some (.dict ep es)) (q6:es.length≤i) (q7:(∀e:Int,(aO es e=none∧idxs b i e=[])∨∃pe,aO es e=some (.ref pe)∧st.Ω pe=some (.list (av ((idxs b i e).map Int.ofNat)))∧bA pe=none∧pe≠pd)) (q8:(∀e e' x,aO es e=some x→aO es e'=some x→e=e')):Nb bA s pb pd b i st
theorem zf(bf:BF prog w B){s d pb:Addr}{k:Nat}{m:At→Option af}{b:List Int}(hs:Ω s=some (.inst 242 d))(hd:Ω d=some (.ns k m))(hk:k<800)(BC:s≠d)(hbd:pb≠d)(mb:m .b=some (.ref pb))(mi:m .isjunk=some .none)(mj:m .autojunk=some (.bool false))(hb:Ω pb=some (.list (av b)))(wz:b.length≤7)
  (hq:∀az m' pd pj lA jn,fE d Ω az→az d=some (.ns (k+3) m')→(∀t,t≠ .b2j→t≠ .bjunk→t≠ .bpopular→m' t=m t)→m' .b2j=some (.ref pd)→m' .bjunk=some (.ref pj)→az pd=some (.dict lA jn)→IX b az jn→az pj=some (.set 0 λaj=>false)→Q .none az):aF prog w B l (.ref 188) [.ref s] Q Ω:=by
 refine yI bf ?_;refine⟨.ref s,rfl,cU hs hd mb ?_⟩;intro pd qY;have qY:Ω pd=none:=qY;have hne:d≠pd:=aE hd qY;refine⟨.ref s,rfl,bx (au hs qY) (au hd qY) rfl (NK hk) ?_⟩
 let m1:=ef.set m .b2j (.ref pd)
 have G3:pb≠pd:=aE hb qY;have eB:fE d Ω ((Ω.set pd (.dict 0 [])).set d (.ns (k+1) m1)):=((Ext.fresh qY).x d).set;have eD:((Ω.set pd (.dict 0 [])).set d (.ns (k+1) m1)) d=some (.ns (k+1) m1):=aa.set_same;have eP:((Ω.set pd (.dict 0 [])).set d (.ns (k+1) m1)) pd=some (.dict 0 []):=by rw[aa.ai (Ne.symm hne),aa.set_same]
 refine⟨.ref pb,rfl,?_⟩;generalize DZ:((Ω.set pd (.dict 0 [])).set d (.ns (k+1) m1))=bA at eB eD eP;refine BB (av b) (I:=Nb bA s pb pd b) ?_ ?_ ?_ ?_
 ·intro i aH bB;obtain⟨m',az⟩:=aH;obtain⟨a1,a2,a3,a4,_⟩:=bB
  exact a4 pb _ G3 (eB pb _ hbd hb)
 ·intro i x aH K hx bB hK;obtain⟨m',az⟩:=aH;obtain⟨a1,a2,a3,a4,ep,es,a5,a6,a7,a8⟩:=bB
  have hi:i<b.length:=by
   cases Nat.lt_or_ge i b.length with
   |inl h=>exact h
   |inr h=>rw[List.getElem?_eq_none (by rw[aq];exact h)]at hx;cases hx
  rw[pT hi]at hx;cases hx;dsimp only at a1 a2 a3 a4 a5 a7;have hbi:b[i]?=some (b.getD i 0):=by rw[List.getD_eq_getElem?_getD,List.getElem?_eq_getElem hi];rfl
  generalize b.getD i 0=e at hbi;have G4:∀e',e'≠e→idxs b (i+1) e'=idxs b i e':=λe' h=>by
   rw[sq,if_neg];rw[hbi];intro q;exact h (Option.some.inj q).symm
  have D4:idxs b (i+1) e=idxs b i e++[i]:=by rw[sq,if_pos hbi]
  refine⟨.ref pd,a3,_,i6 a5 rfl, .int e,rfl,λr hr=>?_⟩;have hr:az r=none:=hr;have BD:pd≠r:=aE a5 hr;have r1:∀{o},bA r=some o→r=pd:=λ{o} h=>by
   by_cases q:r=pd
   ·exact q
   ·rw[a4 r _ q h]at hr;cases hr
  have XK:bA r=none:=by
   cases q:bA r with
   |none=>rfl
   |some o=>exact absurd (r1 q).symm BD
  rcases a7 e with⟨q1,q2⟩|⟨pe,q1,q2,q3,q4⟩
  ·refine wo (au a5 hr) (by unfold lim;exact QA a6 wz hi) q1 λcK=>?_
   refine⟨.ref r,rfl,_,aU (ys:=[]) ?_ rfl, .int i,rfl,aY (ys:=[]) ?_ (by simp[lim]) ?_⟩
   ·show ((az.set r _).set pd _) r=_
    rw[aa.ai (Ne.symm BD),aa.set_same]
   ·show ((az.set r _).set pd _) r=_
    rw[aa.ai (Ne.symm BD),aa.set_same]
   ·refine hK _ ⟨a1,a2,a3,?_,cK,dput es e (.ref r),?_,?_,?_,?_⟩
    ·intro z o hz ho
     have:z≠r:=λq=>by rw[q,XK]at ho;cases ho
     show (((az.set r _).set pd _).set r _) z=_;rw[aa.ai this,aa.ai hz,aa.ai this];exact a4 z o hz ho
    ·show (((az.set r _).set pd _).set r _) pd=_
     rw[aa.ai BD,aa.set_same]
    ·have:=fz es e (.ref r);exact QB this a6
    ·intro e'
     by_cases q:e'=e
     ·subst q
      refine .inr ⟨r,by rw[fc,if_pos rfl],?_,XK,Ne.symm BD⟩;show (((az.set r _).set pd _).set r _) r=_;rw[aa.set_same,D4,q2];rfl
     ·rw[fc,if_neg q,G4 e' q]
      rcases a7 e' with h|⟨pe,h1,h2,h3,h4⟩
      ·exact .inl h
      ·refine .inr ⟨pe,h1,?_,h3,h4⟩
       have:pe≠r:=aE h2 hr;show (((az.set r _).set pd _).set r _) pe=_;rw[aa.ai this,aa.ai h4,aa.ai this];exact h2
    ·intro e1 e2 x h1 h2
     rw[fc]at h1 h2
     by_cases z1:e1=e<;>by_cases z2:e2=e
     ·rw[z1,z2]
     ·exfalso
      rw[if_pos z1]at h1;rw[if_neg z2]at h2;cases h1
      rcases a7 e2 with⟨h,_⟩|⟨pe,h3,h4,_⟩
      ·rw[h]at h2;cases h2
      ·rw[h3]at h2;cases h2;rw[hr]at h4;cases h4
     ·exfalso
      rw[if_neg z1]at h1;rw[if_pos z2]at h2;cases h2
      rcases a7 e1 with⟨h,_⟩|⟨pe,h3,h4,_⟩
      ·rw[h]at h1;cases h1
      ·rw[h3]at h1;cases h1;rw[hr]at h4;cases h4
     ·rw[if_neg z1]at h1;rw[if_neg z2]at h2
      exact a8 e1 e2 x h1 h2
  ·have hper:pe≠r:=aE q2 hr
   refine wm (au a5 hr) (by unfold lim;exact QA a6 wz hi) q1 ?_;refine⟨.ref pe,rfl,_,aU (au q2 hr) rfl, .int i,rfl,aY (au q2 hr) ?_ ?_⟩
   ·rw[aq,List.length_map]
    have:(idxs b i e).length≤i:=by unfold idxs;refine Nat.le_trans (List.length_filter_le ..) ?_;rw[List.length_range];exact ON
    unfold lim;exact QA this wz hi
   ·refine hK _ ⟨a1,a2,a3,?_,ep,es,?_,HA a6,?_,a8⟩
    ·intro z o hz ho
     have t1:z≠r:=λq=>by rw[q,XK]at ho;cases ho
     have t2:z≠pe:=λq=>by rw[q,q3]at ho;cases ho
     show ((az.set r _).set pe _) z=_;rw[aa.ai t2,aa.ai t1];exact a4 z o hz ho
    ·show ((az.set r _).set pe _) pd=_
     rw[aa.ai (Ne.symm q4),aa.ai BD];exact a5
    ·intro e'
     by_cases q:e'=e
     ·subst q
      refine .inr ⟨pe,q1,?_,q3,q4⟩;show ((az.set r _).set pe _) pe=_;rw[aa.set_same,D4,List.map_append,←dH];rfl
     ·rw[G4 e' q]
      rcases a7 e' with h|⟨Ol,h1,h2,h3,h4⟩
      ·exact .inl h
      ·refine .inr ⟨Ol,h1,?_,h3,h4⟩
       have t1:Ol≠pe:=λz=>q (a8 e' e (.ref pe) (by rw[←z];exact h1) q1)
       have t2:Ol≠r:=aE h2 hr;show ((az.set r _).set pe _) Ol=_;rw[aa.ai t1,aa.ai t2];exact h2
 ·intro aH bB;obtain⟨m',az⟩:=aH;obtain⟨a1,a2,a3,a4,ep,es,a5,a6,a7,a8⟩:=bB
  rw[aq]at a7;dsimp only at a1 a2 a3 a4 a5 a7;have qX:s≠pd:=aE hs qY;have s1:=a4 s _ qX (eB s _ BC hs);have d1:=a4 d _ hne eD;refine qd λpj hj=>?_
  have hj:az pj=none:=hj;have Y8:d≠pj:=aE d1 hj;have hjpd:pd≠pj:=aE a5 hj;refine⟨.ref s,a1,bx (au s1 hj) (au d1 hj) rfl (Nat.lt_of_le_of_lt hk (by decide)) ?_⟩;have s2:((az.set pj (.set 0 λaj=>false)).set d (.ns (k+1+1) (ef.set m1 .bjunk (.ref pj)))) s=some (.inst 242 d):=by rw[aa.ai BC];exact au s1 hj
  have d2:((az.set pj (.set 0 λaj=>false)).set d (.ns (k+1+1) (ef.set m1 .bjunk (.ref pj)))) d=some (.ns (k+1+1) (ef.set m1 .bjunk (.ref pj))):=aa.set_same;refine⟨.ref s,a1,cU s2 d2 (show (ef.set m1 .bjunk (.ref pj)) .isjunk=some .none from mi) ?_⟩;refine⟨.none,rfl,qe (aM rfl ?_)⟩;refine qd λpp hp=>?_
  have hp:((az.set pj (.set 0 λaj=>false)).set d (.ns (k+1+1) (ef.set m1 .bjunk (.ref pj)))) pp=none:=hp;refine⟨.ref s,a1,bx (au s2 hp) (au d2 hp) rfl (QI hk) ?_⟩;have hppd:d≠pp:=aE d2 hp;have hb2:=eB pb _ hbd hb;have XM:=a4 pb _ G3 hb2
  let dB:=((az.set pj (.set 0 λaj=>false)).set d (.ns (k+1+1) (ef.set m1 .bjunk (.ref pj))))
  let cV:=(dB.set pp (.set 0 λaj=>false)).set d (.ns (k+1+1+1) (ef.set (ef.set m1 .bjunk (.ref pj)) .bpopular (.ref pp)))
  have x3:fE d az cV:=((((Ext.fresh hj).x d).set).then hp).set;refine⟨.ref pb,a2,cj (x3 pb _ hbd XM) (by unfold lim;exact O4 wz) ?_⟩;refine⟨.ref s,a1,cU (x3 s _ BC s1) (show cV d=some _ from aa.set_same) (show (ef.set (ef.set m1 .bjunk (.ref pj)) .bpopular (.ref pp)) .autojunk=some (.bool false)from mj) (bu (aM rfl (aM rfl ?_)))⟩;refine hq cV (ef.set (ef.set m1 .bjunk (.ref pj)) .bpopular (.ref pp)) pd pj ep es ?_ aa.set_same ?_ rfl rfl ?_ ?_ ?_
  ·intro z o hz ho
   have:z≠pd:=aE ho qY;exact x3 z o hz (a4 z o this (eB z o hz ho))
  ·intro t t1 t2 t3
   show (ef.set (ef.set (ef.set m .b2j (.ref pd)) .bjunk (.ref pj)) .bpopular (.ref pp)) t=m t;unfold ef.set;rw[if_neg t3,if_neg t2,if_neg t1]
  ·exact x3 pd _ (Ne.symm hne) a5
  ·intro e
   rcases a7 e with h|⟨pe,h1,h2,h3,h4⟩
   ·exact .inl h
   ·have:pe≠d:=λq=>by rw[q,eD]at h3;cases h3
    exact .inr ⟨pe,h1,x3 pe _ this h2⟩
  ·show ((dB.set pp _).set d _) pj=_
   have t1:dB pj=some (.set 0 λaj=>false):=by show (az.set pj _ |>.set d _) pj=_;rw[aa.ai (Ne.symm Y8),aa.set_same]
   rw[aa.ai (Ne.symm Y8)];exact au t1 hp
 ·refine⟨rfl,rfl,rfl,?_,0,[],?_,Nat.le_refl _,λe=> .inl ⟨rfl,rfl⟩,λe e' x h=>by cases h⟩
  ·intro z o _ h;subst DZ;exact h
  ·subst DZ;exact eP
theorem ao{Ω:aa}{x y:Addr}{o o':bI}(h:Ω x=some o)(h':Ω y=some o')(hne:o≠o'):x≠y:=λq=>by
 subst q;rw[h]at h';exact hne (Option.some.inj h')
theorem BE(bf:BF prog w B)(bT:l<58){s d pb:Addr}{k:Nat}{m:At→Option af}{b:List Int}(hs:Ω s=some (.inst 242 d))(hd:Ω d=some (.ns k m))(hk:k<700)(mb:m .b=some .none)(mi:m .isjunk=some .none)(mj:m .autojunk=some (.bool false))(hb:Ω pb=some (.list (av b)))(wz:b.length≤7)
  (hq:∀az m' pd pj lA jn,fE d Ω az→az d=some (.ns (k+7) m')→m' .a=m .a→m' .b=some (.ref pb)→m' .matching_blocks=some .none→m' .b2j=some (.ref pd)→m' .bjunk=some (.ref pj)→az pd=some (.dict lA jn)→IX b az jn→az pj=some (.set 0 λaj=>false)→Q .none az):aF prog w B l (.ref 181) [.ref s, .ref pb] Q Ω:=by
 have BC:s≠d:=ao hs hd (by simp);have hbd:pb≠d:=ao hb hd (by simp);refine t6 bf ?_;refine⟨.ref pb,rfl, .ref s,rfl,cU hs hd mb (dD (aM rfl ?_))⟩;have hs1:∀{az:aa} {o},az s=some (.inst 242 d)→(az.set d o) s=some (.inst 242 d):=λ{az o} h=>by rw[aa.ai BC];exact h
 refine⟨.ref pb,rfl, .ref s,rfl,bx hs hd rfl (Nat.lt_add_left _ hk) ?_⟩;refine⟨.ref s,rfl,bx (hs1 hs) aa.set_same rfl (Nat.lt_of_le_of_lt hk (by decide)) ⟨.ref s,rfl,bx (hs1 (hs1 hs)) aa.set_same rfl (Ka hk) ?_⟩⟩;refine⟨.ref s,rfl,bx (hs1 (hs1 (hs1 hs))) aa.set_same rfl (QJ hk) ?_⟩;refine⟨.ref s,rfl, .ref 188,i9 (hs1 (hs1 (hs1 (hs1 hs)))) aa.set_same rfl,aR (by decide) (JF bT) ?_⟩;rw[aa.set_set,aa.set_set,aa.set_set];refine zf bf (hs1 hs) aa.set_same (QK hk) BC hbd rfl mi mj ((aa.ai hbd).trans hb) wz λaz m' pd pj lA jn x1 x2 x3 x4 x5 x6 x7 x8=>?_
 exact hq az m' pd pj lA jn (fE.here.trans x1) x2 (x3 .a (by decide) (by decide) (by decide)) (x3 .b (by decide) (by decide) (by decide)) (x3 .matching_blocks (by decide) (by decide) (by decide)) x4 x5 x6 x7 x8
theorem BG(bf:BF prog w B){s d pa:Addr}{k:Nat}{m:At→Option af}(hs:Ω s=some (.inst 242 d))(hd:Ω d=some (.ns k m))(hk:k<700)(ma:m .a=some .none)
  (hq:∀m',m' .a=some (.ref pa)→(∀t,t≠ .a→t≠ .matching_blocks→t≠ .opcodes→m' t=m t)→Q .none (Ω.set d (.ns (k+3) m'))):aF prog w B l (.ref 174) [.ref s, .ref pa] Q Ω:=by
 have BC:s≠d:=ao hs hd (by simp);refine tZ bf ?_;refine⟨.ref pa,rfl, .ref s,rfl,cU hs hd ma (dD (aM rfl ?_))⟩;have hs1:∀{az:aa} {o},az s=some (.inst 242 d)→(az.set d o) s=some (.inst 242 d):=λ{az o} h=>by rw[aa.ai BC];exact h
 refine⟨.ref pa,rfl, .ref s,rfl,bx hs hd rfl (Nat.lt_add_left _ hk) ?_⟩;refine⟨.ref s,rfl,bx (hs1 hs) aa.set_same rfl (Nat.lt_of_le_of_lt hk (by decide)) ⟨.ref s,rfl,bx (hs1 (hs1 hs)) aa.set_same rfl (Ka hk) ?_⟩⟩;rw[aa.set_set,aa.set_set];refine hq _ rfl λt t1 t2 t3=>?_
 unfold ef.set;rw[if_neg t3,if_neg t2,if_neg t1]
theorem BH(bf:BF prog w B)(bT:l<57){s d pa pb:Addr}{k:Nat}{m:At→Option af}{a b:List Int}(hs:Ω s=some (.inst 242 d))(hd:Ω d=some (.ns k m))(hk:k<600)(ma:m .a=some .none)(mb:m .b=some .none)(mi:m .isjunk=some .none)(mj:m .autojunk=some (.bool false))(ha:Ω pa=some (.list (av a)))(hb:Ω pb=some (.list (av b)))(wz:b.length≤7)
  (hq:∀az m' pd pj lA jn,fE d Ω az→wj az s d pa pb pd pj (k+10) m' lA jn a b→m' .matching_blocks=some .none→Q .none az):aF prog w B l (.ref 167) [.ref s, .ref pa, .ref pb] Q Ω:=by
 have BC:s≠d:=ao hs hd (by simp);have hbd:pb≠d:=ao hb hd (by simp);have had:pa≠d:=ao ha hd (by simp);refine tY bf ?_;refine⟨.ref s,rfl, .ref 174,i9 hs hd rfl, .ref pa,rfl,aR (by decide) (Nat.lt_add_left _ bT) (BG bf hs hd (Nat.lt_add_left _ hk) ma λm1 h1 h2=>?_)⟩;have hs1:(Ω.set d (.ns (k+3) m1)) s=some (.inst 242 d):=by rw[aa.ai BC];exact hs
 have hb1:(Ω.set d (.ns (k+3) m1)) pb=some (.list (av b)):=by rw[aa.ai hbd];exact hb
 refine⟨.ref s,rfl, .ref 181,i9 hs1 aa.set_same rfl, .ref pb,rfl,aR (by decide) (Nat.lt_add_left _ bT) (BE bf (Nat.succ_lt_succ bT) hs1 aa.set_same (QL hk) ?_ ?_ ?_ hb1 wz λaz m' pd pj lA jn x1 x2 x3 x4 x5 x6 x7 x8 x9 Om=>?_)⟩
 ·rw[h2 .b (by decide) (by decide) (by decide)];exact mb
 ·rw[h2 .isjunk (by decide) (by decide) (by decide)];exact mi
 ·rw[h2 .autojunk (by decide) (by decide) (by decide)];exact mj
 ·have x:=fE.here.trans x1
  exact hq az m' pd pj lA jn x ⟨x s _ BC hs,x2,x3.trans h1,x4,x6,x7,x pa _ had ha,x pb _ hbd hb,x8,x9,Om⟩ x5
theorem FD(bf:BF prog w B)(bT:l<55){pa pb:Addr}{a b:List Int}(ha:Ω pa=some (.list (av a)))(hb:Ω pb=some (.list (av b)))(wz:b.length≤7)
  (hq:∀s d az m' pd pj k lA jn,Ext Ω az→Ω d=none→k≤20→wj az s d pa pb pd pj k m' lA jn a b→m' .matching_blocks=some .none→Q (.ref s) az):aF prog w B l (.ref 242) [.none, .ref pa, .ref pb, .bool false] Q Ω:=by
 refine Fd bf (OP bT) λs d h1 h2 h3=>?_
 have hs0:((Ω.set d (.ns 0 λaj=>none)).set s (.inst 242 d)) s=some (.inst 242 d):=aa.set_same;have hd0:((Ω.set d (.ns 0 λaj=>none)).set s (.inst 242 d)) d=some (.ns 0 λaj=>none):=by rw[aa.ai (Ne.symm h3),aa.set_same]
 have e0:Ext Ω ((Ω.set d (.ns 0 λaj=>none)).set s (.inst 242 d)):=((Ext.refl Ω).upd h2).upd h1;have hs1:∀{az:aa} {o},az s=some (.inst 242 d)→(az.set d o) s=some (.inst 242 d):=λ{az o} h=>by rw[aa.ai h3];exact h
 refine⟨.none,rfl, .ref s,rfl,bx hs0 hd0 rfl (by decide) ?_⟩;refine⟨.ref s,rfl,bx (hs1 hs0) aa.set_same rfl (by decide) ⟨.ref s,rfl,bx (hs1 (hs1 hs0)) aa.set_same rfl (by decide) ?_⟩⟩;refine⟨.bool false,rfl, .ref s,rfl,bx (hs1 (hs1 (hs1 hs0))) aa.set_same rfl (by decide) ?_⟩;refine⟨.ref s,rfl, .ref 167,i9 (hs1 (hs1 (hs1 (hs1 hs0)))) aa.set_same rfl, .ref pa,rfl, .ref pb,rfl,aR (by decide) (Nat.lt_of_le_of_lt bT (by decide)) ?_⟩;rw[aa.set_set,aa.set_set,aa.set_set];have e1:Ext Ω (((Ω.set d (.ns 0 λaj=>none)).set s (.inst 242 d)).set d (.ns 4 (ef.set (ef.set (ef.set (ef.set (λaj=>none) .isjunk .none) .a .none) .b .none) .autojunk (.bool false)))):=e0.upd h2;refine BH bf (Pc bT) (hs1 hs0) aa.set_same (by decide) rfl rfl rfl rfl (e1 _ _ ha) (e1 _ _ hb) wz λaz m' pd pj lA jn x1 x2 x3=>?_
 refine⟨rfl,hq s d az m' pd pj _ lA jn ?_ h2 (by decide) x2 x3⟩;exact λz o hz=>x1 z o (aE hz h2) (e1 z o hz)
end
structure kB where
 p:Nat
 q:Nat
 x:Nat
 y:Nat
def kB.ok(w:kB)(n m:Nat):Prop:=w.p≤w.q∧w.q≤n∧w.x≤w.y∧w.y≤m
noncomputable def kB.tup(w:kB):List af:=[.int w.p, .int w.q, .int w.x, .int w.y]
noncomputable def kB.sz(w:kB):Nat:=2*(w.q-w.p)+1
inductive GS(a b:List Int):List kB→List Rn→Prop where
 |nil:GS a b [] []
 |snoc {ws:List kB} {w:kB} {Gs G:List Rn} (h:GS a b ws Gs) (hw:bz a b w.p w.q w.x w.y G):GS a b (ws++[w]) (Gs++G)
theorem GS.inv{a b:List Int}{ws:List kB}{w:kB}{Gs:List Rn}(h:GS a b (ws++[w]) Gs):∃G1 G2,GS a b ws G1∧bz a b w.p w.q w.x w.y G2∧Gs=G1++G2:=by
 generalize e:ws++[w]=X at h;cases h with
 |nil=>simp at e
 |snoc h1 h2=>
  have:=List.append_inj' e rfl;obtain⟨rfl,e2⟩:=this;cases e2;exact⟨_,_,h1,h2,rfl⟩
theorem bz.len{a b:List Int}{p q x y:Nat}{G:List Rn}(h:bz a b p q x y G):G.length≤q-p:=by
 induction h with
 |nil h=>exact Nat.zero_le _
 |node h1 h2 h3 hl hr il ir=>
  have:=h1.1;unfold mT at h2;rw[List.length_append,List.length_cons];exact Tv h2.2.1 il ir h2.1 this
noncomputable def bZ{α:Type}(zs:List (Addr×α)):List af:=zs.map λz=> .ref z.1
theorem gF{α:Type}(zs:List (Addr×α))(z:Addr×α):bZ zs++[.ref z.1]=bZ (zs++[z]):=by simp[bZ]
section
variable{prog:Program}{w:World}{B:Addr→Option Obj}{Ω:aa}{l:Nat}{Q:af→aa→Prop}
theorem zg{p:Addr}{zs:List (Addr×Int×Int×Int)}(hp:Ω p=some (.list (refsOf zs)))(ht:bk .cZ Ω zs)(hl:zs.length<64)(h:∀zs',zs'.Perm zs→dQ zs'→Q .none (Ω.set p (.list (refsOf zs')))):aZ prog w B l (.builtin .nQ) [.ref p] Q Ω:= .bi (.nQ hp ht hl h)
noncomputable def uB(ws:List (Addr×kB)):Nat:=sm (λz=>z.2.sz) ws
theorem nP:∀ws:List (Addr×kB),ws.length≤uB ws
 |[]=>Nat.le_refl _
 |w::ws=>by
  have:=nP ws;unfold uB at this ⊢;simp only[lg,lq,List.length_cons];have h1:1≤w.2.sz:=by unfold kB.sz;exact Nat.le_add_left _ _
  exact Tw h1 this
structure MQ(fC:aa)(a b:List Int)(s pq pm:Addr)(ws:List (Addr×kB))(zs:List (Addr×Rn))(st:St):Prop where
 self:st.m .self=some (.ref s)
 queue:st.m .queue=some (.ref pq)
 mb:st.m .matching_blocks=some (.ref pm)
 la:st.m .la=some (.int a.length)
 lb:st.m .lb=some (.int b.length)
 ext:Ext fC st.Ω
 hq:st.Ω pq=some (.list (bZ ws))
 hm:st.Ω pm=some (.list (bZ zs))
 hw:∀z∈ws,st.Ω z.1=some (.tup z.2.tup)∧z.2.ok a.length b.length
 hz:∀z∈zs,st.Ω z.1=some (.cZ [.int z.2.i, .int z.2.j, .int z.2.s])
 Oo:∀Gs,GS a b (ws.map (·.2)) Gs→∃G,bz a b 0 a.length 0 b.length G∧(zs.map (·.2)++Gs).Perm G
 lw:zs.length+uB ws≤20
noncomputable def BJ:MS:=
 (.asg [.tup [.alo, .ahi, .blo, .bhi]] (.bX (.var .queue) .pop)<|
  .asg [.tup [.i, .j, .k], .var .x] (.rG (.var .self) .find_longest_match (.var .alo) (.var .ahi) (.var .blo) (.var .bhi))<|
  .ifs (.var .k)
  (app (.var .matching_blocks) (.var .x)<|
   .ifs (.gZ (.cmp .Lt (.var .alo) (.var .i)) (.cmp .Lt (.var .blo) (.var .j))) (app (.var .queue) (.nj (.var .alo) (.var .i) (.var .blo) (.var .j)) .nil) .nil<|
   .ifs (.gZ (.cmp .Lt (plus (.var .i) (.var .k)) (.var .ahi)) (.cmp .Lt (plus (.var .j) (.var .k)) (.var .bhi))) (app (.var .queue) (.nj (plus (.var .i) (.var .k)) (.var .ahi) (plus (.var .j) (.var .k)) (.var .bhi)) .nil) .nil .nil)
  .nil .nil)
theorem uo{n:Nat}(h:n≠0):((n:Int) !=0)=true:=by simpa using h
theorem zh(bf:BF prog w B)(bT:l<50){fC:aa}{s d pa pb pd pj pq pm:Addr}{k:Nat}{m:At→Option af}{lA:Nat}{jn:List (Int×af)}{a b:List Int}(S:wj fC s d pa pb pd pj k m lA jn a b)(ha:a.length≤7)(hb:b.length≤7)(nq:fC pq=none)(nm:fC pm=none)(Jx:pq≠pm)
  {ws:List (Addr×kB)} {tw:Addr} {wn:kB} {zs:List (Addr×Rn)} {st:St} (M:MQ fC a b s pq pm (ws++[(tw,wn)]) zs st) {K:St→Prop} {QQ:bl→St→Prop}
  (hK:∀Nc zs' st',uB Nc<uB (ws++[(tw,wn)])→MQ fC a b s pq pm Nc zs' st'→K st'):exs prog w B l BJ (cC K QQ) st:=by
 obtain⟨m',az⟩:=st;have jG:az pq=some (.list (bZ ws++[.ref tw])):=by have:=M.hq;rw[←gF (z:=(tw,wn))]at this;exact this
 have Nd:az pm=some (.list (bZ zs)):=M.hm;obtain⟨hw1,XN,Oq,XO,Ot⟩:=M.hw (tw,wn) (by simp);simp only at hw1 XN Oq XO Ot;have htq:tw≠pq:=ao hw1 jG (by simp);have hsz:uB (ws++[(tw,wn)])=uB ws+wn.sz:=by unfold uB;rw[cT];simp[lg,lq]
 have BK:=M.lw;rw[hsz]at BK;have hwl:=nP ws;refine⟨.ref pq,M.queue,_,aU jG rfl,v8 jG (by unfold bZ;rw[List.length_map];unfold lim;exact Tz BK hwl) ?_⟩;refine zX (ys:=wn.tup) ?_ rfl ?_
 ·show (az.set pq _) tw=_
  rw[aa.ai htq];exact hw1
 have e0:Ext fC (az.set pq (.list (bZ ws))):=M.ext.upd nq;have S1:=S.ext e0;refine⟨.ref s,M.self, .ref 196,i9 S1.hs S1.hd rfl, .int wn.p,rfl, .int wn.q,rfl, .int wn.x,rfl, .int wn.y,rfl,aR (by decide) (Nat.lt_add_left _ bT) ?_⟩;refine find_spec bf (Nat.lt_of_le_of_lt bT (by decide)) S1 ha hb XN Oq XO Ot λr bi bj bs dB x1 x2 x3 x4=>?_
 refine zY x3 rfl ?_;have hle:=x4.le XN XO;refine⟨.int bs,rfl,kZ ?_⟩;have xq:dB pq=some (.list (bZ ws)):=x1 _ _ aa.set_same;have keep:∀z o,z≠pq→az z=some o→dB z=some o:=λz o hz ho=>x1 z o (by rw[aa.ai hz];exact ho)
 have xm:dB pm=some (.list (bZ zs)):=keep pm _ (Ne.symm Jx) Nd;have xw:∀z∈ws,dB z.1=some (.tup z.2.tup)∧z.2.ok a.length b.length:=λz hz=>by
  have h:=M.hw z (List.mem_append_left _ hz);have h1:az z.1=some (.tup z.2.tup):=h.1;exact⟨keep _ _ (ao h1 jG (by simp)) h1,h.2⟩
 have xz:∀z∈zs,dB z.1=some (.cZ [.int z.2.i, .int z.2.j, .int z.2.s]):=λz hz=>by
  have h1:az z.1=_:=M.hz z hz;exact keep _ _ (ao h1 jG (by simp)) h1
 have xe:Ext fC dB:=e0.trans x1
 by_cases IZ:bs=0
 ·subst IZ
  refine aM rfl ?_;refine hK ws zs _ (by rw[hsz];unfold kB.sz;exact TA) ⟨M.self,M.queue,M.mb,M.la,M.lb,xe,xq,xm,xw,xz,?_,by unfold kB.sz at BK;exact TF BK⟩;intro Gs G5;have hno:bz a b wn.p wn.q wn.x wn.y []:=by
   rcases x4 with⟨_,_,_,h⟩|⟨h,_⟩
   ·exact .nil h
   ·exact(JU h).elim
  have:=M.Oo (Gs++[]) (by rw[List.map_append];exact G5.snoc hno)
  rwa [List.append_nil]at this
 ·refine bN (uo IZ) ?_
  obtain⟨f1,f2,f3,f4⟩:0<bs∧Run a b ⟨bi,bj,bs⟩∧mT wn.p wn.q wn.x wn.y ⟨bi,bj,bs⟩∧∀v,Run a b v→mT wn.p wn.q wn.x wn.y v→B4 ⟨bi,bj,bs⟩ v:=by
   rcases x4 with⟨h,_⟩|h
   ·exact absurd h IZ
   ·exact h
  have G6:∀{x y u v:Nat},(v≤u∨y≤x)→bz a b x y u v []:=λ{x y u v} h=> .nil λr hr hw=>by
   have:=hr.1;unfold mT at hw;exact TG h hw.1 hw.2.1 hw.2.2.1 hw.2.2.2 this
  have hzl:zs.length<1000:=TH BK;have hzs:wn.sz=2*(wn.q-wn.p)+1:=rfl;have hz1:(zs++[(r,(⟨bi,bj,bs⟩:Rn))]).length=zs.length+1:=by simp
  refine⟨.ref pm,M.mb,_,aU xm rfl, .ref r,rfl,aY xm (by unfold bZ;rw[List.length_map];unfold lim;exact TJ BK) ?_⟩;have Y9:r≠pq:=by
   intro q;rw[q,aa.set_same]at x2;cases x2
  have hrm:r≠pm:=ao x3 xm (by simp);have e3:bZ zs++[.ref r]=bZ (zs++[(r,(⟨bi,bj,bs⟩:Rn))]):=gF zs (r,⟨bi,bj,bs⟩);rw[e3]
  let cV:=dB.set pm (.list (bZ (zs++[(r,(⟨bi,bj,bs⟩:Rn))])))
  have yq:cV pq=some (.list (bZ ws)):=by show (dB.set pm _) pq=_;rw[aa.ai Jx];exact xq
  have ym:cV pm=some (.list (bZ (zs++[(r,(⟨bi,bj,bs⟩:Rn))]))):=aa.set_same;have ye:Ext fC cV:=xe.upd nm;have yw:∀z∈ws,cV z.1=some (.tup z.2.tup)∧z.2.ok a.length b.length:=λz hz=>by
   refine⟨?_,(xw z hz).2⟩;show (dB.set pm _) z.1=_;rw[aa.ai (ao (xw z hz).1 xm (by simp))];exact(xw z hz).1
  have yz:∀z∈zs++[(r,(⟨bi,bj,bs⟩:Rn))],cV z.1=some (.cZ [.int z.2.i, .int z.2.j, .int z.2.s]):=λz hz=>by
   have h1:dB z.1=some (.cZ [.int z.2.i, .int z.2.j, .int z.2.s]):=by
    rcases List.mem_append.mp hz with hz|hz
    ·exact xz z hz
    ·rw[List.mem_singleton]at hz;subst hz;exact x3
   show (dB.set pm _) z.1=_;rw[aa.ai (ao h1 xm (by simp))];exact h1
  have node:∀{gl gr:List Rn},bz a b wn.p bi wn.x bj gl→bz a b (bi+bs) wn.q (bj+bs) wn.y gr→bz a b wn.p wn.q wn.x wn.y (gl++⟨bi,bj,bs⟩::gr):=λhl hr=> .node f2 f3 f4 hl hr
  have perm:∀(G1 gl gr G:List Rn),(zs.map (·.2)++(G1++(gl++(⟨bi,bj,bs⟩:Rn)::gr))).Perm G→((zs++[(r,(⟨bi,bj,bs⟩:Rn))]).map (·.2)++(G1++(gl++gr))).Perm G:=λG1 gl gr G h=>by
   refine List.Perm.trans ?_ h;rw[List.map_append,List.append_assoc];refine List.Perm.append_left _ ?_;simp only[List.map_cons,List.map_nil,List.cons_append,List.nil_append];rw[←List.append_assoc,←List.append_assoc];exact List.perm_middle.symm
  have right:∀(m2:eS) (gf:aa) (z5:List (Addr×kB)),m2 .i=some (.int bi)→m2 .j=some (.int bj)→m2 .k=some (.int bs)→m2 .ahi=some (.int wn.q)→m2 .bhi=some (.int wn.y)→uB z5≤uB ws+2*(bi-wn.p)+1→z5.length≤ws.length+1→
    m2 .self=some (.ref s)→m2 .queue=some (.ref pq)→m2 .matching_blocks=some (.ref pm)→m2 .la=some (.int a.length)→m2 .lb=some (.int b.length)→Ext fC gf→gf pq=some (.list (bZ z5))→gf pm=some (.list (bZ (zs++[(r,(⟨bi,bj,bs⟩:Rn))])))→(∀z∈z5,gf z.1=some (.tup z.2.tup)∧z.2.ok a.length b.length)→
    (∀z∈zs++[(r,(⟨bi,bj,bs⟩:Rn))],gf z.1=some (.cZ [.int z.2.i, .int z.2.j, .int z.2.s]))→
    (∀Gs gr,GS a b (z5.map (·.2)) Gs→bz a b (bi+bs) wn.q (bj+bs) wn.y gr→∃G,bz a b 0 a.length 0 b.length G∧((zs++[(r,(⟨bi,bj,bs⟩:Rn))]).map (·.2)++(Gs++gr)).Perm G)→
    exs prog w B l (.ifs (.gZ (.cmp .Lt (plus (.var .i) (.var .k)) (.var .ahi)) (.cmp .Lt (plus (.var .j) (.var .k)) (.var .bhi))) (app (.var .queue) (.nj (plus (.var .i) (.var .k)) (.var .ahi) (plus (.var .j) (.var .k)) (.var .bhi)) .nil) .nil .nil)
     (gO (exs prog w B l .nil (cC K QQ)) (cC K QQ)) ⟨m2,gf⟩:=by
   intro m2 gf z5 g1 g2 g3 g4 g5 g6 g6' g7 g8 g9 Ou Jy Za Jz Zb Ov XQ Zc;have hw2l:=nP z5;have done:(wn.q≤bi+bs∨wn.y≤bj+bs)→K ⟨m2,gf⟩:=λhh=>by
    refine hK z5 _ _ (by rw[hsz,hzs];exact J0 hle.2.1 g6 hle.1 IZ) ⟨g7,g8,g9,Ou,Jy,Za,Jz,Zb,Ov,XQ,λGs G5=>?_,by rw[hz1];exact Qd BK hle.1 hle.2.1 IZ hzs g6⟩;have:=Zc Gs [] G5 (G6 (Or.symm hh))
    rwa [List.append_nil]at this
   refine⟨_,g1,_,g3,aI ⟨_,g4,?_⟩⟩
   by_cases q1:bi+bs<wn.q
   ·refine bK (bN (by simp;exact Jd q1) ?_)
    refine⟨_,g2,_,g3,aI ⟨_,g5,?_⟩⟩
    by_cases q2:bj+bs<wn.y
    ·refine bK (bN (by simp;exact Jd q2) ?_)
     refine⟨_,g8,_,aU Jz rfl,_,g1,_,g3,aI ⟨_,g4,_,g2,_,g3,aI ⟨_,g5,λt ht=>aY (au Jz ht) (by unfold bZ;rw[List.length_map];unfold lim;exact TL BK g6' hwl) ?_⟩⟩⟩;have ht:gf t=none:=ht;have e5:bZ z5++[.ref t]=bZ (z5++[(t,(⟨bi+bs,wn.q,bj+bs,wn.y⟩:kB))]):=gF z5 (t,⟨bi+bs,wn.q,bj+bs,wn.y⟩);rw[e5];have I1:t≠pq:=λq=>by rw[q,Jz]at ht;cases ht
     have hnew:uB (z5++[(t,(⟨bi+bs,wn.q,bj+bs,wn.y⟩:kB))])=uB z5+(2*(wn.q-(bi+bs))+1):=by unfold uB;rw[cT];simp only[lg,lq];unfold kB.sz;simp only[Nat.add_zero]
     refine hK (z5++[(t,⟨bi+bs,wn.q,bj+bs,wn.y⟩)]) (zs++[(r,(⟨bi,bj,bs⟩:Rn))]) _ ?_ ⟨g7,g8,g9,Ou,Jy,(Za.then ht).upd nq,aa.set_same,?_,?_,?_,?_,?_⟩
     ·rw[hsz,hnew,hzs];exact J2 hle.2.1 g6 hle.1 IZ
     ·show ((gf.set t _).set pq _) pm=_
      rw[aa.ai (Ne.symm Jx)];exact au Zb ht
     ·intro z hz
      rcases List.mem_append.mp hz with hz|hz
      ·refine⟨?_,(Ov z hz).2⟩
       show ((gf.set t _).set pq _) z.1=_;rw[aa.ai (ao (Ov z hz).1 Jz (by simp))];exact au (Ov z hz).1 ht
      ·rw[List.mem_singleton]at hz;subst hz
       refine⟨?_,by show _∧_∧_∧_;simp only;exact⟨hle.2.1,Oq,hle.2.2.2,Ot⟩⟩;show ((gf.set t _).set pq _) t=_;rw[aa.ai I1,aa.set_same];unfold kB.tup;simp only[Int.natCast_add]
     ·intro z hz
      show ((gf.set t _).set pq _) z.1=_;rw[aa.ai (ao (XQ z hz) Jz (by simp))];exact au (XQ z hz) ht
     ·intro Gs G5
      rw[List.map_append]at G5;obtain⟨G1,G2,h1,h2,rfl⟩:=GS.inv G5;exact Zc G1 G2 h1 h2
     ·rw[hnew,hz1];exact Qe BK hle.1 hle.2.1 IZ hzs g6
    ·exact bK (aM (by simp;exact Jk q2) (done (TM q2)))
   ·exact bK (aM (by simp;exact Jk q1) (aM rfl (done (TN q1))))
  have D5:∀m2:eS,m2 .i=some (.int bi)→m2 .j=some (.int bj)→m2 .k=some (.int bs)→m2 .ahi=some (.int wn.q)→m2 .bhi=some (.int wn.y)→m2 .self=some (.ref s)→m2 .queue=some (.ref pq)→m2 .matching_blocks=some (.ref pm)→m2 .la=some (.int a.length)→m2 .lb=some (.int b.length)→(bi≤wn.p∨bj≤wn.x)→exs prog w B l (.ifs (.gZ (.cmp .Lt (plus (.var .i) (.var .k)) (.var .ahi)) (.cmp .Lt (plus (.var .j) (.var .k)) (.var .bhi))) (app (.var .queue) (.nj (plus (.var .i) (.var .k)) (.var .ahi) (plus (.var .j) (.var .k)) (.var .bhi)) .nil) .nil .nil)
     (gO (exs prog w B l .nil (cC K QQ)) (cC K QQ)) ⟨m2,cV⟩:=λm2 g1 g2 g3 g4 g5 g7 g8 g9 Ou Jy hh=>
   right m2 cV ws g1 g2 g3 g4 g5 (TP) (OJ) g7 g8 g9 Ou Jy ye yq ym yw yz λGs gr h1 h2=>by
    obtain⟨G,h3,h4⟩:=M.Oo (Gs++([]++⟨bi,bj,bs⟩::gr)) (by rw[List.map_append];exact h1.snoc (node (G6 (Or.symm hh)) h2));exact⟨G,h3,perm Gs [] gr G h4⟩
  refine⟨.int wn.p,rfl, .int bi,rfl,?_⟩
  by_cases q1:wn.p<bi
  ·refine bK (bN (by simpa using q1) ?_)
   refine⟨.int wn.x,rfl, .int bj,rfl,?_⟩
   by_cases q2:wn.x<bj
   ·refine bK (bN (by simpa using q2) ?_)
    refine⟨.ref pq,M.queue,_,aU yq rfl, .int wn.p,rfl, .int bi,rfl, .int wn.x,rfl, .int bj,rfl,λt ht=>aY (au yq ht) (by unfold bZ;rw[List.length_map];unfold lim;exact TQ BK hwl) ?_⟩;have ht:cV t=none:=ht;have e5:bZ ws++[.ref t]=bZ (ws++[(t,(⟨wn.p,bi,wn.x,bj⟩:kB))]):=gF ws (t,⟨wn.p,bi,wn.x,bj⟩);rw[e5];have I1:t≠pq:=λq=>by rw[q,yq]at ht;cases ht
    refine right _ _ (ws++[(t,⟨wn.p,bi,wn.x,bj⟩)]) rfl rfl rfl rfl rfl ?_ (by rw[List.length_append,List.length_singleton];exact Nat.le_refl _) M.self M.queue M.mb M.la M.lb ((ye.then ht).upd nq) aa.set_same ?_ ?_ ?_ λGs gr h1 h2=>?_
    ·unfold uB;rw[cT];simp only[lg,lq];unfold kB.sz;simp only;exact Px
    ·show ((cV.set t _).set pq _) pm=_
     rw[aa.ai (Ne.symm Jx)];exact au ym ht
    ·intro z hz
     rcases List.mem_append.mp hz with hz|hz
     ·refine⟨?_,(yw z hz).2⟩
      show ((cV.set t _).set pq _) z.1=_;rw[aa.ai (ao (yw z hz).1 yq (by simp))];exact au (yw z hz).1 ht
     ·rw[List.mem_singleton]at hz;subst hz
      refine⟨?_,by show _∧_∧_∧_;simp only;exact⟨hle.1,Kz hle.2.1 Oq,hle.2.2.1,Kz hle.2.2.2 Ot⟩⟩;show ((cV.set t _).set pq _) t=_;rw[aa.ai I1,aa.set_same];rfl
    ·intro z hz
     show ((cV.set t _).set pq _) z.1=_;rw[aa.ai (ao (yz z hz) yq (by simp))];exact au (yz z hz) ht
    ·rw[List.map_append]at h1
     obtain⟨G1,gl,k1,k2,rfl⟩:=GS.inv h1;obtain⟨G,h3,h4⟩:=M.Oo (G1++(gl++⟨bi,bj,bs⟩::gr)) (by rw[List.map_append];exact k1.snoc (node k2 h2));refine⟨G,h3,?_⟩;rw[List.append_assoc];exact perm G1 gl gr G h4
   ·exact bK (aM (by simpa using q2) (D5 _ rfl rfl rfl rfl rfl M.self M.queue M.mb M.la M.lb (TR q2)))
  ·exact bK (aM (by simpa using q1) (aM rfl (D5 _ rfl rfl rfl rfl rfl M.self M.queue M.mb M.la M.lb (TS q1))))
noncomputable def I2(zs:List (Addr×Rn)):List (Addr×Int×Int×Int):=zs.map λz=>(z.1,gS z.2)
theorem D6(zs:List (Addr×Rn)):bZ zs=refsOf (I2 zs):=by simp[bZ,refsOf,I2]
theorem FE(zs:List (Addr×Rn)):(I2 zs).map (·.2)=(zs.map (·.2)).map gS:=by simp[I2]
theorem eL(zs:List (Addr×Int×Int×Int))(r:Addr)(x:Int×Int×Int):refsOf zs++[.ref r]=refsOf (zs++[(r,x)]):=by simp[refsOf]
theorem bL(zs:List (Addr×Int×Int×Int)):(refsOf zs).length=zs.length:=by simp[refsOf]
theorem FF{p:Addr}{ys:List af}(hp:Ω p=some (.cZ ys))(hl:ys.length<lim)(h:Q (.int ys.length) Ω):aZ prog w B l (.builtin .len) [.ref p] Q Ω:=by
 exact .bi (.LZ hp hl h)
theorem I3(bf:BF prog w B){zs:List (Addr×Int×Int×Int)}:L8 prog w B l zs:=λz hz az jb=>by
 refine Bg bf ?_;refine⟨.ref 135,rfl, .ref z.1,rfl, .mk jb (by simp[lim]) λr hr=>?_⟩;have hr:az r=none:=hr;refine⟨.ref r,rfl,FF aa.set_same (by simp[lim]) (aX (ua (aM (by simp) ?_)))⟩;exact⟨.ref r,rfl,r,rfl,hr,aa.set_same,λb o hb=>au hb hr⟩
structure MA(fC:aa)(a b:List Int)(s pm pn:Addr)(zs ys:List (Addr×Int×Int×Int))(st:St):Prop where
 self:st.m .self=some (.ref s)
 na:st.m .non_adjacent=some (.ref pn)
 la:st.m .la=some (.int a.length)
 lb:st.m .lb=some (.int b.length)
 ext:Ext fC st.Ω
 hm:st.Ω pm=some (.list (refsOf zs))
 hz:bk .cZ st.Ω zs
 hn:st.Ω pn=some (.list (refsOf ys))
 hy:bk .tup st.Ω ys
inductive Nf(Ω:aa)(a b:List Int)(s pq pm:Addr)(n:Nat)(st:St):Prop
 |mk (ws:List (Addr×kB)) (zs:List (Addr×Rn)) (q1:n=uB ws) (q2:MQ Ω a b s pq pm ws zs st):Nf Ω a b s pq pm n st
inductive Ng(Ω:aa)(a b:List Int)(s pm pn:Addr)(zs':List (Addr×Int×Int×Int))(G:List Rn)(n:Nat)(st:St):Prop
 |mk (ys:List (Addr×Int×Int×Int)) (i1:Int) (j1:Int) (k1:Int) (q1:MA Ω a b s pm pn zs' ys st) (q2:ys.map (·.2)=(G.map gS).take (n-1)) (q3:st.m .i1=some (.int i1)) (q4:st.m .j1=some (.int j1)) (q5:st.m .k1=some (.int k1)) (q6:(n=0∧i1=0∧j1=0∧k1=0∨0<n∧∃g,G[n-1]?=some g∧(i1,j1,k1)=gS g)):Ng Ω a b s pm pn zs' G n st
theorem rj(bf:BF prog w B)(bT:l<50){s d pa pb pd pj:Addr}{k:Nat}{m:At→Option af}{lA:Nat}{jn:List (Int×af)}{a b:List Int}(S:wj Ω s d pa pb pd pj k m lA jn a b)(mm:m .matching_blocks=some .none)(hk:k<800)(ha:a.length≤7)(hb:b.length≤7)
  (hq:∀r zs G az,fE d Ω az→az r=some (.list (refsOf zs))→bk .cZ az zs→zs.length≤20→bz a b 0 a.length 0 b.length G→zs.map (·.2)=G.map gS++[((a.length:Int),(b.length:Int),(0:Int))]→Q (.ref r) az):aF prog w B l (.ref 203) [.ref s] Q Ω:=by
 have hlim:∀n:Nat,n≤100→n<lim:=λn hn=>by unfold lim;exact Nat.lt_of_le_of_lt hn (by decide)
 refine qP bf ?_;refine⟨.ref s,rfl,cU S.hs S.hd mm (dj (dZ (aM rfl ?_)))⟩;refine⟨.ref s,rfl,cU S.hs S.hd S.ma (cj S.ha (hlim _ (Nat.le_add_left_of_le ha)) ⟨.ref s,rfl,cU S.hs S.hd S.mb (cj S.hb (hlim _ (Nat.le_add_left_of_le hb)) λr1 h1=>ff rfl ?_)⟩)⟩;have h1:Ω r1=none:=h1;refine⟨.int a.length,rfl, .int b.length,rfl,λtw h2 pq h3=>?_⟩;intro pm h4;dsimp only at h2 h3 h4;have e1:Ext Ω (Ω.set r1 (.tup [.int a.length, .int b.length])):= .fresh h1;have e2:=e1.then h2 (x:= .tup [.int 0, .int a.length, .int 0, .int b.length]);have nq:Ω pq=none:=e2.none h3;have e3:=e2.then h3 (x:= .list [.ref tw]);have nm:Ω pm=none:=e3.none h4;have e4:=e3.then h4 (x:= .list []);have Jx:pq≠pm:=aE aa.set_same h4;have gq:=au (aa.set_same (Ω:=(Ω.set r1 (.tup [.int a.length, .int b.length])).set tw (.tup [.int 0, .int a.length, .int 0, .int b.length])) (a:=pq) (o:= .list [.ref tw])) h4 (x:= .list []);have gt:=au (au (aa.set_same (Ω:=(Ω.set r1 (.tup [.int a.length, .int b.length]))) (a:=tw) (o:= .tup [.int 0, .int a.length, .int 0, .int b.length])) h3 (x:= .list [.ref tw])) h4 (x:= .list []);refine f9 (I:=Nf Ω a b s pq pm) ?_ (n:=uB [(tw,⟨0,a.length,0,b.length⟩)]) ⟨[(tw,⟨0,a.length,0,b.length⟩)],[],rfl,⟨rfl,rfl,rfl,rfl,rfl,e4,gq,aa.set_same,?_,(λz hz=>nomatch hz),?_,?_⟩⟩
 ·intro n aH K bB hK;obtain⟨m',az⟩:=aH;obtain⟨ws,zs,hn,M⟩:=bB
  have hwl:=nP ws;have BK:=M.lw;refine⟨.ref pq,M.queue,jD M.hq (by unfold bZ;rw[List.length_map];exact hlim _ (QO BK hwl)) ?_⟩
  rcases List.eq_nil_or_concat ws with q|⟨ws0,⟨tw',wn⟩,q⟩
  ·subst q
   refine aM rfl ?_;obtain⟨G,hG,hp⟩:=M.Oo [] .nil;rw[List.append_nil]at hp;have G6:=hG.len;have hzl:zs.length=G.length:=by have:=hp.length_eq;rwa [List.length_map]at this
   have Nd:az pm=some (.list (refsOf (I2 zs))):=by rw[←D6];exact M.hm
   have htr:bk .cZ az (I2 zs):=λz hz=>by
    obtain⟨y,hy,rfl⟩:=List.mem_map.mp hz;exact M.hz y hy
   refine⟨.ref pm,M.mb,_,aU Nd rfl,zg Nd htr (by simp only[I2,List.length_map];exact QS BK) λzs' z1 z2=>?_⟩;have z6:zs'.map (·.2)=G.map gS:=by
    refine iJ (by rw[List.pairwise_map];exact z2) (gE hG.chain λv hv=>(hG.all v hv).1.1) ?_;refine(z1.map _).trans ?_;rw[FE];exact hp.map gS
   have FG:zs'.length=G.length:=by have:=congrArg List.length z6;simpa using this
   have hneg:∀z∈zs',az z.1=some (.cZ [.int z.2.1, .int z.2.2.1, .int z.2.2.2]):=λz hz=>htr z (z1.mem_iff.mp hz)
   have XR:bk .cZ (az.set pm (.list (refsOf zs'))) zs':=λz hz=>by
    rw[aa.ai (ao (hneg z hz) Nd (by simp))];exact hneg z hz
   intro pn h5;have h5:(az.set pm (.list (refsOf zs'))) pn=none:=h5;have e5:Ext Ω (az.set pm (.list (refsOf zs'))):=M.ext.upd nm;have nn:Ω pn=none:=e5.none h5;have hmn:pm≠pn:=aE aa.set_same h5;refine⟨.ref pm,M.mb,?_⟩;have hm2:((az.set pm (.list (refsOf zs'))).set pn (.list [])) pm=some (.list (refsOf zs')):=au aa.set_same h5;refine rH.list hm2 ?_;refine ki (p:=pm) (refsOf zs') (I:=Ng Ω a b s pm pn zs' G) ?_ ?_ ?_ ?_
   ·intro n st aH;obtain⟨ys,i1,j1,k1,A,_⟩:=aH;exact A.hm
   ·intro n x aH K' hx bB wM;obtain⟨m2,dB⟩:=aH;obtain⟨ys,i1,j1,k1,A,b1,b2,b3,b4,b5⟩:=bB
    have hn':n<zs'.length:=by
     cases Nat.lt_or_ge n zs'.length with
     |inl h=>exact h
     |inr h=>rw[List.getElem?_eq_none (by rw[bL];exact h)]at hx;cases hx
    have hx:x= .ref (zs'[n]).1:=by
     unfold refsOf at hx;rw[List.getElem?_map,List.getElem?_eq_getElem hn']at hx;cases hx;rfl
    subst hx;have Ow:G[n]?=some (G[n]'(JG FG hn')):=List.getElem?_eq_getElem (JG FG hn');generalize G[n]'(JG FG hn')=g at Ow;have hzg:(zs'[n]).2=gS g:=by
     have:=congrArg (λL=>L[n]?) z6;simp only[List.getElem?_map,Ow,List.getElem?_eq_getElem hn']at this;exact Option.some.inj this
    have Zd:=A.hz zs'[n] (List.getElem_mem hn');have Ze:g∈G:=List.mem_of_getElem? Ow;have hgs:=(hG.all g Ze).1.1;rw[hzg]at Zd;refine zY Zd rfl ?_;have htk:(G.map gS).take (n+1-1)=(G.map gS).take n:=rfl;have next:∀(m3:eS) (cV:aa) ys',m3 .self=some (.ref s)→m3 .non_adjacent=some (.ref pn)→m3 .la=some (.int a.length)→m3 .lb=some (.int b.length)→Ext Ω cV→cV pm=some (.list (refsOf zs'))→bk .cZ cV zs'→cV pn=some (.list (refsOf ys'))→bk .tup cV ys'→ys'.map (·.2)=(G.map gS).take n→
      m3 .i1=some (.int g.i)→m3 .j1=some (.int g.j)→m3 .k1=some (.int g.s)→K' ⟨m3,cV⟩:=by
     intro m3 cV ys' c1 c2 c3 c4 c5 c6 c7 c8 c9 yk AW c12 MK;exact wM _ ⟨ys',g.i,g.j,g.s,⟨c1,c2,c3,c4,c5,c6,c7,c8,c9⟩,yk,AW,c12,MK, .inr ⟨Nat.succ_pos _,g,Ow,rfl⟩⟩
    dsimp only at b2 b3 b4;have other:¬(i1+k1=g.i∧j1+k1=g.j)→exs prog w B l (.ifs (.var .k1) (app (.var .non_adjacent) (.dI (.var .i1) (.var .j1) (.var .k1)) .nil) .nil<| .jQ [.i1, .j1, .k1] (.dI (.var .i2) (.var .j2) (.var .k2)) .nil) (gO (exs prog w B l .nil (cC K' (gO (exs prog w B l (.ifs (.var .k1) (app (.var .non_adjacent) (.dI (.var .i1) (.var .j1) (.var .k1)) .nil) .nil<|
       app (.var .non_adjacent) (.dI (.var .la) (.var .lb) (.int 0))<|
       .asg [.at (.var .self) .matching_blocks] (.eG .non_adjacent)<|
       .ret (.attr (.var .self) .matching_blocks)) (λfl st'=>Q (aW fl) st'.Ω)) (λfl st'=>Q (aW fl) st'.Ω)))) (cC K' (gO (exs prog w B l (.ifs (.var .k1) (app (.var .non_adjacent) (.dI (.var .i1) (.var .j1) (.var .k1)) .nil) .nil<|
       app (.var .non_adjacent) (.dI (.var .la) (.var .lb) (.int 0))<|
       .asg [.at (.var .self) .matching_blocks] (.eG .non_adjacent)<|
       .ret (.attr (.var .self) .matching_blocks)) (λfl st'=>Q (aW fl) st'.Ω)) (λfl st'=>Q (aW fl) st'.Ω)))) ⟨fU m2 [.i2, .j2, .k2] [.int g.i, .int g.j, .int g.s],dB⟩:=by
     intro hno;refine⟨.int k1,b4,kZ ?_⟩
     rcases b5 with⟨rfl,c1,c2,c3⟩|⟨hn0,g0,c1,c2⟩
     ·subst c1 c2 c3
      refine aM rfl ?_;refine⟨.int g.i,rfl, .int g.j,rfl, .int g.s,rfl,λr hr=>ff rfl ?_⟩;have hr:dB r=none:=hr;exact next _ _ ys A.self A.na A.la A.lb (A.ext.then hr) (au A.hm hr) (A.hz.ext (.fresh hr)) (au A.hn hr) (A.hy.ext (.fresh hr)) (by rw[b1]) rfl rfl rfl
     ·have XS:0<g0.s:=(hG.all g0 (List.mem_of_getElem? c1)).1.1
      unfold gS at c2;simp only[Prod.mk.injEq]at c2;obtain⟨c2,c3,c4⟩:=c2;subst c2 c3 c4;refine bN (uo (Nat.ne_of_gt XS)) ?_;refine⟨.ref pn,A.na,_,aU A.hn rfl, .int g0.i,b2, .int g0.j,b3, .int g0.s,b4,λr hr=>aY (au A.hn hr) (by rw[bL];have:=congrArg List.length b1;rw[List.length_map,List.length_take,List.length_map]at this;exact hlim _ (QT this G6 ha)) ?_⟩;have hr:dB r=none:=hr;rw[eL ys r (gS g0)];refine⟨.int g.i,rfl, .int g.j,rfl, .int g.s,rfl,λr2 hr2=>ff rfl ?_⟩;have hr2:((dB.set r (.tup [.int g0.i, .int g0.j, .int g0.s])).set pn (.list (refsOf (ys++[(r,gS g0)])))) r2=none:=hr2;have uA:r≠pn:=Ne.symm (aE A.hn hr);have xx:∀{z o},z≠pn→dB z=some o→((dB.set r (.tup [.int g0.i, .int g0.j, .int g0.s])).set pn (.list (refsOf (ys++[(r,gS g0)])))) z=some o:=λhz ho=>by rw[aa.ai hz];exact au ho hr
      refine next _ _ (ys++[(r,gS g0)]) A.self A.na A.la A.lb (((A.ext.then hr).upd nn).then hr2) (au (xx hmn A.hm) hr2) (λz hz=>au (xx (ao (A.hz z hz) A.hn (by simp)) (A.hz z hz)) hr2) (au aa.set_same hr2) ?_ ?_ rfl rfl rfl
      ·intro z hz
       rcases List.mem_append.mp hz with hz|hz
       ·exact au (xx (ao (A.hy z hz) A.hn (by simp)) (A.hy z hz)) hr2
       ·rw[List.mem_singleton]at hz;subst hz
        exact au ((aa.ai uA).trans aa.set_same) hr2
      ·rw[List.map_append,b1]
       have:n=n-1+1:=QU hn0
       conv=>rhs;rw[this,List.take_add_one]
       rw[List.getElem?_map,c1];rfl
    refine⟨.int i1,b2, .int k1,b4,aI ⟨.int g.i,rfl,?_⟩⟩
    by_cases q1:i1+k1=g.i
    ·refine dY (bN (by simpa using q1) ?_)
     refine⟨.int j1,b3, .int k1,b4,aI ⟨.int g.j,rfl,?_⟩⟩
     by_cases q2:j1+k1=g.j
     ·refine dY (bN (by simpa using q2) ?_)
      rcases b5 with⟨rfl,c1,c2,c3⟩|⟨hn0,g0,c1,c2⟩
      ·subst c1 c2 c3
       refine⟨.int 0,b4, .int g.s,rfl,j6 ?_⟩;refine next _ _ ys A.self A.na A.la A.lb A.ext A.hm A.hz A.hn A.hy (by rw[b1]) ?_ ?_ ?_
       ·have q1:(g.i:Int)=0:=JO q1
        rw[q1];exact b2
       ·have q2:(g.j:Int)=0:=JO q2
        rw[q2];exact b3
       ·show some (af.int (0+(g.s:Int)))=_
        rw[Int.zero_add]
      ·exfalso
       unfold gS at c2;simp only[Prod.mk.injEq]at c2;exact hG.apart g0 (List.mem_of_getElem? c1) g Ze ⟨Lg q1 c2.1 c2.2.2,Lg q2 c2.2.1 c2.2.2⟩
     ·exact dY (aM (by simpa using q2) (other λz=>q2 z.2))
    ·exact dY (aM (by simpa using q1) (aM rfl (other λz=>q1 z.1)))
   ·intro aH bB;obtain⟨m2,dB⟩:=aH;obtain⟨ys,i1,j1,k1,A,b1,b2,b3,b4,b5⟩:=bB
    rw[bL,FG]at b1 b5;dsimp only at b2 b3 b4;have tail:∀(cV:aa) ys',Ext Ω cV→cV pn=some (.list (refsOf ys'))→bk .tup cV ys'→ys'.map (·.2)=G.map gS→exs prog w B l (app (.var .non_adjacent) (.dI (.var .la) (.var .lb) (.int 0))<| .asg [.at (.var .self) .matching_blocks] (.eG .non_adjacent)<| .ret (.attr (.var .self) .matching_blocks)) (λfl st'=>Q (aW fl) st'.Ω) ⟨m2,cV⟩:=by
     intro cV ys' c1 c2 c3 c4;have hyl:ys'.length=G.length:=by have:=congrArg List.length c4;simpa using this
     refine⟨.ref pn,A.na,_,aU c2 rfl, .int a.length,A.la, .int b.length,A.lb,λr hr=>aY (au c2 hr) (by rw[bL];exact hlim _ (QV hyl G6 ha)) ?_⟩;have hr:cV r=none:=hr;rw[eL ys' r ((a.length:Int),(b.length:Int),(0:Int))];have uA:r≠pn:=λq=>by rw[q,c2]at hr;cases hr
     have hty:bk .tup ((cV.set r (.tup [.int a.length, .int b.length, .int 0])).set pn (.list (refsOf (ys'++[(r,(a.length:Int),(b.length:Int),(0:Int))])))) (ys'++[(r,(a.length:Int),(b.length:Int),(0:Int))]):=by
      intro z hz
      rcases List.mem_append.mp hz with hz|hz
      ·rw[aa.ai (ao (c3 z hz) c2 (by simp))];exact au (c3 z hz) hr
      ·rw[List.mem_singleton]at hz;subst hz
       rw[aa.ai uA,aa.set_same]
     refine⟨pn,ys'++[(r,(a.length:Int),(b.length:Int),(0:Int))],A.na,aa.set_same,hty,by rw[List.length_append,List.length_singleton];exact hlim _ (QW hyl G6 ha),Nat.lt_add_left _ bT,I3 bf,λzs2 gf d1 d2 d3 d4 r2 d5 d6=>?_⟩;have e6:Ext Ω ((cV.set r (.tup [.int a.length, .int b.length, .int 0])).set pn (.list (refsOf (ys'++[(r,(a.length:Int),(b.length:Int),(0:Int))])))):=(c1.then hr).upd nn;have e7:Ext Ω gf:=e6.trans λz o hz=>(d4 z λq=>by have q':=hz.symm.trans q;cases q').trans hz
     have S4:=S.ext (e7.then d5 (x:= .list (refsOf zs2)));refine⟨.ref s,A.self,bx S4.hs S4.hd rfl (NK hk) ?_⟩;have BC:s≠d:=ao S.hs S.hd (by simp);refine⟨.ref s,A.self,cU (by show ((gf.set r2 _).set d _) s=_;rw[aa.ai BC];exact S4.hs) aa.set_same (x:= .ref r2) rfl ?_⟩;have hrd:r2≠d:=λq=>by rw[q,e7 _ _ S.hd]at d5;cases d5
     refine hq r2 zs2 G _ ?_ ?_ ?_ ?_ hG ?_
     ·exact((e7.then d5).x d).set
     ·show ((gf.set r2 _).set d _) r2=_
      rw[aa.ai hrd,aa.set_same]
     ·intro z hz
      have:=d2 z hz;show ((gf.set r2 _).set d _) z.1=_;rw[aa.ai (ao this (e7 _ _ S.hd) (by simp))];exact au this d5
     ·have:=congrArg List.length d1
      simp only[List.length_map,List.length_append,List.length_singleton]at this;exact QX this hyl G6 ha
     ·rw[d1,List.map_append,c4];rfl
    refine⟨.int k1,b4,kZ ?_⟩
    rcases b5 with⟨hn0,c1,c2,c3⟩|⟨hn0,g0,c1,c2⟩
    ·subst c3
     refine aM rfl ?_;refine tail dB ys A.ext A.hn A.hy ?_;have hG0:G=[]:=List.eq_nil_of_length_eq_zero hn0;rw[b1,hG0];rfl
    ·have XS:0<g0.s:=(hG.all g0 (List.mem_of_getElem? c1)).1.1
     unfold gS at c2;simp only[Prod.mk.injEq]at c2;obtain⟨c2,c3,c4⟩:=c2;subst c2 c3 c4;refine bN (uo (Nat.ne_of_gt XS)) ?_;have hyl:ys.length≤G.length:=by have:=congrArg List.length b1;rw[List.length_map,List.length_take,List.length_map]at this;exact QY this
     refine⟨.ref pn,A.na,_,aU A.hn rfl, .int g0.i,b2, .int g0.j,b3, .int g0.s,b4,λr hr=>aY (au A.hn hr) (by rw[bL];exact hlim _ (QZ hyl G6 ha)) ?_⟩;have hr:dB r=none:=hr;rw[eL ys r (gS g0)];have uA:r≠pn:=Ne.symm (aE A.hn hr);refine tail _ (ys++[(r,gS g0)]) ((A.ext.then hr).upd nn) aa.set_same ?_ ?_
     ·intro z hz
      rcases List.mem_append.mp hz with hz|hz
      ·rw[aa.ai (ao (A.hy z hz) A.hn (by simp))];exact au (A.hy z hz) hr
      ·rw[List.mem_singleton]at hz;subst hz
       exact(aa.ai uA).trans aa.set_same
     ·rw[List.map_append,b1]
      have:(G.map gS)=(G.map gS).take (G.length-1+1):=by rw[List.take_of_length_le (by rw[List.length_map];exact Q2)]
      conv=>rhs;rw[this,List.take_add_one]
      rw[List.getElem?_map,c1];rfl
   ·exact⟨[],0,0,0,⟨M.self,rfl,M.la,M.lb,e5.then h5,hm2,XR.ext (.fresh h5),aa.set_same,(λz hz=>nomatch hz)⟩,rfl,rfl,rfl,rfl, .inl ⟨rfl,rfl,rfl,rfl⟩⟩
  ·rw[List.concat_eq_append]at q
   subst q;refine bN (by simp[bZ]) ?_;exact zh bf bT S ha hb nq nm Jx M λNc zs' st' h1 h2=>hK (uB Nc) (O9 hn h1) st' ⟨Nc,zs',rfl,h2⟩
 ·intro z hz
  rw[List.mem_singleton]at hz;subst hz;exact⟨gt,Nat.zero_le _,Nat.le_refl _,Nat.zero_le _,Nat.le_refl _⟩
 ·intro Gs G5
  obtain⟨G1,G2,g1,g2,rfl⟩:=GS.inv (ws:=[]) G5;have g0:G1=[]:=by
   generalize e:([]:List kB)=X at g1;cases g1 with
   |nil=>rfl
   |snoc aj br=>simp at e
  subst g0;exact⟨G2,g2,List.Perm.refl _⟩
 ·unfold uB;simp only[lg,lq,List.length_nil];unfold kB.sz;simp only;exact Q3 ha
theorem uq{p:Addr}{xs:List af}{k:Int}{x:af}{R:af→Prop}(hp:Ω p=some (.cZ xs))(h0:0≤k)(h1:k<100)(hi:xs[k.toNat]?=some x)(h:R x):Al (.ref p) (.int k) R Ω:=by
 exact .cZ hp h0 (Wg h1) hi h
theorem wA(bf:BF prog w B)(bT:l<48){pa pb:Addr}{a b:List Int}(ha0:Ω pa=some (.list (av a)))(hb0:Ω pb=some (.list (av b)))(ha:a.length≤7)(hb:b.length≤7)
  (hq:∀r us G az,Ext Ω az→Ω r=none→az r=some (.list (refsOf us))→bk .tup az us→(∀u∈us,Ω u.1=none)→us.length≤20→bz a b 0 a.length 0 b.length G→us.map (·.2)=G.map gS++[((a.length:Int),(b.length:Int),(0:Int))]→Q (.ref r) az):aF prog w B l (.ref 432) [.ref pa, .ref pb] Q Ω:=by
 refine vW bf ?_;refine⟨.ref pa,rfl, .ref pb,rfl,zP (aR (by decide) (Nat.lt_add_left _ bT) (FD bf (Nat.lt_of_le_of_lt bT (by decide)) ha0 hb0 hb λs d bA m' pd pj k lA jn x1 x2 x3 S x5=>?_))⟩;refine⟨.ref 203,i9 S.hs S.hd rfl,aR (by decide) (Nat.lt_add_left _ bT) (rj bf (Nat.lt_of_le_of_lt bT (by decide)) S x5 (Nat.lt_of_le_of_lt x3 (by decide)) ha hb λr zs G dB y1 y2 y3 y4 y5 y6=>?_)⟩;have e2:Ext Ω dB:=λz o hz=>y1 z o (aE hz x2) (x1 z o hz)
 refine rH.list y2 ?_;refine iK (p:=r) (refsOf zs) (I:=λk ys st=>∃us:List (Addr×Int×Int×Int),ys=refsOf us∧Ext dB st.Ω∧bk .tup st.Ω us∧(∀u∈us,Ω u.1=none)∧us.map (·.2)=(zs.map (·.2)).take k) ?_ ?_ ?_ ?_
 ·intro k ys st aH;obtain⟨us,a1,a2,_⟩:=aH;exact a2 _ _ y2
 ·intro k x ys aH K hx bB hK;obtain⟨m2,cV⟩:=aH;obtain⟨us,a1,a2,a3,a4,a5⟩:=bB
  dsimp only at a2 a3;have hn':k<zs.length:=by
   cases Nat.lt_or_ge k zs.length with
   |inl h=>exact h
   |inr h=>rw[List.getElem?_eq_none (by rw[bL];exact h)]at hx;cases hx
  have hx:x= .ref (zs[k]).1:=by
   unfold refsOf at hx;rw[List.getElem?_map,List.getElem?_eq_getElem hn']at hx;cases hx;rfl
  subst hx;have hz:=a2 _ _ (y3 zs[k] (List.getElem_mem hn'));have Zf:zs[k]?=some zs[k]:=List.getElem?_eq_getElem hn';generalize zs[k]=z at hz Zf;obtain⟨za,z1,z2,z3⟩:=z;simp only at hz;refine bN rfl ?_;refine⟨.ref za,rfl,aX (uq hz (by decide) (by decide) rfl ⟨.ref za,rfl,aX (uq hz (by decide) (by decide) rfl ⟨.ref za,rfl,aX (uq hz (by decide) (by decide) rfl λr1 hr1=>?_)⟩)⟩)⟩;have hr1:cV r1=none:=hr1;have XT:us.length≤zs.length:=by have:=congrArg List.length a5;rw[List.length_map,List.length_take,List.length_map]at this;exact Tf this
  refine⟨by rw[a1,bL];unfold lim;exact Nat.lt_of_le_of_lt (Nat.le_trans XT y4) (by decide),?_⟩;refine hK _ _ ⟨us++[(r1,z1,z2,z3)],by rw[a1];exact eL us r1 (z1,z2,z3),a2.then hr1,?_,?_,?_⟩
  ·intro u hu
   rcases List.mem_append.mp hu with hu|hu
   ·exact au (a3 u hu) hr1
   ·rw[List.mem_singleton]at hu;subst hu;exact aa.set_same
  ·intro u hu
   rcases List.mem_append.mp hu with hu|hu
   ·exact a4 u hu
   ·rw[List.mem_singleton]at hu;subst hu;exact(e2.trans a2).none hr1
  ·rw[List.map_append,a5,List.take_add_one,List.getElem?_map,Zf];rfl
 ·intro ys aH bB r2 hr2;obtain⟨m2,cV⟩:=aH;obtain⟨us,a1,a2,a3,a4,a5⟩:=bB
  dsimp only at a2 a3;have hr2:cV r2=none:=hr2;rw[bL,List.take_of_length_le (by rw[List.length_map];exact ON)]at a5;have XT:us.length=zs.length:=by have:=congrArg List.length a5;simpa using this
  exact hq r2 us G _ ((e2.trans a2).then hr2) ((e2.trans a2).none hr2) (by rw[a1];exact aa.set_same) (λu hu=>au (a3 u hu) hr2) a4 (O0 XT y4) y5 (a5.trans y6)
 ·exact⟨[],rfl,Ext.refl _,(λz hz=>nomatch hz),(λz hz=>nomatch hz),rfl⟩
end
structure fh(W:Addr→Prop)(Ω:aa)(W':Addr→Prop)(az:aa):Prop where
 new:∀a,W' a→W a∨Ω a=none
 keep:∀a o,¬W a→Ω a=some o→az a=some o
theorem fh.refl(W:Addr→Prop)(Ω:aa):fh W Ω W Ω:=⟨λa h=> .inl h,λa o aj h=>h⟩
theorem fh.trans{W W' Zg:Addr→Prop}{Ω az nZ:aa}(h:fh W Ω W' az)(h':fh W' az Zg nZ):fh W Ω Zg nZ:=by
 constructor
 ·intro a ha
  by_cases hw:W a
  ·exact .inl hw
  rcases h'.new a ha with h1|h1
  ·exact h.new a h1
  ·right
   cases q:Ω a with
   |none=>rfl
   |some o=>rw[h.keep a o hw q]at h1;cases h1
 ·intro a o hw ho
  refine h'.keep a o (λh1=>?_) (h.keep a o hw ho)
  rcases h.new a h1 with h2|h2
  ·exact hw h2
  ·rw[ho]at h2;cases h2
theorem fh.upd{W:Addr→Prop}{Ω:aa}{a:Addr}{o:bI}(h:W a):fh W Ω W (Ω.set a o):=
 ⟨λb hb=> .inl hb,λb x hb e=>by
  have:b≠a:=λq=>hb (by rw[q];exact h)
  rw[aa.ai this];exact e⟩
theorem fh.ext{W:Addr→Prop}{Ω az:aa}(h:Ext Ω az):fh W Ω W az:=⟨λb hb=> .inl hb,λb x aj e=>h b x e⟩
theorem fh.grow{W W':Addr→Prop}{Ω az:aa}(h:Ext Ω az)(hn:∀a,W' a→W a∨Ω a=none):fh W Ω W' az:=⟨hn,λb x aj e=>h b x e⟩
theorem fh.hold{W W':Addr→Prop}{Ω az:aa}(h:fh W Ω W' az){a:Addr}{o:bI}(hw:¬W a)(ho:Ω a=some o):¬W' a∧az a=some o:=
 by
 refine⟨λh1=>?_,h.keep a o hw ho⟩
 rcases h.new a h1 with h2|h2
 ·exact hw h2
 ·rw[ho]at h2;cases h2
noncomputable def up{α:Type}(f:Int→α)(v:Int)(x:α):Int→α:=λu=>if u=v then x else f u
theorem bF{α:Type}{f:Int→α}{v:Int}{x:α}:up f v x v=x:=if_pos rfl
theorem cI{α:Type}{f:Int→α}{v u:Int}{x:α}(h:u≠v):up f v x u=f u:=if_neg h
noncomputable def eW(ns:List Int)(v:Int):List Int:=if v∈ns then ns else ns++[v]
theorem iM{ns:List Int}{v u:Int}:u∈eW ns v↔u∈ns∨u=v:=by
 unfold eW
 split
 ·rename_i h
  exact⟨.inl,λq=>q.elim id λe=>e▸h⟩
 ·rw[List.mem_append,List.mem_singleton]
theorem wB{ns:List Int}{v:Int}:(eW ns v).length≤ns.length+1:=by
 unfold eW
 split
 ·exact OJ
 ·rw[List.length_append];simp
structure TD where
 W:Addr→Prop
 s:Addr
 d:Addr
 pn:Addr
 k:Nat
 m:At→Option af
 ep:Nat
 ns:List Int
 np:Int→Int
 sc:Int→List Int
 inf:Int→Addr
 dd:Int→Addr
 sp:Int→Addr
structure bq(Ω:aa)(T:TD):Prop where
 own:∀a,T.W a→Ω a≠none
 hs:Ω T.s=some (.inst 362 T.d)
 ws:T.W T.s
 hd:Ω T.d=some (.ns T.k T.m)
 wd:T.W T.d
 mn:T.m .bV=some (.ref T.pn)
 hn:Ω T.pn=some (.dict T.ep (T.ns.map λv=>(v, .ref (T.inf v))))
 wn:T.W T.pn
 nd:T.ns.Nodup
 ni:∀v∈T.ns,∃m,Ω (T.inf v)=some (.node (T.dd v) m)∧m .node=some (.int v)∧m .npredecessors=some (.int (T.np v))∧m .successors=some (.ref (T.sp v))
 nn:∀v∈T.ns,∃k m,Ω (T.dd v)=some (.ns k m)
 nl:∀v∈T.ns,Ω (T.sp v)=some (.list (av (T.sc v)))
 wi:∀v∈T.ns,T.W (T.inf v)∧T.W (T.dd v)∧T.W (T.sp v)
 sj:∀v∈T.ns,∀u∈T.ns,T.sp v=T.sp u→v=u
 z:∀v,v∉T.ns→T.np v=0∧T.sc v=[]
theorem bq.frame{Ω az:aa}{T:TD}(H:bq Ω T)(h:∀a,T.W a→az a=Ω a):bq az T where
 own:=λa ha=>by rw[h a ha];exact H.own a ha
 hs:=(h _ H.ws).trans H.hs
 ws:=H.ws
 hd:=(h _ H.wd).trans H.hd
 wd:=H.wd
 mn:=H.mn
 hn:=(h _ H.wn).trans H.hn
 wn:=H.wn
 nd:=H.nd
 ni:=λv hv=>by
  obtain⟨m,h1,h2⟩:=H.ni v hv;exact⟨m,(h _ (H.wi v hv).1).trans h1,h2⟩
 nn:=λv hv=>by
  obtain⟨k,m,h1⟩:=H.nn v hv;exact⟨k,m,(h _ (H.wi v hv).2.1).trans h1⟩
 nl:=λv hv=>(h _ (H.wi v hv).2.2).trans (H.nl v hv)
 wi:=H.wi
 sj:=H.sj
 z:=H.z
theorem bq.ext{Ω az:aa}{T:TD}(H:bq Ω T)(h:Ext Ω az):bq az T:=
 H.frame λa ha=>by
  cases q:Ω a with
  |none=>exact absurd q (H.own a ha)
  |some o=>exact h a o q
theorem bq.out{Ω:aa}{T:TD}(H:bq Ω T){a:Addr}{o:bI}(ha:¬T.W a):bq (Ω.set a o) T:=
 H.frame λb hb=>aa.ai λq=>ha (q▸hb)
theorem bq.fresh{Ω:aa}{T:TD}(H:bq Ω T){a:Addr}(ha:Ω a=none):¬T.W a:=λh=>H.own a h ha
theorem ja{W:Addr→Prop}{Ω:aa}{a:Addr}{o:bI}(h:∀b,W b→Ω b≠none):∀b,W b→(Ω.set a o) b≠none:=λb hb=>by
 by_cases q:b=a
 ·rw[q,aa.set_same];simp
 ·rw[aa.ai q];exact h b hb
theorem bq.I4{Ω:aa}{T:TD}(H:bq Ω T){k':Nat}{m':At→Option af}(hm:m' .bV=T.m .bV):bq (Ω.set T.d (.ns k' m')) {T with k:=k',m:=m'} where
 own:=ja H.own
 hs:=by rw[aa.ai (ao H.hs H.hd (by simp))];exact H.hs
 ws:=H.ws
 hd:=aa.set_same
 wd:=H.wd
 mn:=hm.trans H.mn
 hn:=by rw[aa.ai (ao H.hn H.hd (by simp))];exact H.hn
 wn:=H.wn
 nd:=H.nd
 ni:=λv hv=>by
  obtain⟨m,h1,h2⟩:=H.ni v hv;exact⟨m,by rw[aa.ai (ao h1 H.hd (by simp))];exact h1,h2⟩
 nn:=λv hv=>by
  obtain⟨k,m,h1⟩:=H.nn v hv
  by_cases q:T.dd v=T.d
  ·exact⟨k',m',by show (Ω.set _ _) (T.dd v)=_;rw[q,aa.set_same]⟩
  ·exact⟨k,m,by rw[aa.ai q];exact h1⟩
 nl:=λv hv=>by rw[aa.ai (ao (H.nl v hv) H.hd (by simp))];exact H.nl v hv
 wi:=H.wi
 sj:=H.sj
 z:=H.z
theorem bq.XU{Ω:aa}{T:TD}(H:bq Ω T){v u:Int}(hv:v∈T.ns)(hu:u∈T.ns)(h:T.inf v=T.inf u):v=u:=by
 obtain⟨m,h1,h2,_⟩:=H.ni v hv;obtain⟨m',h3,h4,_⟩:=H.ni u hu;rw[h,h3]at h1;have h1:=Option.some.inj h1
 injection h1 with e1 e2
 rw[e2,h2]at h4;cases h4;rfl
theorem bq.z7{Ω:aa}{T:TD}(H:bq Ω T){v:Int}(hv:v∈T.ns){m:At→Option af}(hm:Ω (T.inf v)=some (.node (T.dd v) m)){x:Int}:bq (Ω.set (T.inf v) (.node (T.dd v) (ef.set m .npredecessors (.int x)))) {T with np:=up T.np v x} where
 own:=ja H.own
 hs:=by rw[aa.ai (ao H.hs hm (by simp))];exact H.hs
 ws:=H.ws
 hd:=by rw[aa.ai (ao H.hd hm (by simp))];exact H.hd
 wd:=H.wd
 mn:=H.mn
 hn:=by rw[aa.ai (ao H.hn hm (by simp))];exact H.hn
 wn:=H.wn
 nd:=H.nd
 ni:=λu hu=>by
  by_cases q:u=v
  ·subst q
   obtain⟨m',h1,h2,h3,h4⟩:=H.ni u hu;rw[hm]at h1
   injection Option.some.inj h1 with e1 e2
   subst e2;exact⟨_,aa.set_same,h2,by show some _=some (af.int (up T.np u x u));rw[bF],h4⟩
  ·obtain⟨m',h1,h2,h3,h4⟩:=H.ni u hu
   refine⟨m',?_,h2,?_,h4⟩
   ·rw[aa.ai λe=>q (H.XU hu hv e)];exact h1
   ·show m' _=some (.int (up T.np v x u));rw[cI q];exact h3
 nn:=λu hu=>by
  obtain⟨k,m',h1⟩:=H.nn u hu;exact⟨k,m',by rw[aa.ai (ao h1 hm (by simp))];exact h1⟩
 nl:=λu hu=>by rw[aa.ai (ao (H.nl u hu) hm (by simp))];exact H.nl u hu
 wi:=H.wi
 sj:=H.sj
 z:=λu hu=>by
  have q:u≠v:=λe=>hu (e▸hv)
  show up T.np v x u=0∧_;rw[cI q];exact H.z u hu
theorem bq.Nh{Ω:aa}{T:TD}(H:bq Ω T){v:Int}(hv:v∈T.ns){xs:List Int}:bq (Ω.set (T.sp v) (.list (av xs))) {T with sc:=up T.sc v xs} where
 own:=ja H.own
 hs:=by rw[aa.ai (ao H.hs (H.nl v hv) (by simp))];exact H.hs
 ws:=H.ws
 hd:=by rw[aa.ai (ao H.hd (H.nl v hv) (by simp))];exact H.hd
 wd:=H.wd
 mn:=H.mn
 hn:=by rw[aa.ai (ao H.hn (H.nl v hv) (by simp))];exact H.hn
 wn:=H.wn
 nd:=H.nd
 ni:=λu hu=>by
  obtain⟨m',h1,h2⟩:=H.ni u hu;exact⟨m',by rw[aa.ai (ao h1 (H.nl v hv) (by simp))];exact h1,h2⟩
 nn:=λu hu=>by
  obtain⟨k,m',h1⟩:=H.nn u hu;exact⟨k,m',by rw[aa.ai (ao h1 (H.nl v hv) (by simp))];exact h1⟩
 nl:=λu hu=>by
  show _=some (bI.list (av (up T.sc v xs u)))
  by_cases q:u=v
  ·subst q;rw[aa.set_same,bF]
  ·rw[aa.ai λe=>q (H.sj u hu v hv e),cI q];exact H.nl u hu
 wi:=H.wi
 sj:=H.sj
 z:=λu hu=>by
  have q:u≠v:=λe=>hu (e▸hv)
  show _∧up T.sc v xs u=[];rw[cI q];exact H.z u hu
theorem bq.node{Ω bA:aa}{T:TD}(H:bq Ω T){v:Int}(hv:v∉T.ns){r rd rq:Addr}{k:Nat}{m m':At→Option af}(e:Ext Ω bA)(n1:Ω r=none)(n2:Ω rd=none)(n3:Ω rq=none)
  (h1:bA r=some (.node rd m)) (h2:bA rd=some (.ns k m')) (h3:bA rq=some (.list [])) (m1:m .node=some (.int v)) (m2:m .npredecessors=some (.int 0)) (m3:m .successors=some (.ref rq)) (cK:Nat):
  bq (bA.set T.pn (.dict cK ((T.ns++[v]).map λu=>(u, .ref (up T.inf v r u))))) {T with W:=λa=>T.W a∨a=r∨a=rd∨a=rq,ep:=cK,ns:=T.ns++[v],inf:=up T.inf v r,dd:=up T.dd v rd,sp:=up T.sp v rq}:=by
 have H1:=H.ext e;have hz:=H.z v hv;have ne:∀{a o},bA a=some o→(∀ep es,o≠ .dict ep es)→(bA.set T.pn (.dict cK ((T.ns++[v]).map λu=>(u, .ref (up T.inf v r u))))) a=some o:=λ{a o} ha ho=>by
  rw[aa.ai (ao ha H1.hn (ho _ _))];exact ha
 have hne:∀u∈T.ns,u≠v:=λu hu q=>hv (q▸hu)
 constructor
 ·intro a ha
  refine ja (W:=λa=>T.W a∨a=r∨a=rd∨a=rq) (λb hb=>?_) a ha
  rcases hb with hb|rfl|rfl|rfl
  ·exact H1.own b hb
  ·rw[h1];simp
  ·rw[h2];simp
  ·rw[h3];simp
 ·exact ne H1.hs (by simp)
 ·exact .inl H.ws
 ·exact ne H1.hd (by simp)
 ·exact .inl H.wd
 ·exact H.mn
 ·exact aa.set_same
 ·exact .inl H.wn
 ·show (T.ns++[v]).Nodup
  rw[List.nodup_append];exact⟨H.nd,by simp,λa ha b hb=>by rw[List.mem_singleton]at hb;subst hb;exact hne a ha⟩
 ·intro u hu
  show ∃m,_=some (bI.node (up T.dd v rd u) m)∧_∧_∧m .successors=some (af.ref (up T.sp v rq u))
  rcases List.mem_append.mp hu with hu|hu
  ·obtain⟨mm,g1,g2,g3,g4⟩:=H1.ni u hu
   rw[cI (hne u hu),cI (hne u hu)];refine⟨mm,?_,g2,g3,g4⟩;show (bA.set _ _) (up T.inf v r u)=_;rw[cI (hne u hu)];exact ne g1 (by simp)
  ·rw[List.mem_singleton]at hu;subst hu
   rw[bF,bF];refine⟨m,?_,m1,?_,m3⟩
   ·show (bA.set _ _) (up T.inf u r u)=_
    rw[bF];exact ne h1 (by simp)
   ·show _=some (af.int (T.np u));rw[hz.1];exact m2
 ·intro u hu
  show ∃k m,(bA.set _ _) (up T.dd v rd u)=_
  rcases List.mem_append.mp hu with hu|hu
  ·obtain⟨k',mm,g1⟩:=H1.nn u hu
   rw[cI (hne u hu)];exact⟨k',mm,ne g1 (by simp)⟩
  ·rw[List.mem_singleton]at hu;subst hu
   rw[bF];exact⟨k,m',ne h2 (by simp)⟩
 ·intro u hu
  show (bA.set _ _) (up T.sp v rq u)=some (bI.list (av (T.sc u)))
  rcases List.mem_append.mp hu with hu|hu
  ·rw[cI (hne u hu)]
   exact ne (H1.nl u hu) (by simp)
  ·rw[List.mem_singleton]at hu;subst hu
   rw[bF,hz.2];exact ne h3 (by simp)
 ·intro u hu
  show (T.W (up T.inf v r u)∨_)∧(T.W (up T.dd v rd u)∨_)∧(T.W (up T.sp v rq u)∨_)
  rcases List.mem_append.mp hu with hu|hu
  ·rw[cI (hne u hu),cI (hne u hu),cI (hne u hu)]
   obtain⟨g1,g2,g3⟩:=H.wi u hu;exact⟨.inl g1, .inl g2, .inl g3⟩
  ·rw[List.mem_singleton]at hu;subst hu
   exact⟨.inr (.inl bF), .inr (.inr (.inl bF)), .inr (.inr (.inr bF))⟩
 ·intro u hu u' mz q
  have q:up T.sp v rq u=up T.sp v rq u':=q;have nq:∀x∈T.ns,T.sp x≠rq:=λx hx e=>by have:=H.nl x hx;rw[e,n3]at this;cases this
  rcases List.mem_append.mp hu with h1|h1<;>rcases List.mem_append.mp mz with h2|h2
  ·rw[cI (hne u h1),cI (hne u' h2)]at q
   exact H.sj u h1 u' h2 q
  ·rw[List.mem_singleton]at h2;subst h2
   rw[bF,cI (hne u h1)]at q;exact absurd q (nq u h1)
  ·rw[List.mem_singleton]at h1;subst h1
   rw[bF,cI (hne u' h2)]at q;exact absurd q.symm (nq u' h2)
  ·rw[List.mem_singleton]at h1 h2;rw[h1,h2]
 ·intro u hu
  exact H.z u λh=>hu (List.mem_append_left _ h)
section
variable{prog:Program}{w:World}{B:Addr→Option Obj}{Ω:aa}{l:Nat}{Q:af→aa→Prop}
theorem fN{s d:Addr}{k:Nat}{m:At→Option af}{n:MN}{f:Addr}(hs:Ω s=some (.inst 362 d))(hd:Ω d=some (.ns k m))(hf:jq 362 n=some f):fG Ω n (.ref s) (.ref f):= .own hs hd hf
theorem bO{s d:Addr}{k:Nat}{m:At→Option af}{t:At}{x:af}{R:af→Prop}(hs:Ω s=some (.inst 362 d))(hd:Ω d=some (.ns k m))(hx:m t=some x)(h:R x):rD (.ref s) t R Ω:=by
 exact .inst hs (.inr rfl) hd hx h
theorem dF{s d:Addr}{k:Nat}{m:At→Option af}{t:At}{x:af}{R:aa→Prop}(hs:Ω s=some (.inst 362 d))(hd:Ω d=some (.ns k m))(ht:dO t=none)(hk:k<900)(h:R (Ω.set d (.ns (k+1) (ef.set m t x)))):fq (.ref s) t x R Ω:=by
 exact .inst hs (.inr rfl) ht hd hk h
theorem eZ{s d:Addr}{k:Nat}{m m':At→Option af}{t:At}{x:af}{R:af→Prop}(hs:Ω s=some (.node d m))(hd:Ω d=some (.ns k m'))(ht:dO t≠none)(hx:m t=some x)(h:R x):rD (.ref s) t R Ω:=by
 exact .node hs ht hd hx h
theorem dG{s d:Addr}{k:Nat}{m m':At→Option af}{t:At}{x:af}{R:aa→Prop}(hs:Ω s=some (.node d m))(hd:Ω d=some (.ns k m'))(ht:dO t≠none)(h:R (Ω.set s (.node d (ef.set m t x)))):fq (.ref s) t x R Ω:=by
 exact .node hs ht hd h
theorem wC{R:Bool→Prop}(h:R true):gm .Is .none .none R Ω:= .YD h
theorem eN{ns:List Int}{f:Int→Addr}{v:Int}:aO (ns.map λu=>(u,af.ref (f u))) v=if v∈ns then some (.ref (f v))else none:=by
 unfold aO
 induction ns with
 |nil=>simp
 |cons u ns ih=>
  rw[List.map_cons,List.find?_cons]
  by_cases q:u=v
  ·subst q;simp
  ·rw[decide_eq_false q]
   simp only;rw[ih];have:v≠u:=λe=>q e.symm
   simp[List.mem_cons,this]
theorem rm(bf:BF prog w B)(bT:l<58){v:Int}(hq:∀r d q m m' az,Ω r=none→Ω d=none→Ω q=none→Ext Ω az→az r=some (.node d m)→az d=some (.ns 0 m')→az q=some (.list [])→m .node=some (.int v)→m .npredecessors=some (.int 0)→m .successors=some (.ref q)→Q (.ref r) az):aF prog w B l (.ref 265) [.int v] Q Ω:=by
 refine qS bf (JF bT) λr d h1 h2 h3=>?_
 have hr0:((Ω.set d (.ns 0 λaj=>none)).set r (.node d λaj=>none)) r=some (.node d λaj=>none):=aa.set_same;have hd0:((Ω.set d (.ns 0 λaj=>none)).set r (.node d λaj=>none)) d=some (.ns 0 λaj=>none):=by rw[aa.ai (Ne.symm h3),aa.set_same]
 have hd1:∀{az:aa} {o},az d=some (.ns 0 λaj=>none)→(az.set r o) d=some (.ns 0 λaj=>none):=λ{az o} h=>by rw[aa.ai (Ne.symm h3)];exact h
 refine⟨.int v,rfl, .ref r,rfl,dG hr0 hd0 (by decide) ?_⟩;refine⟨.ref r,rfl,dG aa.set_same (hd1 hd0) (by decide) ?_⟩;rw[aa.set_set,aa.set_set];intro q jG;have jG:((Ω.set d (.ns 0 λaj=>none)).set r (.node d (ef.set (ef.set (λaj=>none) .node (.int v)) .npredecessors (.int 0)))) q=none:=jG;have e1:Ext Ω ((Ω.set d (.ns 0 λaj=>none)).set r (.node d (ef.set (ef.set (λaj=>none) .node (.int v)) .npredecessors (.int 0)))):=((Ext.refl Ω).upd h2).upd h1;have Y9:r≠q:=aE aa.set_same jG;have hdq:d≠q:=aE (by rw[aa.ai (Ne.symm h3),aa.set_same]) jG;refine⟨.ref r,rfl,dG (au aa.set_same jG) (au (hd1 aa.set_same) jG) (by decide) ?_⟩;exact⟨rfl,hq r d q _ _ _ h1 h2 (e1.none jG) ((e1.then jG).upd h1) aa.set_same (hd1 (au (hd1 aa.set_same) jG)) ((aa.ai (Ne.symm Y9)).trans aa.set_same) rfl rfl rfl⟩
theorem qf(bf:BF prog w B)(bT:l<56){T:TD}(H:bq Ω T){v:Int}(hlen:T.ns.length<1000)
  (hq:∀W' cK nD D7 D8 az,bq az {T with W:=W',ep:=cK,ns:=eW T.ns v,inf:=nD,dd:=D7,sp:=D8}→fh T.W Ω W' az→Q (.ref (nD v)) az):aF prog w B l (.ref 305) [.ref T.s, .int v] Q Ω:=by
 refine yJ bf ?_;refine⟨.ref T.s,rfl,bO H.hs H.hd H.mn ⟨_,i6 H.hn rfl, .int v,rfl,r9 H.hn ?_⟩⟩;rw[eN]
 by_cases hv:v∈T.ns
 ·rw[if_pos hv]
  refine dj (dD (aM rfl ?_));refine⟨_,rfl,?_⟩;have e:eW T.ns v=T.ns:=if_pos hv;refine hq T.W T.ep T.inf T.dd T.sp Ω ?_ (fh.refl _ _);rw[e];exact H
 ·rw[if_neg hv]
  refine dj (wC (bN rfl ?_));have e:eW T.ns v=T.ns++[v]:=if_neg hv;refine⟨.int v,rfl,aR (by decide) (Nat.lt_add_left _ bT) (rm bf (Nat.lt_of_le_of_lt bT (by decide)) λr d q m m' az n1 n2 n3 x h1 h2 h3 m1 m2 m3=>?_)⟩;have H1:=H.ext x;refine⟨.ref T.s,rfl,bO H1.hs H1.hd H1.mn ⟨.int v,rfl,cO H1.hn (by rw[List.length_map];unfold lim;exact Hz hlen) λcK=>?_⟩⟩;rw[iL (by rw[List.map_map];simpa using hv)];have e2:(T.ns.map λu=>(u,af.ref (T.inf u)))++[(v,af.ref r)]=(T.ns++[v]).map λu=>(u,af.ref (up T.inf v r u)):=by
   rw[List.map_append,List.map_cons,List.map_nil,bF]
   congr 1
   exact List.map_congr_left λu hu=>by rw[cI λq=>hv (by rw[←q];exact hu)]
  rw[e2];have H2:=H.node hv x n1 n2 n3 h1 h2 h3 m1 m2 m3 cK;rw[←e]at H2;refine⟨_,rfl,?_⟩;have:=hq _ cK (up T.inf v r) (up T.dd v d) (up T.sp v q) _ H2 ?_
  ·rw[bF,e]at this;exact this
  ·refine(fh.grow x (W':=λa=>T.W a∨a=r∨a=d∨a=q) λa ha=>?_).trans (fh.upd (.inl H.wn))
   rcases ha with ha|rfl|rfl|rfl
   ·exact .inl ha
   ·exact .inr n1
   ·exact .inr n2
   ·exact .inr n3
end
theorem bq.G7{Ω:aa}{T:TD}(H:bq Ω T){sc':Int→List Int}(h:∀v,T.sc v=sc' v):bq Ω {T with sc:=sc'}:=by
 have:sc'=T.sc:=funext λv=>(h v).symm
 subst this;exact H
theorem bq.z8{Ω:aa}{T:TD}(H:bq Ω T){Ox:Int→Int}(h:∀v,T.np v=Ox v):bq Ω {T with np:=Ox}:=by
 have:Ox=T.np:=funext λv=>(h v).symm
 subst this;exact H
theorem bq.Ni{Ω:aa}{T:TD}(H:bq Ω T){ns':List Int}(h:T.ns=ns'):bq Ω {T with ns:=ns'}:=by
 subst h;exact H
structure kC(Ω:aa)(T:TD)(pr:Addr)(rd:List Int)(po fi:Int):Prop where
 mr:T.m .aG=some (.ref pr)
 hr:Ω pr=some (.list (av rd))
 wr:T.W pr
 ne:∀v∈T.ns,T.sp v≠pr
 mp:T.m .cA=some (.int po)
 mf:T.m .cD=some (.int fi)
theorem iN:∀(ps ns:List Int),(ps.foldl eW ns).length≤ns.length+ps.length
 |[],ns=>Nat.le_refl _
 |p::ps,ns=>by
  have:=iN ps (eW ns p);have:=wB (ns:=ns) (v:=p);rw[List.foldl_cons,List.length_cons];exact US (by assumption) this
theorem ez{xs:List Int}{k:Nat}{x:af}(h:(av xs)[k]?=some x):∃v,xs[k]?=some v∧x= .int v:=by
 unfold av at h;rw[List.getElem?_map]at h;cases q:xs[k]? with
 |none=>rw[q]at h;cases h
 |some v=>rw[q]at h;cases h;exact⟨v,rfl,rfl⟩
theorem take_snoc{α:Type}{xs:List α}{k:Nat}{v:α}(h:xs[k]?=some v):xs.take (k+1)=xs.take k++[v]:=by
 rw[List.take_add_one,h];rfl
theorem iO{xs:List Int}(hn:xs.Nodup){k:Nat}{v:Int}(h:xs[k]?=some v):v∉xs.take k:=by
 have h1:(xs.take (k+1)).Nodup:=List.Nodup.sublist (List.take_sublist ..) hn;rw[take_snoc h,List.nodup_append]at h1;exact λq=>h1.2.2 v q v (List.mem_singleton.mpr rfl) rfl
section
variable{prog:Program}{w:World}{B:Addr→Option Obj}{Ω:aa}{l:Nat}{Q:af→aa→Prop}
theorem D9(bf:BF prog w B)(bT:l<54){T:TD}(H:bq Ω T){u:Int}{ps:List Int}(hlen:T.ns.length+ps.length<900)(mr:T.m .aG=some .none)(hnd:ps.Nodup)(hsl:∀v,(T.sc v).length<1000)
  (hq:∀W' cK nD D7 D8 az,bq az {T with W:=W',ep:=cK,ns:=ps.foldl eW (eW T.ns u),np:=up T.np u (T.np u+ps.length),sc:=λp=>if p∈ps then T.sc p++[u]else T.sc p,inf:=nD,dd:=D7,sp:=D8}→fh T.W Ω W' az→Q .none az):aF prog w B l (.ref 312) (.ref T.s:: .int u::av ps) Q Ω:=by
 refine Dv bf (by rw[aq];unfold lim;exact KV hlen) λr hr=>?_
 have x0:Ext Ω (Ω.set r (.tup (av ps))):= .fresh hr;have H0:=H.ext x0;have hr0:(Ω.set r (.tup (av ps))) r=some (.tup (av ps)):=aa.set_same;have nW:¬T.W r:=H.fresh hr;refine⟨.ref T.s,rfl,bO H0.hs H0.hd mr (dj (dZ (aM rfl ?_)))⟩;refine⟨.ref T.s,rfl, .ref 305,fN H0.hs H0.hd rfl, .int u,rfl,aR (by decide) (Nat.lt_add_left _ bT) (qf bf (Nat.lt_of_le_of_lt bT (by decide)) H0 (UT hlen) λW1 ep1 I5 XW sp1 bA H1 x1=>?_)⟩;have hu:u∈eW T.ns u:=iM.mpr (.inr rfl);obtain⟨m1,g1,g2,g3,g4⟩:=H1.ni u hu;obtain⟨k1,m1',g5⟩:=H1.nn u hu;dsimp only at g1 g3 g4 g5;refine⟨.ref (I5 u),rfl,eZ g1 g5 (by decide) g3 ⟨.ref r,rfl,zT (x1.keep _ _ nW hr0) (by rw[aq];unfold lim;exact KV hlen) (j6 (dG g1 g5 (by decide) ?_))⟩⟩;rw[aq];have H2:=H1.z7 hu g1 (x:=T.np u+ps.length);have x2:=x1.trans (fh.upd (o:= .node (XW u) (ef.set m1 .npredecessors (.int (T.np u+ps.length)))) (H1.wi u hu).1);dsimp only at H2 x2;generalize (bA.set (I5 u) (.node (XW u) (ef.set m1 .npredecessors (.int (T.np u+ps.length)))))=dB at H2 x2;have hr2:=x2.keep _ _ nW hr0;refine⟨.ref r,rfl,?_⟩;refine rH.tup hr2 ?_;refine nN (p:=r) (av ps) (I:=λk st=>st.m .self=some (.ref T.s)∧st.m .node=some (.int u)∧∃W' cK nD D7 D8,bq st.Ω {T with W:=W',ep:=cK,ns:=(ps.take k).foldl eW (eW T.ns u),np:=up T.np u (T.np u+ps.length),sc:=λp=>if p∈ps.take k then T.sc p++[u]else T.sc p,inf:=nD,dd:=D7,sp:=D8}∧fh T.W (Ω.set r (.tup (av ps))) W' st.Ω) ?_ ?_ ?_ ?_
 ·intro k st aH;obtain⟨a1,a2,W',cK,nD,D7,D8,a3,a4⟩:=aH
  exact a4.keep _ _ nW hr0
 ·intro k x aH K hx bB hK;obtain⟨m,cV⟩:=aH;obtain⟨a1,a2,W',cK,nD,D7,D8,a3,a4⟩:=bB
  obtain⟨p,hp,rfl⟩:=ez hx;have htk:=take_snoc hp;have qb:=iO hnd hp;dsimp only at a1 a2 a3 a4;have hl1:=iN (ps.take k) (eW T.ns u);have hl2:=wB (ns:=T.ns) (v:=u);have hl3:(ps.take k).length≤ps.length:=List.length_take_le' ..;refine⟨.ref T.s,a1, .ref 305,fN a3.hs a3.hd rfl, .int p,rfl,aR (by decide) (Nat.lt_add_left _ bT) (qf bf (Nat.lt_of_le_of_lt bT (by decide)) a3 (by dsimp only;exact UU hl1 hl2 hl3 hlen) λW4 XX Nj dd4 sp4 gf H4 x4=>?_)⟩;have wD:p∈eW ((ps.take k).foldl eW (eW T.ns u)) p:=iM.mpr (.inr rfl);obtain⟨m4,b1,b2,b3,b4⟩:=H4.ni p wD;obtain⟨k4,Zh,b5⟩:=H4.nn p wD;have b6:=H4.nl p wD;dsimp only at b1 b3 b4 b5 b6;rw[if_neg qb]at b6;refine⟨.ref (Nj p),rfl,eZ b1 b5 (by decide) b4 ⟨_,aU b6 rfl, .int u,a2,aY b6 (by rw[aq];have:=hsl p;unfold lim;exact Hz this) ?_⟩⟩;rw[cF];have H5:=H4.Nh wD (xs:=T.sc p++[u]);have x5:=(a4.trans x4).trans (fh.upd (o:= .list (av (T.sc p++[u]))) (H4.wi p wD).2.2);refine hK _ ⟨a1,a2,W4,XX,Nj,dd4,sp4,?_,x5⟩;refine(H5.G7 (λv=>?_)).Ni (by rw[htk,List.foldl_append];rfl);show up _ p _ v=if v∈ps.take (k+1)then T.sc v++[u]else T.sc v
  rw[htk]
  by_cases q:v=p
  ·subst q;rw[bF,if_pos (by simp)]
  ·rw[cI q]
   show (if v∈ps.take k then T.sc v++[u]else T.sc v)=_
   by_cases q2:v∈ps.take k
   ·rw[if_pos q2,if_pos (List.mem_append_left _ q2)]
   ·rw[if_neg q2,if_neg]
    intro h
    rcases List.mem_append.mp h with h|h
    ·exact q2 h
    ·exact q (List.mem_singleton.mp h)
 ·intro aH bB;obtain⟨m,cV⟩:=aH;obtain⟨a1,a2,W',cK,nD,D7,D8,a3,a4⟩:=bB
  rw[aq,List.take_length]at a3;exact hq W' cK nD D7 D8 cV a3 ((fh.ext x0).trans a4)
 ·refine⟨rfl,rfl,W1,ep1,I5,XW,sp1,?_,x2⟩
  exact H2.G7 (λv=>by simp)
theorem wF(bf:BF prog w B){T:TD}(H:bq Ω T){pr:Addr}{rd:List Int}{po:Int}(R:kC Ω T pr rd po po)(hl:rd.length<1000)(hq:Q (.bool (!rd.isEmpty)) Ω):aF prog w B l (.ref 331) [.ref T.s] Q Ω:=by
 refine qR bf ?_;refine⟨.ref T.s,rfl,bO H.hs H.hd R.mr (dj (dD (aM rfl ?_)))⟩;refine⟨.ref T.s,rfl,bO H.hs H.hd R.mf ⟨.ref T.s,rfl,bO H.hs H.hd R.mp (bK (bu (aM (by simp) ⟨.ref T.s,rfl,bO H.hs H.hd R.mr (Bq R.hr (by rw[aq];unfold lim;exact Hz hl) ?_)⟩)))⟩⟩;have:(av rd).isEmpty=rd.isEmpty:=by cases rd<;>rfl
 show Q (.bool (!(av rd).isEmpty)) Ω;rw[this];exact hq
theorem zj(bf:BF prog w B){T:TD}(H:bq Ω T){pr:Addr}{rd:List Int}{po fi:Int}(R:kC Ω T pr rd po fi)(hl:rd.length<1000)(hk:T.k<800)(hin:∀v∈rd,v∈T.ns)
  (hq:∀r az m',Ω r=none→az r=some (.tup (av rd))→bq az {T with k:=T.k+1,m:=m',np:=λv=>if v∈rd then -1 else T.np v}→kC az {T with k:=T.k+1,m:=m',np:=λv=>if v∈rd then -1 else T.np v} pr [] (po+rd.length) fi→fh T.W Ω T.W az→Q (.ref r) az):aF prog w B l (.ref 324) [.ref T.s] Q Ω:=by
 have hlim:(av rd).length<lim:=by rw[aq];unfold lim;exact Hz hl
 refine qQ bf ?_;refine⟨.ref T.s,rfl,bO H.hs H.hd R.mr (dj (dD (aM rfl ?_)))⟩;refine⟨.ref T.s,rfl,bO H.hs H.hd R.mr (yW R.hr hlim λr hr=>?_)⟩;have hr:Ω r=none:=hr;have x0:Ext Ω (Ω.set r (.tup (av rd))):= .fresh hr;have H0:=H.ext x0;have hr0:(Ω.set r (.tup (av rd))) r=some (.tup (av rd)):=aa.set_same;have nW:¬T.W r:=H.fresh hr;refine⟨.ref T.s,rfl,bO H0.hs H0.hd H0.mn ⟨.ref r,rfl,?_⟩⟩;refine rH.tup hr0 ?_;refine nN (p:=r) (av rd) (I:=λk st=>st.m .self=some (.ref T.s)∧st.m .result=some (.ref r)∧st.m .n2i=some (.ref T.pn)∧bq st.Ω {T with np:=λv=>if v∈rd.take k then -1 else T.np v}∧fh T.W (Ω.set r (.tup (av rd))) T.W st.Ω∧st.Ω pr=some (.list (av rd))) ?_ ?_ ?_ ?_
 ·intro k st aH;obtain⟨a1,a2,a3,a4,a5,a6⟩:=aH;exact a5.keep _ _ nW hr0
 ·intro k x aH K hx bB hK;obtain⟨m,bA⟩:=aH;obtain⟨a1,a2,a3,a4,a5,a6⟩:=bB
  obtain⟨p,hp,rfl⟩:=ez hx;have htk:=take_snoc hp;have wD:=hin p (List.mem_of_getElem? hp);obtain⟨m4,b1,b2,b3,b4⟩:=a4.ni p wD;obtain⟨k4,Zh,b5⟩:=a4.nn p wD;have b6:=a4.hn;dsimp only at b1 b3 b4 b5 b6 a1 a2 a3 a5 a6;refine⟨.ref T.pn,a3, .int p,rfl,di b6 (by rw[eN,if_pos wD]) (dG b1 b5 (by decide) ?_)⟩;have H2:=a4.z7 wD b1 (x:=-1);refine hK _ ⟨a1,a2,a3,H2.z8 (λv=>?_),a5.trans (fh.upd (H.wi p wD).1),?_⟩
  ·show up _ p _ v=if v∈rd.take (k+1)then -1 else T.np v
   rw[htk]
   by_cases q:v=p
   ·subst q;rw[bF,if_pos (by simp)]
   ·rw[cI q]
    show (if v∈rd.take k then -1 else T.np v)=_
    by_cases q2:v∈rd.take k
    ·rw[if_pos q2,if_pos (List.mem_append_left _ q2)]
    ·rw[if_neg q2,if_neg]
     intro h
     rcases List.mem_append.mp h with h|h
     ·exact q2 h
     ·exact q (List.mem_singleton.mp h)
  ·show (bA.set _ _) pr=_
   rw[aa.ai (ao a6 b1 (by simp))];exact a6
 ·intro aH bB;obtain⟨m,bA⟩:=aH;obtain⟨a1,a2,a3,a4,a5,a6⟩:=bB
  rw[aq,List.take_length]at a4;dsimp only at a1 a2 a3 a4 a5 a6;have r1:=a5.keep _ _ nW hr0;refine⟨.ref T.s,a1,bO a4.hs a4.hd R.mr ⟨_,aU a6 rfl,yV a6 hlim ?_⟩⟩;have H2:bq (bA.set pr (.list [])) {T with np:=λv=>if v∈rd then -1 else T.np v}:=by
   refine⟨ja a4.own,?_,a4.ws,?_,a4.wd,a4.mn,?_,a4.wn,a4.nd,λv hv=>?_,λv hv=>?_,λv hv=>?_,a4.wi,a4.sj,a4.z⟩
   ·rw[aa.ai (ao a4.hs a6 (by simp))];exact a4.hs
   ·rw[aa.ai (ao a4.hd a6 (by simp))];exact a4.hd
   ·rw[aa.ai (ao a4.hn a6 (by simp))];exact a4.hn
   ·obtain⟨m',h1,h2⟩:=a4.ni v hv
    exact⟨m',by rw[aa.ai (ao h1 a6 (by simp))];exact h1,h2⟩
   ·obtain⟨k',m',h1⟩:=a4.nn v hv
    exact⟨k',m',by rw[aa.ai (ao h1 a6 (by simp))];exact h1⟩
   ·rw[aa.ai (R.ne v hv)];exact a4.nl v hv
  have MY:r≠pr:=ao r1 a6 (by simp);have r2:(bA.set pr (.list [])) r=some (.tup (av rd)):=by rw[aa.ai MY];exact r1
  refine⟨.ref T.s,a1,bO H2.hs H2.hd R.mp ⟨.ref r,a2,zT r2 hlim (j6 (dF H2.hs H2.hd (by decide) (by dsimp only;exact NK hk) ?_))⟩⟩;rw[aq];refine⟨_,a2,?_⟩;have H3:=H2.I4 (k':=T.k+1) (m':=ef.set T.m .cA (.int (po+rd.length))) rfl;have hrd:r≠T.d:=ao r2 H2.hd (by simp);have qY:pr≠T.d:=ao a6 a4.hd (by simp);refine hq r _ _ hr ?_ H3 ⟨R.mr,?_,R.wr,R.ne,rfl,R.mf⟩ ?_
  ·show (aa.set _ _ _) r=_
   rw[aa.ai hrd];exact r2
  ·show (aa.set _ _ _) pr=_
   exact(aa.ai qY).trans aa.set_same
  ·exact(((fh.ext x0).trans a5).trans (fh.upd R.wr)).trans (fh.upd H.wd)
 ·exact⟨rfl,rfl,rfl,H0.z8 (λv=>by simp),fh.refl _ _,x0 _ _ R.hr⟩
noncomputable def lB(sc:Int→List Int)(x:(Int→Int)×List Int)(u:Int):(Int→Int)×List Int:=
 (λv=>if v=u then -2 else if v∈sc u then x.1 v-1 else x.1 v,x.2++(sc u).filter λv=>decide (x.1 v=1))
theorem z9{sc:Int→List Int}:∀(us:List Int) (x:(Int→Int)×List Int) (u:Int),u∉us→(∀v∈us,u∉sc v)→(us.foldl (lB sc) x).1 u=x.1 u
 |[],x,u,aj,br=>rfl
 |v::us,x,u,h1,h2=>by
  rw[List.foldl_cons,z9 us _ u (λh=>h1 (List.mem_cons_of_mem _ h)) λw hw=>h2 w (List.mem_cons_of_mem _ hw)];show (if u=v then _ else if u∈sc v then _ else _)=_;rw[if_neg (λe:u=v=>h1 (by rw[e];exact List.mem_cons_self ..)),if_neg (h2 v (List.mem_cons_self ..))]
theorem Ea{sc:Int→List Int}{b:Nat}:∀(us:List Int) (x:(Int→Int)×List Int),(∀u∈us,(sc u).length≤b)→(us.foldl (lB sc) x).2.length≤x.2.length+us.length*b
 |[],x,aj=>by simp
 |v::us,x,h=>by
  rw[List.foldl_cons];have:=Ea us (lB sc x v) λu hu=>h u (List.mem_cons_of_mem _ hu)
  have h1:(lB sc x v).2.length≤x.2.length+b:=by
   show (x.2++_).length≤_;rw[List.length_append];have:=List.length_filter_le (λw=>decide (x.1 w=1)) (sc v);have:=h v (List.mem_cons_self ..);exact UW (by assumption) this
  rw[List.length_cons,Nat.add_mul];exact UX this h1
end
theorem bq.XY{Ω:aa}{T:TD}(H:bq Ω T){pr:Addr}{xs ys:List af}(h:Ω pr=some (.list xs))(ne:∀v∈T.ns,T.sp v≠pr):bq (Ω.set pr (.list ys)) T:=by
 refine⟨ja H.own,?_,H.ws,?_,H.wd,H.mn,?_,H.wn,H.nd,λv hv=>?_,λv hv=>?_,λv hv=>?_,H.wi,H.sj,H.z⟩
 ·rw[aa.ai (ao H.hs h (by simp))];exact H.hs
 ·rw[aa.ai (ao H.hd h (by simp))];exact H.hd
 ·rw[aa.ai (ao H.hn h (by simp))];exact H.hn
 ·obtain⟨m',h1,h2⟩:=H.ni v hv
  exact⟨m',by rw[aa.ai (ao h1 h (by simp))];exact h1,h2⟩
 ·obtain⟨k',m',h1⟩:=H.nn v hv
  exact⟨k',m',by rw[aa.ai (ao h1 h (by simp))];exact h1⟩
 ·rw[aa.ai (ne v hv)];exact H.nl v hv
section
variable{prog:Program}{w:World}{B:Addr→Option Obj}{Ω:aa}{l:Nat}{Q:af→aa→Prop}
inductive Nk(Ω:aa)(T:TD)(pr:Addr)(rd us:List Int)(po fi:Int)(r:Addr)(k:Nat)(st:St):Prop
 |mk (q1:st.m .self=some (.ref T.s)) (q2:st.m .n2i=some (.ref T.pn)) (k':Nat) (m':At→Option af) (q3:bq st.Ω {T with k:=k',m:=m',np:=((us.take k).foldl (lB T.sc) (T.np,rd)).1}) (q4:kC st.Ω {T with k:=k',m:=m',np:=((us.take k).foldl (lB T.sc) (T.np,rd)).1} pr ((us.take k).foldl (lB T.sc) (T.np,rd)).2 po (fi+k)) (q5:k'≤T.k+k) (q6:fh T.W (Ω.set r (.tup (av us))) T.W st.Ω):Nk Ω T pr rd us po fi r k st
theorem BL(bf:BF prog w B){T:TD}(H:bq Ω T){pr:Addr}{rd:List Int}{po fi:Int}(R:kC Ω T pr rd po fi){us:List Int}(OA:us.Nodup)
  (hin:∀u∈us,u∈T.ns∧T.np u=-1∧(T.sc u).Nodup∧(T.sc u).length≤20∧∀v∈T.sc u,v∈T.ns∧v∉us) (hl:us.length≤20) (hrl:rd.length≤100) (hk:T.k+us.length<800)
  (hq:∀k' m' az,bq az {T with k:=k',m:=m',np:=(us.foldl (lB T.sc) (T.np,rd)).1}→kC az {T with k:=k',m:=m',np:=(us.foldl (lB T.sc) (T.np,rd)).1} pr (us.foldl (lB T.sc) (T.np,rd)).2 po (fi+us.length)→k'≤T.k+us.length→fh T.W Ω T.W az→Q .none az):aF prog w B l (.ref 345) (.ref T.s::av us) Q Ω:=by
 refine Bj bf (by rw[aq];unfold lim;exact F0 hl) λr hr=>?_
 have hr:Ω r=none:=hr;have x0:Ext Ω (Ω.set r (.tup (av us))):= .fresh hr;have H0:=H.ext x0;have hr0:(Ω.set r (.tup (av us))) r=some (.tup (av us)):=aa.set_same;have nW:¬T.W r:=H.fresh hr;refine⟨.ref T.s,rfl,bO H0.hs H0.hd R.mr (dj (dD (aM rfl ?_)))⟩;refine⟨.ref T.s,rfl,bO H0.hs H0.hd H0.mn ⟨.ref r,rfl,?_⟩⟩;refine rH.tup hr0 ?_;have hFl:∀k,((us.take k).foldl (lB T.sc) (T.np,rd)).2.length≤500:=λk=>by
  have h1:=Ea (sc:=T.sc) (b:=20) (us.take k) (T.np,rd) λu hu=>(hin u (List.mem_of_mem_take hu)).2.2.2.1
  have h2:(us.take k).length≤us.length:=List.length_take_le' ..;have h3:(us.take k).length*20≤400:=Rk h2 hl;simp only at h1;exact Rl h1 hrl h2 hl
 refine nN (p:=r) (av us) (I:=Nk Ω T pr rd us po fi r) ?_ ?_ ?_ ?_
 ·intro k st aH;obtain⟨a1,a2,k',m',a3,a4,a5,a6⟩:=aH;exact a6.keep _ _ nW hr0
 ·intro k x aH K hx bB hK;obtain⟨m,bA⟩:=aH;obtain⟨a1,a2,k',m',a3,a4,a5,a6⟩:=bB
  obtain⟨u,hu,rfl⟩:=ez hx;have htk:=take_snoc hu;have hun:=iO OA hu;have XZ:=List.mem_of_getElem? hu;obtain⟨hu1,Mu,W8,hu4,hu5⟩:=hin u XZ;have XC:k<us.length:=by
   cases Nat.lt_or_ge k us.length with
   |inl h=>exact h
   |inr h=>rw[List.getElem?_eq_none h]at hu;cases hu
  have hnp:((us.take k).foldl (lB T.sc) (T.np,rd)).1 u=-1:=by
   rw[z9 _ _ _ hun λv hv h=>((hin v (List.mem_of_mem_take hv)).2.2.2.2 u h).2 XZ];exact Mu
  have Zi:=hFl k;have X0:(us.take (k+1)).foldl (lB T.sc) (T.np,rd)=lB T.sc ((us.take k).foldl (lB T.sc) (T.np,rd)) u:=by rw[htk,List.foldl_append];rfl
  generalize hF:(us.take k).foldl (lB T.sc) (T.np,rd)=F at a3 a4 hnp Zi X0;obtain⟨m4,b1,b2,b3,b4⟩:=a3.ni u hu1;obtain⟨k4,Zh,b5⟩:=a3.nn u hu1;have b6:=a3.hn;dsimp only at a1 a2 b1 b3 b4 b5 b6;rw[hnp]at b3;refine⟨.ref T.pn,a2,_,i6 b6 rfl, .int u,rfl,r9 b6 ?_⟩;rw[eN,if_pos hu1];refine dj (dD (aM rfl ?_));refine⟨.ref (T.inf u),rfl,eZ b1 b5 (by decide) b3 ?_⟩;refine⟨.int (-1),rfl,Fi (ua (x:=-1) (y:=-1) (aM (by decide) ?_))⟩;refine⟨.ref (T.inf u),rfl,dG (x:= .int (-2)) b1 b5 (by decide) ?_⟩;have H2:=a3.z7 hu1 b1 (x:=-2);have R2:(bA.set (T.inf u) (.node (T.dd u) (ef.set m4 .npredecessors (.int (-2))))) pr=some (.list (av F.2)):=by
   rw[aa.ai (ao a4.hr b1 (by simp))];exact a4.hr
  have x2:=a6.trans (fh.upd (o:= .node (T.dd u) (ef.set m4 .npredecessors (.int (-2)))) (H.wi u hu1).1);dsimp only at H2 x2;generalize (bA.set (T.inf u) (.node (T.dd u) (ef.set m4 .npredecessors (.int (-2)))))=dB at H2 x2 R2;obtain⟨m5,c1,c2,c3,c4⟩:=H2.ni u hu1;obtain⟨k5,m5',c5⟩:=H2.nn u hu1;have c6:=H2.nl u hu1;dsimp only at c1 c3 c4 c5 c6;refine⟨.ref (T.inf u),rfl,eZ c1 c5 (by decide) c4 ?_⟩;refine rH.list c6 ?_;refine ki (p:=T.sp u) (av (T.sc u)) (I:=λj st=>st.m .self=some (.ref T.s)∧st.m .n2i=some (.ref T.pn)∧bq st.Ω {T with k:=k',m:=m',np:=λv=>if v=u then -2 else if v∈(T.sc u).take j then F.1 v-1 else F.1 v}∧st.Ω pr=some (.list (av (F.2++((T.sc u).take j).filter λv=>decide (F.1 v=1))))∧fh T.W (Ω.set r (.tup (av us))) T.W st.Ω) ?_ ?_ ?_ ?_
  ·intro j st aH;obtain⟨d1,d2,d3,d4,d5⟩:=aH;exact d3.nl u hu1
  ·intro j x aH K' hx bB wM;obtain⟨m6,cV⟩:=aH;obtain⟨d1,d2,d3,d4,d5⟩:=bB
   obtain⟨p,hp,rfl⟩:=ez hx;have htj:=take_snoc hp;have qb:=iO W8 hp;have wD:=List.mem_of_getElem? hp;obtain⟨hp1,hp2⟩:=hu5 p wD;have Zj:p≠u:=λq=>hp2 (q▸XZ)
   obtain⟨m7,e1,e2,e3,e4⟩:=d3.ni p hp1;obtain⟨k7,m7',e5⟩:=d3.nn p hp1;have e6:=d3.hn;dsimp only at d1 d2 d4 d5 e1 e3 e4 e5 e6;rw[if_neg Zj,if_neg qb]at e3;refine⟨.ref T.pn,d2, .int p,rfl,di e6 (by rw[eN,if_pos hp1]) ?_⟩;refine⟨.ref (T.inf p),rfl,eZ e1 e5 (by decide) e3 (aX (zQ (dG (x:= .int (F.1 p-1)) e1 e5 (by decide) ?_)))⟩;have H3:=d3.z7 hp1 e1 (x:=F.1 p-1);have x3:=d5.trans (fh.upd (o:= .node (T.dd p) (ef.set m7 .npredecessors (.int (F.1 p-1)))) (H.wi p hp1).1);have R3:(cV.set (T.inf p) (.node (T.dd p) (ef.set m7 .npredecessors (.int (F.1 p-1))))) pr=some (.list (av (F.2++((T.sc u).take j).filter λv=>decide (F.1 v=1)))):=by
    rw[aa.ai (ao d4 e1 (by simp))];exact d4
   have f1:(cV.set (T.inf p) (.node (T.dd p) (ef.set m7 .npredecessors (.int (F.1 p-1))))) (T.inf p)=some (.node (T.dd p) (ef.set m7 .npredecessors (.int (F.1 p-1)))):=aa.set_same;have f2:(cV.set (T.inf p) (.node (T.dd p) (ef.set m7 .npredecessors (.int (F.1 p-1))))) (T.dd p)=some (.ns k7 m7'):=by rw[aa.ai (ao e5 e1 (by simp))];exact e5
   refine⟨.ref (T.inf p),rfl,eZ f1 f2 (by decide) (x:= .int (F.1 p-1)) rfl ?_⟩;have H4:=H3.z8 (Ox:=λv=>if v=u then -2 else if v∈(T.sc u).take (j+1)then F.1 v-1 else F.1 v) (λv=>by
    show up _ p _ v=_;rw[htj]
    by_cases q:v=p
    ·subst q;rw[bF,if_neg Zj,if_pos (by simp)]
    ·rw[cI q]
     show (if v=u then -2 else if v∈(T.sc u).take j then F.1 v-1 else F.1 v)=_
     by_cases q1:v=u
     ·rw[if_pos q1,if_pos q1]
     ·rw[if_neg q1,if_neg q1]
      by_cases q2:v∈(T.sc u).take j
      ·rw[if_pos q2,if_pos (List.mem_append_left _ q2)]
      ·rw[if_neg q2,if_neg]
       intro h
       rcases List.mem_append.mp h with h|h
       ·exact q2 h
       ·exact q (List.mem_singleton.mp h))
   dsimp only at H4 x3 R3;have OB:(F.2++((T.sc u).take j).filter λv=>decide (F.1 v=1)).length<1000:=by
    rw[List.length_append];have h1:=List.length_filter_le (λv=>decide (F.1 v=1)) ((T.sc u).take j);have h2:((T.sc u).take j).length≤(T.sc u).length:=List.length_take_le' ..;exact Rm Zi h1 h2 hu4
   by_cases h1:F.1 p=1
   ·refine aX (dY (bN (by rw[h1];decide) ?_))
    refine⟨.ref T.s,d1,bO H4.hs H4.hd a4.mr ⟨_,aU R3 rfl, .int p,rfl,aY R3 (by rw[aq];unfold lim;exact Hz OB) ?_⟩⟩;rw[cF];refine wM _ ⟨d1,d2,H4.XY R3 R.ne,?_,x3.trans (fh.upd R.wr)⟩;show (aa.set _ _ _) pr=_;rw[aa.set_same,htj,List.filter_append,List.filter_cons_of_pos (by simpa using h1),←List.append_assoc];rfl
   ·refine aX (dY (aM (by simp;exact Vy h1) ?_))
    refine wM _ ⟨d1,d2,H4,?_,x3⟩;rw[htj,List.filter_append,List.filter_cons_of_neg (by simpa using h1),List.filter_nil,List.append_nil];exact R3
  ·intro aH bB;obtain⟨m6,cV⟩:=aH;obtain⟨d1,d2,d3,d4,d5⟩:=bB
   rw[aq,List.take_length]at d3 d4;dsimp only at d1 d2 d4 d5;refine⟨.ref T.s,d1,bO d3.hs d3.hd a4.mf (aX (j6 (dF (x:= .int (fi+k+1)) d3.hs d3.hd (by decide) (by dsimp only;exact Ro a5 hk XC) ?_)))⟩;have H4:=d3.I4 (k':=k'+1) (m':=ef.set m' .cD (.int (fi+k+1))) rfl;have qY:pr≠T.d:=ao d4 d3.hd (by simp);refine hK _ ⟨d1,d2,k'+1,ef.set m' .cD (.int (fi+k+1)),?_,?_,Pe a5,d5.trans (fh.upd H.wd)⟩
   ·rw[X0];exact H4
   ·rw[X0]
    refine⟨a4.mr,?_,R.wr,R.ne,a4.mp,?_⟩
    ·exact(aa.ai qY).trans d4
    ·show some (af.int _)=some (af.int _)
     congr 2;exact Pf
  ·refine⟨a1,a2,H2.z8 (λv=>?_),?_,x2⟩
   ·show up F.1 u (-2) v=if v=u then -2 else if v∈(T.sc u).take 0 then _ else _
    by_cases q:v=u
    ·subst q;rw[bF,if_pos rfl]
    ·rw[cI q,if_neg q,if_neg (by simp)]
   ·rw[List.take_zero,List.filter_nil,List.append_nil];exact R2
 ·intro aH bB;obtain⟨m,bA⟩:=aH;obtain⟨a1,a2,k',m',a3,a4,a5,a6⟩:=bB
  rw[aq]at a3 a4 a5;rw[List.take_length]at a3 a4;exact hq k' m' bA a3 a4 a5 ((fh.ext x0).trans a6)
 ·refine⟨rfl,rfl,T.k,T.m,H0,⟨R.mr,x0 _ _ R.hr,R.wr,R.ne,R.mp,?_⟩,Nat.le_add_right _ _,fh.refl _ _⟩
  show _=some (af.int (fi+(0:Nat)));rw[R.mf];congr 2;exact Vz
end
theorem BN(es:List (Int×af))(k z:Int):aO (qq es k) z=if z=k then none else aO es z:=by
 unfold aO qq
 induction es with
 |nil=>simp
 |cons e es ih=>
  by_cases q:e.1=k
  ·rw[List.filter_cons_of_neg (by simpa using q),ih]
   by_cases q2:z=k
   ·rw[if_pos q2,if_pos q2]
   ·rw[if_neg q2,if_neg q2,List.find?_cons,decide_eq_false (show ¬e.1=z from λh=>q2 (h▸q))]
  ·rw[List.filter_cons_of_pos (by simpa using q),List.find?_cons,List.find?_cons]
   by_cases q2:e.1=z
   ·have:¬z=k:=λh=>q (q2.trans h)
    rw[decide_eq_true q2,if_neg this]
   ·rw[decide_eq_false q2];exact ih
structure SE where
 cs:Addr
 it:Addr
 v:Int
 i:Nat
noncomputable def rem(T:TD)(e:SE):Nat:=(T.sc e.v).length-e.i
noncomputable def ry(T:TD)(es:List SE)(S:Int→Bool):Nat:=sm (λv=>if S v=true then 0 else 1+(T.sc v).length) T.ns+sm (rem T) es
theorem Aa{g:Int→Nat}{S:Int→Bool}{v:Int}(hS:S v=false):∀{ns:List Int},ns.Nodup→v∈ns→sm (λu=>if (S u||decide (u=v))=true then 0 else g u) ns+g v=sm (λu=>if S u=true then 0 else g u) ns
 |[],aj,h=>by cases h
 |u::ns,hn,h=>by
  rw[List.nodup_cons]at hn;simp only[lg,lq]
  by_cases q:u=v
  ·subst q
   have e:sm (λw=>if (S w||decide (w=u))=true then 0 else g w) ns=sm (λw=>if S w=true then 0 else g w) ns:=f7 λw hw=>by
    have:w≠u:=λq=>hn.1 (q▸hw)
    rw[decide_eq_false this,Bool.or_false]
   rw[e,decide_eq_true rfl,Bool.or_true,if_pos rfl,hS,if_neg (by simp)];exact UY
  ·have ih:=Aa (g:=g) hS hn.2 (by rcases List.mem_cons.mp h with h|h;exact absurd h.symm q;exact h)
   rw[decide_eq_false q,Bool.or_false];exact UZ ih
structure CY(fC:aa)(T:TD)(rk:Int→Nat)(ps pi jH pd:Addr)(es:List SE)(S:Int→Bool)(n:Nat)(st:St):Prop where
 n2i:st.m .n2i=some (.ref T.pn)
 stack:st.m .stack=some (.ref ps)
 itstack:st.m .itstack=some (.ref pi)
 seen:st.m .seen=some (.ref jH)
 G8:st.m .node2stacki=some (.ref pd)
 ext:Ext fC st.Ω
 hs:st.Ω ps=some (.list (av (es.map SE.v)))
 hi:st.Ω pi=some (.list (es.map λe:SE=>af.ref e.cs))
 hse:st.Ω jH=some (.set n S)
 hd:∃ep ds,st.Ω pd=some (.dict ep ds)∧ds.length≤n∧∀k,(aO ds k).isSome=true↔k∈es.map SE.v
 he:∀e∈es,st.Ω e.cs=some (.bound .dN e.it)∧st.Ω e.it=some (.d9 (T.sp e.v) e.i)∧e.v∈T.ns∧fC e.it=none
 nd:(es.map SE.it).Nodup
 asc:(es.map SE.v).Pairwise (λx y=>rk x<rk y)
 bd:n+ry T es S≤500
 le:es.length≤n
section
variable{prog:Program}{w:World}{B:Addr→Option Obj}{Ω:aa}{l:Nat}{Q:af→aa→Prop}
theorem BO{T:TD}(H:bq Ω T){rk:Int→Nat}(hrk:∀u∈T.ns,∀v∈T.sc u,v∈T.ns∧rk u<rk v){ps pi jH pd:Addr}(n1:Ω ps=none)(n2:Ω pi=none)(n4:Ω pd=none)(G9:pi≠ps)
  {es:List SE} {S:Int→Bool} {n:Nat} {st:St} (C:CY Ω T rk ps pi jH pd es S n st) {M:Nat} (hM:ry T es S≤M) {QQ:bl→St→Prop}
  (hnext:∀es' st' x,CY Ω T rk ps pi jH pd es' S n st'→st'.m .node=some (.int x)→x∈T.ns→(∀y∈es'.map SE.v,rk y<rk x)→ry T es' S<M→QQ .next st')
  (hend:∀st',CY Ω T rk ps pi jH pd [] S n st'→QQ .brk st'):
  ∃f,fT (uJ prog w B l (.var .stack)) (exs prog w B l (.er .node .itstack .node2stacki .stack .nil)) (exs prog w B l .brk) QQ f st:=by
 refine f9 (I:=λn' st=>∃es,n'=es.length∧CY Ω T rk ps pi jH pd es S n st∧ry T es S≤M) ?_ (n:=es.length) ⟨es,rfl,C,hM⟩;intro n' aH K bB hK;obtain⟨m,bA⟩:=aH;obtain⟨es,hn',C,hM⟩:=bB;have hbd:=C.bd;have hle:=C.le;have hlim:(av (es.map SE.v)).length<lim:=by rw[aq,List.length_map];unfold lim;exact J9 hbd hle
 refine⟨.ref ps,C.stack,jD C.hs hlim ?_⟩
 rcases List.eq_nil_or_concat es with q|⟨qg,e,q⟩
 ·subst q
  exact aM rfl (hend _ C)
 ·rw[List.concat_eq_append]at q
  subst q;refine bN (by simp[av]) ?_;have hlen:(qg++[e]).length=qg.length+1:=by simp
  have hs:=C.hs;have hi:=C.hi;rw[List.map_append]at hs hi;obtain⟨e1,e2,e3,e4⟩:=C.he e (by simp);have hnl:=C.ext _ _ (H.nl e.v e3);have nd:=C.nd;rw[List.map_append,List.nodup_append]at nd;have hit:∀f∈qg,f.it≠e.it:=λf hf=>nd.2.2 f.it (List.mem_map_of_mem hf) e.it (by simp)
  have asc:=C.asc;rw[List.map_append,List.pairwise_append]at asc;have hlt:∀f∈qg,rk f.v<rk e.v:=λf hf=>asc.2.2 f.v (List.mem_map_of_mem hf) e.v (by simp)
  have hl1:(qg.map λe:SE=>af.ref e.cs).length+1<lim:=by rw[List.length_map];unfold lim;exact KW hlen hbd hle
  have Eb:ry T (qg++[e]) S=ry T qg S+rem T e:=by unfold ry;rw[cT];simp[lg,lq];exact QE
  cases hx:(T.sc e.v)[e.i]? with
  |some x=>
   have zk:e.i<(T.sc e.v).length:=by
    cases Nat.lt_or_ge e.i (T.sc e.v).length with
    |inl h=>exact h
    |inr h=>rw[List.getElem?_eq_none h]at hx;cases hx
   have X3:(av (T.sc e.v))[e.i]?=some (.int x):=by unfold av;rw[List.getElem?_map,hx];rfl
   refine Ct.item C.itstack hi hl1 e1 e2 hnl X3 ?_;have hxm:x∈T.sc e.v:=List.mem_of_getElem? hx;obtain⟨hx2,Ju⟩:=hrk e.v e3 x hxm;have hm':ry T (qg++[{e with i:=e.i+1}]) S=ry T qg S+rem T {e with i:=e.i+1}:=by unfold ry;rw[cT];simp[lg,lq];exact QE
   have hr':rem T {e with i:=e.i+1}+1=rem T e:=by unfold rem;simp only;exact U0 zk
   have ev:(qg++[{e with i:=e.i+1}]).map SE.v=(qg++[e]).map SE.v:=by simp
   have ecs:((qg++[{e with i:=e.i+1}]).map λe:SE=>af.ref e.cs)=(qg++[e]).map λe:SE=>af.ref e.cs:=by simp
   have eit:(qg++[{e with i:=e.i+1}]).map SE.it=(qg++[e]).map SE.it:=by simp
   have ne:∀{a o},bA a=some o→(∀p i,o≠ .d9 p i)→(bA.set e.it (.d9 (T.sp e.v) (e.i+1))) a=some o:=λ{a o} ha ho=>by
    rw[aa.ai (ao ha e2 (ho _ _))];exact ha
   refine hnext (qg++[{e with i:=e.i+1}]) _ x ⟨C.n2i,C.stack,C.itstack,C.seen,C.G8,C.ext.upd e4,?_,?_,ne C.hse (by simp),?_,?_,?_,?_,?_,?_⟩ rfl hx2 ?_ ?_
   ·rw[ev];exact ne C.hs (by simp)
   ·rw[ecs];exact ne C.hi (by simp)
   ·rw[ev]
    obtain⟨ep,ds,d1,d2,d3⟩:=C.hd;exact⟨ep,ds,ne d1 (by simp),d2,d3⟩
   ·intro f hf
    rcases List.mem_append.mp hf with hf|hf
    ·obtain⟨f1,f2,f3,f4⟩:=C.he f (List.mem_append_left _ hf)
     exact⟨ne f1 (by simp),(aa.ai (hit f hf)).trans f2,f3,f4⟩
    ·rw[List.mem_singleton]at hf;subst hf
     exact⟨ne e1 (by simp),aa.set_same,e3,e4⟩
   ·rw[eit];exact C.nd
   ·rw[ev];exact C.asc
   ·exact U1 hr' hm' Eb hbd
   ·simp only[List.length_append,List.length_singleton]at hle ⊢;exact hle
   ·rw[ev]
    intro y hy;rw[List.map_append]at hy
    rcases List.mem_append.mp hy with hy|hy
    ·obtain⟨f,hf,rfl⟩:=List.mem_map.mp hy
     have:=hlt f hf;exact Nat.lt_trans this Ju
    ·simp at hy;subst hy;exact Ju
   ·exact U3 hr' hm' Eb hM
  |none=>
   have X3:(av (T.sc e.v))[e.i]?=none:=by unfold av;rw[List.getElem?_map,hx];rfl
   obtain⟨ep,ds,d1,d2,d3⟩:=C.hd;have hsx:bA ps=some (.list (av (qg.map SE.v)++[.int e.v])):=hs.trans (by rw[List.map_cons,List.map_nil,←dH];rfl);refine Ct.done C.itstack hi hl1 e1 e2 hnl X3 C.G8 C.stack d1 (by unfold lim;exact J9 hbd d2) hsx (by rw[aq,List.length_map];unfold lim;exact KW hlen hbd hle) ((d3 e.v).mpr (by simp)) G9 λcK=>?_
   have hrem:ry T qg S≤ry T (qg++[e]) S:=U4 Eb;have nd1:pd≠pi:=ao d1 hi (by simp);have nd2:pd≠ps:=ao d1 hs (by simp);have ne:∀{a o},bA a=some o→a≠e.it→(∀xs,o≠ .list xs)→(∀ep ds,o≠ .dict ep ds)→((((bA.set e.it .junk).set ps (.list (av (qg.map SE.v)))).set pd (.dict cK (qq ds e.v))).set pi (.list (qg.map λe:SE=>af.ref e.cs))) a=some o:=λ{a o} ha h0 h1 h2=>by
    rw[aa.ai (ao ha hi (h1 _)),aa.ai (ao ha d1 (h2 _ _)),aa.ai (ao ha hs (h1 _)),aa.ai h0];exact ha
   refine hK qg.length (U5 hn' hlen) _ ⟨qg,rfl,⟨C.n2i,C.stack,C.itstack,C.seen,C.G8,(((C.ext.upd e4).upd n1).upd n4).upd n2,?_,aa.set_same,?_,⟨cK,qq ds e.v,?_,?_,?_⟩,?_,nd.1,asc.1,U6 Eb hbd,U7 hlen hle⟩,U8 Eb hM⟩
   ·show (aa.set _ _ _) ps=_
    refine(aa.ai (Ne.symm G9)).trans ((aa.ai (Ne.symm nd2)).trans aa.set_same)
   ·exact ne C.hse (ao C.hse e2 (by simp)) (by simp) (by simp)
   ·exact(aa.ai nd1).trans aa.set_same
   ·have:=List.length_filter_le (λe':Int×af=>decide (e'.1≠e.v)) ds
    unfold qq;exact JH this d2
   ·intro k
    rw[BN]
    by_cases q:k=e.v
    ·rw[if_pos q]
     simp only[Option.isSome_none,Bool.false_eq_true,false_iff];intro h;obtain⟨f,hf,hfe⟩:=List.mem_map.mp h;have:=hlt f hf;rw[hfe,q]at this;exact Jf this
    ·rw[if_neg q,d3 k,List.map_append,List.mem_append]
     simp only[List.map_cons,List.map_nil,List.mem_singleton];exact⟨λh=>h.elim id λh=>absurd h q, .inl⟩
   ·intro f hf
    obtain⟨f1,f2,f3,f4⟩:=C.he f (List.mem_append_left _ hf);exact⟨ne f1 (ao f1 e2 (by simp)) (by simp) (by simp),ne f2 (hit f hf) (by simp) (by simp),f3,f4⟩
theorem qh{p:Addr}{n:Nat}{S:Int→Bool}{k:Int}{R:Bool→Prop}(hp:Ω p=some (.set n S))(h:R (S k)):gm .In (.int k) (.ref p) R Ω:= .YG hp h
theorem wG{p:Addr}{ep:Nat}{es:List (Int×af)}{k:Int}{R:Bool→Prop}(hp:Ω p=some (.dict ep es))(h:R (aO es k).isSome):gm .In (.int k) (.ref p) R Ω:= .inD hp h
theorem Ec{p:Addr}{n:Nat}{S:Int→Bool}(hp:Ω p=some (.set n S)):fG Ω .add (.ref p) (.builtin .uF):= .set hp rfl
theorem Ed{p:Addr}{n:Nat}{S:Int→Bool}{k:Int}(hp:Ω p=some (.set n S))(hn:n<4000)(hS:S k=false)(h:Q .none (Ω.set p (.set (n+1) λj=>S j||decide (j=k)))):aZ prog w B l (.builtin .uF) [.ref p, .int k] Q Ω:=by
 exact .bi (.uF hp hn (by rw[hS];exact h))
theorem BP{p:Addr}{ys:List af}(hp:Ω p=some (.list ys))(h:∀r,Ω r=none→Q (.ref r) (Ω.set r (.d9 p 0))):aZ prog w B l (.builtin .iter) [.ref p] Q Ω:=by
 exact .bi (.iter hp h)
noncomputable def FH:MS:=
  .ifs (.cmp .In (.var .node) (.var .seen))
   (.ifs (.cmp .In (.var .node) (.var .node2stacki)) .dead .nil .nil)
   (.exp (.fH (.var .seen) .add (.var .node))<|
    app (.var .itstack) (.iu (.bH (.glob .iter) (.attr (.idx (.var .n2i) (.var .node)) .successors)) .dN)<|
    .asg [.idx (.var .node2stacki) (.var .node)] (len (.var .stack))<|
    app (.var .stack) (.var .node) .nil)<|
   .oh (.var .stack) (.er .node .itstack .node2stacki .stack .nil) .brk .nil
inductive Nl(Ω:aa)(T:TD)(rk:Int→Nat)(ps pi jH pd:Addr)(n':Nat)(st:St):Prop
 |mk (es:List SE) (S:Int→Bool) (n:Nat) (v:Int) (q1:n'=ry T es S) (q2:CY Ω T rk ps pi jH pd es S n st) (q3:st.m .node=some (.int v)) (q4:v∈T.ns) (q5:∀y∈es.map SE.v,rk y<rk v):Nl Ω T rk ps pi jH pd n' st
theorem BQ{T:TD}(H:bq Ω T){rk:Int→Nat}(hrk:∀u∈T.ns,∀v∈T.sc u,v∈T.ns∧rk u<rk v){ps pi jH pd:Addr}(n1:Ω ps=none)(n2:Ω pi=none)(n3:Ω jH=none)(n4:Ω pd=none)(G9:pi≠ps)
  {es:List SE} {S:Int→Bool} {n:Nat} {st:St} {v:Int} (C:CY Ω T rk ps pi jH pd es S n st) (hv:st.m .node=some (.int v)) (hvn:v∈T.ns) (hlt:∀y∈es.map SE.v,rk y<rk v) {QQ:bl→St→Prop}
  (hend:∀S' n' st',CY Ω T rk ps pi jH pd [] S' n' st'→QQ .next st'):
  ∃f,fT (uJ prog w B l (.bool true)) (exs prog w B l FH) (exs prog w B l .nil) QQ f st:=by
 refine f9 (I:=Nl Ω T rk ps pi jH pd) ?_ (n:=ry T es S) ⟨es,S,n,v,rfl,C,hv,hvn,hlt⟩;clear C hv hvn hlt;clear es S n st v;intro n' aH K bB hK;obtain⟨m,bA⟩:=aH;obtain⟨es,S,n,v,hn',C,hv,hvn,hlt⟩:=bB;dsimp only at hv;have hbd:=C.bd;have hle:=C.le;refine zP (bu (bN rfl ?_));have inner:∀es' S' nn st',CY Ω T rk ps pi jH pd es' S' nn st'→ry T es' S'≤ry T es S→exs prog w B l (.oh (.var .stack) (.er .node .itstack .node2stacki .stack .nil) .brk .nil) (cC K QQ) st':=by
  intro es' S' nn st' C' hm;refine BO H hrk n1 n2 n4 G9 C' hm (λZk st2 x c1 c2 c3 c4 c5=>?_) λst2 c1=>hend S' nn st2 c1
  exact hK (ry T Zk S') (O9 hn' c5) st2 ⟨Zk,S',nn,x,rfl,c1,c2,c3,c4⟩
 refine⟨.int v,hv, .ref jH,C.seen,qh C.hse ?_⟩;have hvs:v∉es.map SE.v:=λh=>by have:=hlt v h;exact Jf this
 cases hS:S v with
 |true=>
  refine bN rfl ?_;obtain⟨ep,ds,d1,d2,d3⟩:=C.hd;refine⟨.int v,hv, .ref pd,C.G8,wG d1 (aM ?_ ?_)⟩
  ·cases q:(aO ds v).isSome with
   |false=>rfl
   |true=>exact absurd ((d3 v).mp q) hvs
  ·exact inner es S n _ C (Nat.le_refl _)
 |false=>
  refine aM rfl ?_;obtain⟨ep,ds,d1,d2,d3⟩:=C.hd;refine⟨.ref jH,C.seen,_,Ec C.hse, .int v,hv,Ed C.hse (Tn hbd) hS ?_⟩;have hse:=C.hse;have hs:=C.hs;have hi:=C.hi;have qZ:=C.ext;dsimp only at hse hs hi d1 qZ;have k1:∀{a o},bA a=some o→(∀n S,o≠ .set n S)→(bA.set jH (.set (n+1) λj=>S j||decide (j=v))) a=some o:=λ{a o} ha ho=>by
   rw[aa.ai (ao ha hse (ho _ _))];exact ha
  have x1:Ext Ω (bA.set jH (.set (n+1) λj=>S j||decide (j=v))):=qZ.upd n3;have s1:(bA.set jH (.set (n+1) λj=>S j||decide (j=v))) jH=some (.set (n+1) λj=>S j||decide (j=v)):=aa.set_same;have k0:∀{a},bA a≠none→(bA.set jH (.set (n+1) λj=>S j||decide (j=v))) a≠none:=λ{a} ha=>by
   by_cases q:a=jH
   ·rw[q,s1];simp
   ·rw[aa.ai q];exact ha
  have hnl:=x1 _ _ (H.nl v hvn);obtain⟨mv,b1,b2,b3,b4⟩:=H.ni v hvn;obtain⟨kv,mv',b5⟩:=H.nn v hvn;have hs1:=k1 hs (by simp);have hi1:=k1 hi (by simp);have Zl:=k1 d1 (by simp);generalize hΩ2:(bA.set jH (.set (n+1) λj=>S j||decide (j=v)))=dB at k1 x1 s1 k0 hnl hs1 hi1 Zl;refine⟨.ref pi,C.itstack,_,aU hi1 rfl,⟨.ref T.pn,C.n2i, .int v,hv,di (x1 _ _ H.hn) (by rw[eN,if_pos hvn]) (eZ (x1 _ _ b1) (x1 _ _ b5) (by decide) b4 (BP hnl λit hit=>?_))⟩⟩;have hit:dB it=none:=hit;refine .next aa.set_same λcs hcs=>?_
  have x2:=x1.then hit (x:= .d9 (T.sp v) 0);have x3:=x2.then hcs (x:= .bound .dN it);have it0:Ω it=none:=x1.none hit;have g1:∀{a o},dB a=some o→((dB.set it (.d9 (T.sp v) 0)).set cs (.bound .dN it)) a=some o:=λh=>au (au h hit) hcs
  have gi:((dB.set it (.d9 (T.sp v) 0)).set cs (.bound .dN it)) it=some (.d9 (T.sp v) 0):=au aa.set_same hcs;have gc:((dB.set it (.d9 (T.sp v) 0)).set cs (.bound .dN it)) cs=some (.bound .dN it):=aa.set_same;generalize ((dB.set it (.d9 (T.sp v) 0)).set cs (.bound .dN it))=cV at x3 g1 gi gc;refine aY (g1 hi1) (by rw[List.length_map];unfold lim;exact J9 hbd hle) ?_;have N9:=g1 hi1;have X4:=g1 hs1;have OC:=g1 Zl;have hps:ps≠pi:=Ne.symm G9;have hdi:pd≠pi:=ao OC N9 (by simp);have hds:pd≠ps:=ao OC X4 (by simp);have OB:(av (es.map SE.v)).length<lim:=by rw[aq,List.length_map];unfold lim;exact J9 hbd hle
  have X5:(cV.set pi (.list ((es.map λe:SE=>af.ref e.cs)++[.ref cs]))) ps=some (.list (av (es.map SE.v))):=(aa.ai hps).trans X4;have d14:(cV.set pi (.list ((es.map λe:SE=>af.ref e.cs)++[.ref cs]))) pd=some (.dict ep ds):=(aa.ai hdi).trans OC;refine⟨.ref ps,C.stack,len_list X5 OB ⟨.ref pd,C.G8, .int v,hv,cO d14 (by unfold lim;exact J9 hbd d2) λcK=>?_⟩⟩;refine⟨.ref ps,C.stack,_,aU ((aa.ai (Ne.symm hds)).trans X5) rfl, .int v,hv,aY ((aa.ai (Ne.symm hds)).trans X5) OB ?_⟩;rw[cF];have hm1:ry T (es++[⟨cs,it,v,0⟩]) (λj=>S j||decide (j=v))+1=ry T es S:=by
   have:=Aa (g:=λv=>1+(T.sc v).length) hS H.nd hvn;unfold ry;rw[cT];simp only[lg,lq,rem];exact To this
  have ne:∀{a o},cV a=some o→(∀xs,o≠ .list xs)→(∀ep ds,o≠ .dict ep ds)→(((cV.set pi (.list ((es.map λe:SE=>af.ref e.cs)++[.ref cs]))).set pd (.dict cK (dput ds v (.int (av (es.map SE.v)).length)))).set ps (.list (av (es.map SE.v++[v])))) a=some o:=λ{a o} ha h1 h2=>by
   rw[aa.ai (ao ha X4 (h1 _)),aa.ai (ao ha OC (h2 _ _)),aa.ai (ao ha N9 (h1 _))];exact ha
  refine inner (es++[⟨cs,it,v,0⟩]) (λj=>S j||decide (j=v)) (n+1) _ ⟨C.n2i,C.stack,C.itstack,C.seen,C.G8,((x3.upd n2).upd n4).upd n1,?_,?_,?_,⟨cK,dput ds v (.int (av (es.map SE.v)).length),?_,?_,?_⟩,?_,?_,?_,?_,?_⟩ (Tp hm1)
  ·rw[List.map_append];exact aa.set_same
  ·refine(aa.ai G9).trans ((aa.ai (Ne.symm hdi)).trans ?_)
   rw[List.map_append];exact aa.set_same
  ·exact ne (g1 s1) (by simp) (by simp)
  ·exact(aa.ai hds).trans aa.set_same
  ·have:=fz ds v (.int (av (es.map SE.v)).length);exact QB this d2
  ·intro k
   rw[fc,List.map_append,List.mem_append]
   by_cases q:k=v
   ·rw[if_pos q];simp[q]
   ·rw[if_neg q,d3 k]
    simp[q]
  ·intro f hf
   rcases List.mem_append.mp hf with hf|hf
   ·obtain⟨f1,f2,f3,f4⟩:=C.he f hf
    exact⟨ne (g1 (k1 f1 (by simp))) (by simp) (by simp),ne (g1 (k1 f2 (by simp))) (by simp) (by simp),f3,f4⟩
   ·rw[List.mem_singleton]at hf;subst hf
    exact⟨ne gc (by simp) (by simp),ne gi (by simp) (by simp),hvn,it0⟩
  ·rw[List.map_append,List.nodup_append]
   refine⟨C.nd,by simp,λa ha b hb=>?_⟩;simp at hb;subst hb;obtain⟨f,hf,rfl⟩:=List.mem_map.mp ha;intro q;have:=(C.he f hf).2.1;dsimp only at this;rw[q]at this;exact k0 (by rw[this];simp) hit
  ·rw[List.map_append,List.pairwise_append]
   exact⟨C.asc,by simp,λa ha b hb=>by simp at hb;subst hb;exact hlt a ha⟩
  ·exact Tq hm1 hbd
  ·rw[List.length_append,List.length_singleton];exact OI hle
theorem zm(bf:BF prog w B){T:TD}(H:bq Ω T){rk:Int→Nat}(hrk:∀u∈T.ns,∀v∈T.sc u,v∈T.ns∧rk u<rk v)(hn:T.ns.length≤20)(hsl:∀v,(T.sc v).length≤20)(hq:∀az,Ext Ω az→Q .none az):aF prog w B l (.ref 352) [.ref T.s] Q Ω:=by
 refine yK bf ?_;refine⟨.ref T.s,rfl,bO H.hs H.hd H.mn ?_⟩;intro ps h1 pi h2;refine qd λjH h3=>?_
 intro pd h4;have h1:Ω ps=none:=h1;dsimp only at h2 h3 h4;have x1:Ext Ω (Ω.set ps (.list [])):= .fresh h1;have n2:Ω pi=none:=x1.none h2;have x2:=x1.then h2 (x:= .list []);have n3:Ω jH=none:=x2.none h3;have x3:=x2.then h3 (x:= .set 0 λaj=>false);have n4:Ω pd=none:=x3.none h4;have x4:=x3.then h4 (x:= .dict 0 []);have G9:pi≠ps:=Ne.symm (aE aa.set_same h2);have g1:=au (au (au (aa.set_same (Ω:=Ω) (a:=ps) (o:= .list [])) h2 (x:= .list [])) h3 (x:= .set 0 λaj=>false)) h4 (x:= .dict 0 []);have g2:=au (au (aa.set_same (Ω:=(Ω.set ps (.list []))) (a:=pi) (o:= .list [])) h3 (x:= .set 0 λaj=>false)) h4 (x:= .dict 0 []);have g3:=au (aa.set_same (Ω:=((Ω.set ps (.list [])).set pi (.list []))) (a:=jH) (o:= .set 0 λaj=>false)) h4 (x:= .dict 0 []);refine⟨.ref T.pn,rfl,?_⟩;have hn4:=x4 _ _ H.hn;refine rH.dict hn4 ?_;refine DN (T.ns.map λv=>(v,af.ref (T.inf v))) (I:=λk st=>∃S n,CY Ω T rk ps pi jH pd [] S n st) ?_ ?_ ?_ ?_
 ·intro k st aH;obtain⟨S,n,C⟩:=aH;exact C.ext _ _ H.hn
 ·intro k aH bB K hx XA hK;obtain⟨v,y⟩:=aH;obtain⟨m,bA⟩:=bB;obtain⟨S,n,C⟩:=XA
  have hvn:v∈T.ns:=by
   have:=List.mem_of_getElem? hx;obtain⟨u,hu,e⟩:=List.mem_map.mp this;cases e;exact hu
  refine⟨.int v,rfl, .ref jH,C.seen,qh C.hse ?_⟩;cases hS:S v with
  |true=>exact bN rfl (hK _ ⟨S,n,C.n2i,C.stack,C.itstack,C.seen,C.G8,C.ext,C.hs,C.hi,C.hse,C.hd,C.he,C.nd,C.asc,C.bd,C.le⟩)
  |false=>
   refine aM rfl ?_;refine BQ H hrk h1 n2 n3 n4 G9 (es:=[]) (S:=S) (n:=n) (v:=v) (st:=⟨m.set .node (.int v),bA⟩) ⟨C.n2i,C.stack,C.itstack,C.seen,C.G8,C.ext,C.hs,C.hi,C.hse,C.hd,C.he,C.nd,C.asc,C.bd,C.le⟩ rfl hvn (by simp) λS' n' st' C'=>?_
   exact hK st' ⟨S',n',C'⟩
 ·intro aH bB;obtain⟨m,bA⟩:=aH;obtain⟨S,n,C⟩:=bB
  exact hq bA C.ext
 ·refine⟨λaj=>false,0,rfl,rfl,rfl,rfl,rfl,x4,g1,g2,g3,⟨0,[],aa.set_same,Nat.le_refl _,λk=>by simp[aO]⟩,(λe he=>nomatch he),List.nodup_nil,List.Pairwise.nil,?_,Nat.le_refl _⟩
  have:∀ns:List Int,sm (λv=>if false=true then 0 else 1+(T.sc v).length) ns≤ns.length*21:=λns=>by
   induction ns with
   |nil=>exact Nat.le_refl _
   |cons v ns ih=>
    have:=hsl v;simp only[lg,lq,List.length_cons]at ih ⊢;simp at ih ⊢;exact Tr this ih
  have:=this T.ns;unfold ry;simp only[lg,lq];exact Tt this hn
theorem ur(bf:BF prog w B)(bT:l<55){T:TD}(H:bq Ω T){rk:Int→Nat}(hrk:∀u∈T.ns,∀v∈T.sc u,v∈T.ns∧rk u<rk v)(hn:T.ns.length≤20)(hsl:∀v,(T.sc v).length≤20)(mr:T.m .aG=some .none)(hk:T.k<800)
  {po fi:Int} (mp:T.m .cA=some (.int po)) (mf:T.m .cD=some (.int fi))
  (hq:∀pr az W' m',Ω pr=none→bq az {T with W:=W',k:=T.k+1,m:=m'}→kC az {T with W:=W',k:=T.k+1,m:=m'} pr (T.ns.filter λv=>decide (T.np v=0)) po fi→fh T.W Ω W' az→Q .none az):aF prog w B l (.ref 317) [.ref T.s] Q Ω:=by
 refine t7 bf ?_;refine⟨.ref T.s,rfl,bO H.hs H.hd mr (dj (dZ (aM rfl ?_)))⟩;refine⟨.ref T.s,rfl,bO H.hs H.hd H.mn ?_⟩;have hn0:=H.hn;refine Co.mk hn0 ?_;refine Bo (T.ns.map λv=>(v,af.ref (T.inf v))) (I:=λk ys st=>st.Ω=Ω∧ys=av ((T.ns.take k).filter λv=>decide (T.np v=0))) ?_ ?_ ?_ ?_
 ·intro k ys aH bB;obtain⟨m,bA⟩:=aH;obtain⟨rfl,_⟩:=bB;exact H.hn
 ·intro k x ys aH K hx bB hK;obtain⟨m,bA⟩:=aH;obtain⟨h1,h2⟩:=bB
  dsimp only at h1;subst h1;obtain⟨v,hv,e⟩:∃v,T.ns[k]?=some v∧x=(v,af.ref (T.inf v)):=by
   rw[List.getElem?_map]at hx;cases q:T.ns[k]? with
   |none=>rw[q]at hx;cases hx
   |some v=>rw[q]at hx;cases hx;exact⟨v,rfl,rfl⟩
  subst e;have htk:=take_snoc hv;have hvn:=List.mem_of_getElem? hv;obtain⟨mv,b1,b2,b3,b4⟩:=H.ni v hvn;obtain⟨kv,mv',b5⟩:=H.nn v hvn;refine⟨.ref (T.inf v),rfl,eZ b1 b5 (by decide) b3 (aX (dY ?_))⟩
  by_cases q:T.np v=0
  ·refine bu (bN (by simpa using q) ⟨.ref (T.inf v),rfl,eZ b1 b5 (by decide) b2 ⟨?_,?_⟩⟩)
   ·rw[h2,aq]
    have:=List.length_filter_le (λv=>decide (T.np v=0)) (T.ns.take k);have:(T.ns.take k).length≤T.ns.length:=List.length_take_le' ..;unfold lim;exact Tu (by assumption) this hn
   ·refine hK _ _ ⟨rfl,?_⟩
    rw[h2,htk,List.filter_append,List.filter_cons_of_pos (by simpa using q),List.filter_nil,←dH];rfl
  ·refine bu (aM (by simpa using q) (hK _ _ ⟨rfl,?_⟩))
   rw[h2,htk,List.filter_append,List.filter_cons_of_neg (by simpa using q),List.filter_nil,List.append_nil]
 ·intro ys aH bB pr uA;obtain⟨m,bA⟩:=aH;obtain⟨h1,h2⟩:=bB
  dsimp only at h1 uA;subst h1;rw[List.length_map,List.take_length]at h2;subst h2;have H1:bq (bA.set pr (.list (av (T.ns.filter λv=>decide (T.np v=0))))) {T with W:=λa=>T.W a∨a=pr}:=by
   have h:=H.ext (.fresh uA (x:= .list (av (T.ns.filter λv=>decide (T.np v=0)))));exact⟨λa ha=>by rcases ha with ha|rfl;exact h.own a ha;rw[aa.set_same];simp,h.hs, .inl h.ws,h.hd, .inl h.wd,h.mn,h.hn, .inl h.wn,h.nd,h.ni,h.nn,h.nl,λv hv=>⟨.inl (h.wi v hv).1, .inl (h.wi v hv).2.1, .inl (h.wi v hv).2.2⟩,h.sj,h.z⟩
  refine⟨.ref T.s,rfl,dF H1.hs H1.hd (by decide) (by dsimp only;exact NK hk) ?_⟩;have H2:=H1.I4 (k':=T.k+1) (m':=ef.set T.m .aG (.ref pr)) rfl;have qY:pr≠T.d:=Ne.symm (aE H.hd uA);have R2:=(aa.ai (o:= .ns (T.k+1) (ef.set T.m .aG (.ref pr))) qY).trans (aa.set_same (Ω:=bA) (a:=pr) (o:= .list (av (T.ns.filter λv=>decide (T.np v=0)))));have x2:fh T.W bA (λa=>T.W a∨a=pr) _:=(fh.grow (W':=λa=>T.W a∨a=pr) (.fresh uA (x:= .list (av (T.ns.filter λv=>decide (T.np v=0))))) (λa ha=>ha.elim .inl λe=> .inr (by rw[e];exact uA))).trans (fh.upd (a:=T.d) (o:= .ns (T.k+1) (ef.set T.m .aG (.ref pr))) (.inl H.wd));refine⟨.ref T.s,rfl, .ref 352,fN H2.hs H2.hd rfl,aR (by decide) (OP bT) (zm (T:={T with W:=λa=>T.W a∨a=pr,k:=T.k+1,m:=ef.set T.m .aG (.ref pr)}) bf H2 hrk hn hsl λaz x=>?_)⟩;refine⟨.none,rfl,qe (aM rfl ?_)⟩;refine hq pr az _ _ uA (H2.ext x) ⟨rfl,x _ _ R2, .inr rfl,λv hv q=>?_,mp,mf⟩ (x2.trans (fh.ext x));have:=H.nl v hv;have q:T.sp v=pr:=q;rw[q,uA]at this;cases this
 ·exact⟨rfl,by simp[av]⟩
theorem FJ(bf:BF prog w B)(bT:l<55)(hq:∀T az,Ext Ω az→bq az T→(∀a,T.W a→Ω a=none)→T.ns=[]→T.k≤4→T.np=(λaj=>0)→T.sc=(λaj=>[])→T.m .aG=some .none→T.m .cA=some (.int 0)→T.m .cD=some (.int 0)→Q (.ref T.s) az):aF prog w B l (.ref 362) [] Q Ω:=by
 refine Fe bf (OP bT) λs d h1 h2 h3=>?_
 have hs0:((Ω.set d (.ns 0 λaj=>none)).set s (.inst 362 d)) s=some (.inst 362 d):=aa.set_same;have hd0:((Ω.set d (.ns 0 λaj=>none)).set s (.inst 362 d)) d=some (.ns 0 λaj=>none):=by rw[aa.ai (Ne.symm h3),aa.set_same]
 have e0:Ext Ω ((Ω.set d (.ns 0 λaj=>none)).set s (.inst 362 d)):=((Ext.refl Ω).upd h2).upd h1;have hs1:∀{az:aa} {o},az s=some (.inst 362 d)→(az.set d o) s=some (.inst 362 d):=λ{az o} h=>by rw[aa.ai h3];exact h
 intro pn qb;have qb:((Ω.set d (.ns 0 λaj=>none)).set s (.inst 362 d)) pn=none:=qb;have n1:Ω pn=none:=e0.none qb;have Oj:d≠pn:=aE hd0 qb;refine⟨.ref s,rfl,dF (au hs0 qb) (au hd0 qb) rfl (by decide) ?_⟩;refine⟨.ref s,rfl,dF (hs1 (au hs0 qb)) aa.set_same rfl (by decide) ?_⟩;refine⟨.ref s,rfl,dF (hs1 (hs1 (au hs0 qb))) aa.set_same rfl (by decide) ?_⟩;refine⟨.ref s,rfl,dF (hs1 (hs1 (hs1 (au hs0 qb)))) aa.set_same rfl (by decide) ?_⟩;refine⟨.none,rfl,dj (dZ (aM rfl ?_))⟩;refine⟨rfl,?_⟩;dsimp only;rw[aa.set_set,aa.set_set,aa.set_set];refine hq ⟨λa=>a=s∨a=d∨a=pn,s,d,pn,_,_,0,[],λaj=>0,λaj=>[],λaj=>0,λaj=>0,λaj=>0⟩ _ ((e0.then qb).upd h2) ⟨?_,hs1 (au hs0 qb), .inl rfl,aa.set_same, .inr (.inl rfl),rfl,(aa.ai (Ne.symm Oj)).trans aa.set_same, .inr (.inr rfl),List.nodup_nil,(λv hv=>nomatch hv),(λv hv=>nomatch hv),(λv hv=>nomatch hv),(λv hv=>nomatch hv),(λv hv=>nomatch hv),λv aj=>⟨rfl,rfl⟩⟩ ?_ rfl (Nat.le_refl _) rfl rfl rfl rfl rfl
 ·intro a ha
  rcases ha with rfl|rfl|rfl
  ·rw[hs1 (au hs0 qb)];simp
  ·rw[aa.set_same];simp
  ·rw[(aa.ai (Ne.symm Oj)).trans aa.set_same];simp
 ·intro a ha
  rcases ha with rfl|rfl|rfl
  ·exact h1
  ·exact h2
  ·exact n1
end
end
section
open PySem PySem.W PyProof.Rows
structure RK(xs:List Int)(A:Int→Int→Bool)(rk:Int→Nat):Prop where
 pos:∀u∈xs,1≤rk u
 lt:∀t∈xs,∀u∈xs,A t u=true→rk t<rk u
 pred:∀u∈xs,2≤rk u→∃t∈xs,A t u=true∧rk t+1=rk u
noncomputable def cn(xs:List Int)(P:Int→Bool):Nat:=(xs.filter P).length
theorem uu{xs:List Int}{P:Int→Bool}:cn xs P=0↔∀t∈xs,P t=false:=by
 unfold cn;rw[List.length_eq_zero_iff,List.filter_eq_nil_iff]
 constructor
 ·intro h t ht
  have:=h t ht
  simpa using this
 ·intro h t ht
  rw[h t ht];simp
theorem iP{xs:List Int}{P P':Int→Bool}(h:∀t∈xs,P t=P' t):cn xs P=cn xs P':=by
 unfold cn;rw[List.filter_congr h]
theorem Hf{P:Int→Bool}{u:Int}(hu:P u=true):∀{xs:List Int},xs.Nodup→u∈xs→cn xs (λt=>P t&& !decide (t=u))+1=cn xs P
 |[],aj,h=>by cases h
 |x::xs,hn,h=>by
  rw[List.nodup_cons]at hn
  by_cases q:x=u
  ·subst q
   have e:cn xs (λt=>P t&& !decide (t=x))=cn xs P:=iP λt ht=>by
    have:t≠x:=λq=>hn.1 (q▸ht)
    rw[decide_eq_false this];simp
   unfold cn at e ⊢;rw[List.filter_cons_of_neg (by simp),List.filter_cons_of_pos hu,e,List.length_cons]
  ·have ih:=Hf hu hn.2 (by rcases List.mem_cons.mp h with h|h;exact absurd h.symm q;exact h)
   unfold cn at ih ⊢;cases hx:P x with
   |true=>
    rw[List.filter_cons_of_pos (by simp[hx,q]),List.filter_cons_of_pos hx,List.length_cons,List.length_cons,ih]
   |false=>
    rw[List.filter_cons_of_neg (by simp[hx]),List.filter_cons_of_neg (by simp[hx]),ih]
noncomputable def wN(xs:List Int)(A:Int→Int→Bool)(p:Int):List Int:=if p∈xs then xs.filter (A p)else[]
noncomputable def gg(xs:List Int)(A:Int→Int→Bool)(u:Int):List Int:=xs.filter λt=>A t u
structure RS(xs:List Int)(A:Int→Int→Bool)(rk:Int→Nat)(k:Nat)(np:Int→Int)(rd:List Int):Prop where
 nd:rd.Nodup
 mem:∀v,v∈rd↔v∈xs∧rk v=k+1
 np:∀v∈xs,np v=if rk v≤k then -2 else((cn xs λt=>A t v&&decide (k<rk t):Nat):Int)
theorem RS.first{xs:List Int}{A:Int→Int→Bool}{rk:Int→Nat}(R:RK xs A rk){ns:List Int}(hn:ns.Nodup)(hm:∀v,v∈ns↔v∈xs){np:Int→Int}(hnp:∀v∈xs,np v=(gg xs A v).length):
  RS xs A rk 0 np (ns.filter λv=>decide (np v=0)) where
 nd:=hn.filter _
 mem:=λv=>by
  rw[List.mem_filter,decide_eq_true_iff,hm]
  constructor
  ·intro aH;obtain⟨h1,h2⟩:=aH
   refine⟨h1,?_⟩;have hp:=R.pos v h1
   by_cases q:rk v=1
   ·exact q
   ·obtain⟨t,t1,t2,t3⟩:=R.pred v h1 (Ph hp q)
    rw[hnp v h1]at h2;have:t∈gg xs A v:=List.mem_filter.mpr ⟨t1,t2⟩;have:=List.length_pos_of_mem this;exact VF h2 this
  ·intro aH;obtain⟨h1,h2⟩:=aH
   refine⟨h1,?_⟩;rw[hnp v h1];have:gg xs A v=[]:=by
    unfold gg;rw[List.filter_eq_nil_iff];intro t ht ha;have:=R.lt t ht v h1 ha;have:=R.pos t ht;exact RA h2 this (by assumption)
   rw[this];rfl
 np:=λv hv=>by
  rw[hnp v hv,if_neg (by have:=R.pos v hv;exact JQ this)];unfold gg cn
  congr 2
  refine List.filter_congr λt ht=>?_
  have:=R.pos t ht;rw[decide_eq_true (show 0<rk t by exact OS this),Bool.and_true]
structure RL(xs:List Int)(A:Int→Int→Bool)(rk:Int→Nat)(k:Nat)(rd L:List Int)(np:Int→Int)(nx:List Int):Prop where
 sub:∀v∈L,v∈rd
 nd:nx.Nodup
 mem:∀v,v∈nx↔v∈xs∧k+1<rk v∧(cn xs λt=>A t v&&decide (k<rk t)&& !decide (t∈L))=0
 np:∀v∈xs,np v=if v∈L then -2 else if v∈rd then -1 else if rk v≤k then -2 else((cn xs λt=>A t v&&decide (k<rk t)&& !decide (t∈L):Nat):Int)
theorem RL.step{xs:List Int}{A:Int→Int→Bool}{rk:Int→Nat}(R:RK xs A rk)(hx:xs.Nodup){k:Nat}{rd L:List Int}{np:Int→Int}{nx:List Int}(hrd:∀v,v∈rd↔v∈xs∧rk v=k+1)(S:RL xs A rk k rd L np nx){u:Int}(hu:u∈rd)(huL:u∉L):
  RL xs A rk k rd (L++[u]) (lB (wN xs A) (np,nx) u).1 (lB (wN xs A) (np,nx) u).2:=by
 obtain⟨hux,JA⟩:=(hrd u).mp hu;have hf:wN xs A u=xs.filter (A u):=if_pos hux;have hc1:∀v,A u v=true→(cn xs λt=>A t v&&decide (k<rk t)&& !decide (t∈L++[u]))+1=cn xs λt=>A t v&&decide (k<rk t)&& !decide (t∈L):=λv hv=>by
  rw[←Hf (P:=λt=>A t v&&decide (k<rk t)&& !decide (t∈L)) (u:=u) (by simp[hv,huL];exact Pj JA) hx hux]
  congr 1
  refine iP λt ht=>?_
  by_cases q:t=u<;>by_cases q2:t∈L<;>simp[q,q2]
 have hc0:∀v,A u v=false→(cn xs λt=>A t v&&decide (k<rk t)&& !decide (t∈L++[u]))=cn xs λt=>A t v&&decide (k<rk t)&& !decide (t∈L):=λv hv=>by
  refine iP λt ht=>?_
  by_cases q:t=u
  ·subst q;simp[hv]
  ·by_cases q2:t∈L<;>simp[q,q2]
 have FL:∀v∈xs,A u v=true→np v=((cn xs λt=>A t v&&decide (k<rk t)&& !decide (t∈L):Nat):Int)∧v∉rd∧k+1<rk v∧v≠u∧v∉L:=λv hv ha=>by
  have h1:=R.lt u hux v hv ha;have h2:v∉rd:=λh=>by have:=((hrd v).mp h).2;exact Kd JA this h1
  have h3:v≠u:=λh=>by rw[h]at h1;exact Jf h1
  have h4:v∉L:=λh=>h2 (S.sub v h)
  refine⟨?_,h2,Nat.lt_of_le_of_lt (Nat.le_of_eq (Eq.symm JA)) h1,h3,h4⟩;rw[S.np v hv,if_neg h4,if_neg h2,if_neg (RB JA h1)]
 have hfm:∀v,v∈wN xs A u↔v∈xs∧A u v=true:=λv=>by rw[hf,List.mem_filter]
 constructor
 ·intro v hv
  rcases List.mem_append.mp hv with h|h
  ·exact S.sub v h
  ·rw[List.mem_singleton]at h;rw[h];exact hu
 ·show (nx++(wN xs A u).filter λv=>decide (np v=1)).Nodup
  rw[List.nodup_append];refine⟨S.nd,?_,λa ha b hb=>?_⟩
  ·rw[hf];exact(hx.filter _).filter _
  ·rw[List.mem_filter,hfm,decide_eq_true_iff]at hb
   obtain⟨⟨hb1,hb2⟩,XM⟩:=hb;intro q;subst q;have h1:=((S.mem a).mp ha).2.2;have h2:=(FL a hb1 hb2).1;rw[h1]at h2;exact VG h2 XM
 ·intro v
  show v∈nx++(wN xs A u).filter (λv=>decide (np v=1))↔_;rw[List.mem_append,List.mem_filter,hfm,decide_eq_true_iff,S.mem];cases ha:A u v with
  |true=>
   have h1:=hc1 v ha
   constructor
   ·rintro (⟨a1,a2,a3⟩|⟨⟨a1,a2⟩,a3⟩)
    ·exact⟨(RC h1 a3).elim,a2,RD h1 a3⟩
    ·have h2:=FL v a1 ha
     exact⟨a1,h2.2.2.1,VH h2.1 a3 h1⟩
   ·intro aH;obtain⟨a1,a2,a3⟩:=aH
    have h2:=FL v a1 ha;exact .inr ⟨⟨a1,rfl⟩,VI h2.1 h1 a3⟩
  |false=>
   rw[hc0 v ha]
   constructor
   ·rintro (h|⟨⟨a1,a2⟩,a3⟩)
    ·exact h
    ·cases a2
   ·exact .inl
 ·intro v hv
  show (if v=u then -2 else if v∈wN xs A u then np v-1 else np v)=_
  by_cases q:v=u
  ·subst q;rw[if_pos rfl,if_pos (by simp)]
  ·rw[if_neg q]
   have e1:(v∈L++[u])↔v∈L:=by simp[q]
   cases ha:A u v with
   |true=>
    obtain⟨h1,h2,h3,h4,h5⟩:=FL v hv ha;have h6:=hc1 v ha;rw[if_pos ((hfm v).mpr ⟨hv,ha⟩),h1,if_neg (λh=>h5 (e1.mp h)),if_neg h2,if_neg (RE h3)];exact Lh h6
   |false=>
    rw[if_neg (λh=>by have:=((hfm v).mp h).2;rw[ha]at this;cases this),S.np v hv,hc0 v ha]
    by_cases q2:v∈L
    ·rw[if_pos q2,if_pos (e1.mpr q2)]
    ·rw[if_neg q2,if_neg λh=>q2 (e1.mp h)]
theorem RS.round{xs:List Int}{A:Int→Int→Bool}{rk:Int→Nat}(R:RK xs A rk)(hx:xs.Nodup){k:Nat}{np:Int→Int}{rd:List Int}(S:RS xs A rk k np rd):
  RS xs A rk (k+1) (rd.foldl (lB (wN xs A)) (λv=>if v∈rd then -1 else np v,[])).1 (rd.foldl (lB (wN xs A)) (λv=>if v∈rd then -1 else np v,[])).2:=by
 have go:∀(rest L:List Int) (x:(Int→Int)×List Int),L++rest=rd→RL xs A rk k rd L x.1 x.2→RL xs A rk k rd rd (rest.foldl (lB (wN xs A)) x).1 (rest.foldl (lB (wN xs A)) x).2:=by
  intro rest
  induction rest with
  |nil=>intro L x h hl;rw[List.append_nil]at h;subst h;exact hl
  |cons u rest ih=>
   intro L x h hl;rw[List.foldl_cons];refine ih (L++[u]) _ (by rw[List.append_assoc];exact h) (RL.step R hx S.mem hl ?_ ?_)
   ·rw[←h];simp
   ·have:=S.nd
    rw[←h,List.nodup_append]at this;exact λq=>this.2.2 u q u (List.mem_cons_self ..) rfl
 have base:RL xs A rk k rd [] (λv=>if v∈rd then -1 else np v) []:=by
  refine⟨λv h=>(nomatch h),List.nodup_nil,λv=>?_,λv hv=>?_⟩
  ·constructor
   ·intro h;cases h
   ·intro aH;obtain⟨h1,h2,h3⟩:=aH
    exfalso;obtain⟨t,t1,t2,t3⟩:=R.pred v h1 (Nat.le_trans (Nat.le_add_left _ _) h2);have:=uu.mp h3 t t1;simp[t2]at this;exact RG t3 this h2
  ·show (if v∈rd then -1 else np v)=_
   rw[if_neg (show ¬v∈[] by simp)]
   by_cases q:v∈rd
   ·rw[if_pos q,if_pos q]
   ·rw[if_neg q,if_neg q,S.np v hv]
    by_cases q2:rk v≤k
    ·rw[if_pos q2,if_pos q2]
    ·rw[if_neg q2,if_neg q2]
     congr 1
     exact iP λt ht=>by simp
 have E:=go rd [] (λv=>if v∈rd then -1 else np v,[]) rfl base;generalize rd.foldl (lB (wN xs A)) (λv=>if v∈rd then -1 else np v,[])=F at E;have hc:∀v,(cn xs λt=>A t v&&decide (k<rk t)&& !decide (t∈rd))=cn xs λt=>A t v&&decide (k+1<rk t):=λv=>iP λt ht=>by
  have:=S.mem t
  by_cases q:t∈rd
  ·have h:=(this.mp q).2
   rw[decide_eq_true q,decide_eq_false (show ¬k+1<rk t by exact RJ h)];simp
  ·have h:¬rk t=k+1:=λh=>q (this.mpr ⟨ht,h⟩)
   rw[decide_eq_false q,Bool.not_false,Bool.and_true]
   congr 1
   exact decide_eq_decide.mpr (P6 h)
 refine⟨E.nd,λv=>?_,λv hv=>?_⟩
 ·rw[E.mem,hc]
  constructor
  ·intro aH;obtain⟨h1,h2,h3⟩:=aH
   refine⟨h1,?_⟩
   by_cases q:rk v=k+1+1
   ·exact q
   ·exfalso
    obtain⟨t,t1,t2,t3⟩:=R.pred v h1 (Nat.le_trans (Nat.le_add_left _ _) h2);have:=uu.mp h3 t t1;simp[t2]at this;exact RM t3 this h2 q
  ·intro aH;obtain⟨h1,h2⟩:=aH
   refine⟨h1,Pk h2,uu.mpr λt ht=>?_⟩;cases ha:A t v with
   |false=>rfl
   |true=>
    have:=R.lt t ht v h1 ha;rw[decide_eq_false (show ¬k+1<rk t by exact RN h2 this)];rfl
 ·rw[E.np v hv,hc]
  by_cases q:v∈rd
  ·rw[if_pos q,if_pos (by have:=((S.mem v).mp q).2;exact Nat.le_of_eq this)]
  ·rw[if_neg q,if_neg q]
   have h:¬rk v=k+1:=λh=>q ((S.mem v).mpr ⟨hv,h⟩)
   by_cases q2:rk v≤k
   ·rw[if_pos q2,if_pos (HA q2)]
   ·rw[if_neg q2,if_neg (QD h q2)]
theorem RK.over{xs:List Int}{A:Int→Int→Bool}{rk:Int→Nat}(R:RK xs A rk){k:Nat}(h:∀v∈xs,rk v≠k+1):∀n,∀v∈xs,rk v≤n→rk v≤k
 |0,v,hv,hn=>Nat.le_trans hn (Nat.le_add_left _ _)
 |n+1,v,hv,hn=>by
  by_cases q:rk v≤k
  ·exact q
  ·exfalso
   have h1:=h v hv;obtain⟨t,t1,t2,t3⟩:=R.pred v hv (RO h1 q);have:=RK.over R h n t t1 (RP t3 hn);exact RQ t3 this h1 q
theorem I6{xs:List Nat}{k:Nat}(h1:∀x∈xs,x≤k)(h2:k=0∨k∈xs):kE xs=k:=by
 refine(v7 (xs:=xs) (M:=k) ?_ h1).symm
 rcases h2 with h|h
 ·rw[h];exact List.mem_cons_self ..
 ·exact List.mem_cons_of_mem _ h
noncomputable def de(t:Int):Rn:=⟨(nC t).1.toNat,(nC t).2.1.toNat,(nC t).2.2.toNat⟩
theorem fW{r:Rn}(h:mV r):de (enc r)=r:=by
 unfold de;rw[dec_enc h];simp[gS]
noncomputable def rz(rs:List Rn)(t:Int):Nat:=best rs (λaj=>1) (de t)
noncomputable def AI(t u:Int):Bool:=decide (Ah (de t) (de u))
theorem uv{r u:Rn}(h:mV r)(h':mV u):AI (enc r) (enc u)=decide (Ah r u):=by unfold AI;rw[fW h,fW h']
theorem Nm{rs:List Rn}(hs:∀r∈rs,mV r)(h0:∀r∈rs,0<r.s):RK (rs.map enc) AI (rz rs) where
 pos:=λu hu=>by
  unfold rz;rw[gD h0];exact Nat.le_add_right _ _
 lt:=λt ht u hu ha=>by
  obtain⟨r,hr,rfl⟩:=List.mem_map.mp ht;obtain⟨v,hv,rfl⟩:=List.mem_map.mp hu;rw[uv (hs r hr) (hs v hv)]at ha;unfold rz;rw[fW (hs r hr),fW (hs v hv),gD h0 v];have:=pV (List.mem_map_of_mem (f:=best rs λaj=>1) (List.mem_filter (p:=λt=>decide (Ah t v)).mpr ⟨hr,ha⟩));exact RT this
 pred:=λu hu h2=>by
  obtain⟨v,hv,rfl⟩:=List.mem_map.mp hu;unfold rz at h2 ⊢;rw[fW (hs v hv),gD h0 v]at h2 ⊢
  rcases j7 ((rs.filter λt=>decide (Ah t v)).map (best rs λaj=>1))with h|h
  ·exact(RU h h2).elim
  ·obtain⟨t,t1,t2⟩:=List.mem_map.mp h
   obtain⟨t3,t4⟩:=List.mem_filter.mp t1;refine⟨enc t,List.mem_map_of_mem t3,by rw[uv (hs t t3) (hs v hv)];exact t4,?_⟩;rw[fW (hs t t3),t2];exact Nat.add_comm _ _
theorem I8{rs:List Rn}(hs:∀r∈rs,mV r):top rs (λaj=>1)=kE ((rs.map enc).map (rz rs)):=by
 unfold top;rw[List.map_map]
 congr 1
 refine List.map_congr_left λr hr=>?_
 show _=rz rs (enc r);unfold rz;rw[fW (hs r hr)]
theorem FN{rs:List Rn}(hs:∀r∈rs,mV r){u:Rn}(hu:mV u):gg (rs.map enc) AI (enc u)=(rs.filter λt=>decide (Ah t u)).map enc:=by
 unfold gg;rw[List.filter_map]
 congr 1
 refine List.filter_congr λt ht=>?_
 exact uv (hs t ht) hu
end
section
open PySem PySem.W PyProof.Rows PySem.Calls
theorem FO{ns:List Int}{g:Int→af}{v:Int}:aO (ns.map λu=>(u,g u)) v=if v∈ns then some (g v)else none:=by
 unfold aO
 induction ns with
 |nil=>simp
 |cons u ns ih=>
  rw[List.map_cons,List.find?_cons]
  by_cases q:u=v
  ·subst q;simp
  ·rw[decide_eq_false q]
   simp only;rw[ih];have:v≠u:=λe=>q e.symm
   simp[List.mem_cons,this]
theorem map_fst{ns:List Int}{g:Int→af}:(ns.map λu=>(u,g u)).map (·.1)=ns:=by
 rw[List.map_map];exact List.map_id ns
theorem fj:∀{ns xs:List Int},ns.Nodup→(∀v∈ns,v∈xs)→ns.length≤xs.length
 |[],aj,br,dg=>Nat.zero_le _
 |n::ns,xs,h,hm=>by
  rw[List.nodup_cons]at h;have h1:=hm n (List.mem_cons_self ..);have h2:=fj (xs:=xs.erase n) h.2 λv hv=>by
   have:v≠n:=λe=>h.1 (e▸hv)
   exact(List.mem_erase_of_ne this).mpr (hm v (List.mem_cons_of_mem _ hv))
  have h3:=List.length_erase_of_mem h1;have h4:=List.length_pos_of_mem h1;rw[List.length_cons];exact SP h3 h2 h4
theorem fB{v:Int}:∀(ps ns:List Int),v∈ps.foldl eW ns↔v∈ns∨v∈ps
 |[],ns=>by simp
 |p::ps,ns=>by
  rw[List.foldl_cons,fB ps,iM,List.mem_cons,or_assoc]
structure LS(bA:aa)(a b:List Int)(rs:List Rn)(ks kt:List Int)(pa pb pr pw pt:Addr):Prop where
 ha:bA pa=some (.list (av a))
 hb:bA pb=some (.list (av b))
 hr:bA pr=some (.list (av (rs.map enc)))
 hw:∃ep,bA pw=some (.dict ep (wL ks 0))
 ht:∃ep,bA pt=some (.dict ep (wL kt 0))
 la:a.length≤7
 lb:b.length≤7
 run:∀r,r∈rs↔Run a b r
 nd:rs.Nodup
 len:rs.length≤20
 kp:ks.Perm (rs.map enc)
 ka:ks.Pairwise (·<·)
 tp:kt.Perm (rs.map λr=>enc r.sw)
 ta:kt.Pairwise (·<·)
structure LM(m:eS)(pa pb pr pw pt:Addr):Prop where
 one:m .one=some (.ref pa)
 other:m .other=some (.ref pb)
 runs:m .runs=some (.ref pr)
 worths:m .worths=some (.ref pw)
 tw:m .turned_worths=some (.ref pt)
section
variable{bA:aa}{a b:List Int}{rs:List Rn}{ks kt:List Int}{pa pb pr pw pt:Addr}
theorem LS.qU(L:LS bA a b rs ks kt pa pb pr pw pt):∀r∈rs,mV r:=λr hr=>((L.run r).mp hr).qU L.la L.lb
theorem LS.pos(L:LS bA a b rs ks kt pa pb pr pw pt):∀r∈rs,0<r.s:=λr hr=>((L.run r).mp hr).1
theorem LS.nodup(L:LS bA a b rs ks kt pa pb pr pw pt):(rs.map enc).Nodup:=eo (λx hx y hy=>kc (L.qU x hx) (L.qU y hy)) L.nd
theorem LS.rk(L:LS bA a b rs ks kt pa pb pr pw pt):RK (rs.map enc) AI (rz rs):=Nm L.qU L.pos
end
section
variable{prog:Program}{w:World}{B:Addr→Option Obj}{Ω:aa}{l:Nat}{Q:af→aa→Prop}
theorem Ef{ts:List Int}{f:Int→Nat}{M:Int}(h1:M∈(0:Int)::ts.map λt=>(f t:Int))(h2:∀a∈(0:Int)::ts.map (λt=>(f t:Int)),a≤M):M=(kE (ts.map f):Nat):=by
 have h0:=h2 0 (List.mem_cons_self ..);have h3:M.toNat=kE (ts.map f):=by
  refine v7 ?_ λx hx=>?_
  ·rcases List.mem_cons.mp h1 with h|h
   ·rw[h];exact List.mem_cons_self ..
   ·obtain⟨t,ht,e⟩:=List.mem_map.mp h
    rw[←e];exact List.mem_cons_of_mem _ (List.mem_map.mpr ⟨t,ht,by simp⟩)
  ·obtain⟨t,ht,e⟩:=List.mem_map.mp hx
   have:=h2 (f t:Int) (List.mem_cons_of_mem _ (List.mem_map.mpr ⟨t,ht,rfl⟩));exact PX e this
 exact PY h3 h0
theorem uw{vb vx:V}(hne:vb≠vx){e:ME}{pt pl:Addr}{ep:Nat}{ds ts:List Int}{f:Int→Nat}{st:St}{R:af→St→Prop}(hm:st.m vb=some (.ref pt))(ht:st.Ω pt=some (.dict ep (ds.map λv=>(v, .int (f v:Nat)))))(hl:st.Ω pl=some (.list (av ts)))(hts:∀t∈ts,t∈ds)(hlen:ts.length<1000)
  (he:∀(R':af→St→Prop) (az:aa),Ext st.Ω az→R' (.ref pl) ⟨st.m,az⟩→ev prog w B l e R' ⟨st.m,az⟩)
  (h:∀az,Ext st.Ω az→R (.int (kE (ts.map f):Nat)) ⟨st.m,az⟩):ev prog w B l (.bH (.glob .max) (plus (.fP (.int 0)) (.comp (.idx (.var vb) (.var vx)) vx .ex e .none))) R st:=by
 obtain⟨m,Ω⟩:=st;dsimp only at hm ht hl he h;intro r0 h0;have h0:Ω r0=none:=h0;have x0:Ext Ω (Ω.set r0 (.list [.int 0])):= .fresh h0;refine he _ _ x0 ?_;have bT:=x0 _ _ hl;refine rH.list bT ?_;refine iK (p:=pl) (av ts) (I:=λk ys st'=>st'.Ω=Ω.set r0 (.list [.int 0])∧ys=av ((ts.take k).map λt=>(f t:Int))∧st'.m vb=some (.ref pt)) ?_ ?_ ?_ ?_
 ·intro k ys st' aH;obtain⟨e1,_⟩:=aH;rw[e1];exact bT
 ·intro k x ys aH K hx bB hK;obtain⟨m',az⟩:=aH;obtain⟨e1,e2,e3⟩:=bB
  obtain⟨t,ht',rfl⟩:=ez hx;have htk:=take_snoc ht';dsimp only at e1 e3;subst e1;refine bN rfl ?_;refine⟨.ref pt,(if_neg hne).trans e3, .int t,if_pos rfl,di (x0 _ _ ht) (by rw[FO,if_pos (hts t (List.mem_of_getElem? ht'))]) ⟨?_,?_⟩⟩
  ·rw[e2,aq,List.length_map]
   have:(ts.take k).length≤ts.length:=List.length_take_le' ..;unfold lim;exact SQ this hlen
  ·refine hK _ _ ⟨rfl,?_,(if_neg hne).trans e3⟩
   rw[e2,cF,htk,List.map_append];rfl
 ·intro ys aH bB r1 h1;obtain⟨m',az⟩:=aH;obtain⟨e1,e2,e3⟩:=bB
  dsimp only at e1 h1;subst e1;rw[aq,List.take_length]at e2;subst e2;have x1:=x0.then h1 (x:= .list (av (ts.map λt=>(f t:Int))));refine uc (au aa.set_same h1) aa.set_same (by simp[lim]) (by rw[aq,List.length_map];unfold lim;exact Hz hlen) λr2 h2=>?_
  have e4:[af.int 0]++av (ts.map λt=>(f t:Int))=av ((0:Int)::ts.map λt=>(f t:Int)):=rfl;rw[e4];refine DP aa.set_same (by simp) λM m1 m2=>?_
  rw[Ef m1 m2];exact h _ (x1.then h2)
 ·exact⟨rfl,by simp[av],(if_neg hne).trans hm⟩
noncomputable def l3(z:Addr×Int×Int×Int):List Int:=[z.2.1,z.2.2.1,z.2.2.2]
theorem Ab{zs:List (Addr×Int×Int×Int)}(h:bk .tup Ω zs):sE Ω (refsOf zs) (zs.map l3):=by
 refine⟨zs.map (·.1),by simp[refsOf],by simp,λi x t h1 h2=>?_⟩;rw[List.getElem?_map]at h1 h2;cases q:zs[i]? with
 |none=>rw[q]at h1;cases h1
 |some z=>
  rw[q]at h1 h2;cases h1;cases h2;exact h z (List.mem_of_getElem? q)
theorem Hg{zs us:List (Addr×Int×Int×Int)}(h:zs.map (·.2)=us.map (·.2)):zs.map l3=us.map l3:=by
 have e:l3=(λx:Int×Int×Int=>[x.1,x.2.1,x.2.2])∘(·.2):=rfl;rewrite[e,←List.map_map,←List.map_map,h];rfl
theorem BR{op:CmpOp}{bv:Bool}(hop:op= .Eq∧bv=true∨op= .NotEq∧bv=false){p q:Addr}{zs us:List (Addr×Int×Int×Int)}{R:Bool→Prop}(hpq:p≠q)(hp:Ω p=some (.list (refsOf zs)))(hq:Ω q=some (.list (refsOf us)))(hz:bk .tup Ω zs)(hu:bk .tup Ω us)(lz:zs.length<100)(lu:us.length<100)
  (hd:∀z∈zs,∀u∈us,z.1≠u.1) (e:zs.map (·.2)=us.map (·.2)) (h:R bv):gm op (.ref p) (.ref q) R Ω:=by
 have h3:∀vs:List (Addr×Int×Int×Int),∀t∈vs.map l3,t.length=3:=λvs t ht=>by
  obtain⟨z,_,rfl⟩:=List.mem_map.mp ht;rfl
 have main:HW Ω p q (refsOf zs) (refsOf us) (zs.map l3) (us.map l3):=by
  refine⟨hpq,hp,hq,Ab hz,Ab hu,h3 zs,h3 us,by rw[List.length_map];unfold lim;exact Nat.lt_add_left _ lz,by rw[List.length_map];unfold lim;exact Nat.lt_add_left _ lu,λa h1 h2=>?_⟩;unfold refsOf at h1 h2;obtain⟨z,z1,z2⟩:=List.mem_map.mp h1;obtain⟨u,u1,u2⟩:=List.mem_map.mp h2;cases z2
  injection u2 with u3
  exact hd z z1 u u1 u3.symm
 rcases hop with⟨rfl,rfl⟩|⟨rfl,rfl⟩
 ·exact .YH main (by rw[Hg e];simpa using h)
 ·exact .YI main (by rw[Hg e];simpa using h)
structure AO(bA:aa)(xs:List Int)(gP:Addr)(T0:TD)(k:Nat)(T:TD)(ep:Nat)(ah:Int→Addr)(Ω:aa):Prop where
 s:T.s=T0.s
 kk:T.k=T0.k
 m:T.m=T0.m
 H:bq Ω T
 e:Ext bA Ω
 w:∀a,T.W a→bA a=none
 sub:∀v∈T.ns,v∈xs
 sup:∀v∈xs.take k,v∈T.ns
 np:∀v∈xs,T.np v=if v∈xs.take k then((gg xs AI v).length:Int)else 0
 sc:∀p,T.sc p=if p∈xs then(xs.take k).filter (AI p)else[]
 Hh:¬T.W gP
 OD:Ω gP=some (.dict ep ((xs.take k).map λu=>(u, .ref (ah u))))
 al:∀u∈xs.take k,¬T.W (ah u)∧Ω (ah u)=some (.list (av (gg xs AI u)))
noncomputable def Eg:MS:= .asg [.idx (.var .ahead) (.var .u)] (.fQ (.var .t) .t .ex (.var .runs) .none (.call2 (.glob .cQ) (.var .t) (.var .u)))<| .exp (.kI (.var .sorter) .add (.var .u) (.idx (.var .ahead) (.var .u))) .nil
inductive Nn(bA:aa)(rs:List Rn)(pa pb pr pw pt gP:Addr)(T0:TD)(k:Nat)(st:St):Prop
 |mk (q1:LM st.m pa pb pr pw pt) (q2:st.m .ahead=some (.ref gP)) (q3:st.m .sorter=some (.ref T0.s)) (T:TD) (ep:Nat) (ah:Int→Addr) (q4:AO bA (rs.map enc) gP T0 k T ep ah st.Ω):Nn bA rs pa pb pr pw pt gP T0 k st
theorem BS(bf:BF prog w B)(bT:l<40){bA:aa}{a b:List Int}{rs:List Rn}{ks kt:List Int}{pa pb pr pw pt:Addr}(L:LS bA a b rs ks kt pa pb pr pw pt){gP:Addr}(JB:bA gP=none){T0:TD}{st:St}{Zm:Int→Addr}(M:LM st.m pa pb pr pw pt)(XE:st.m .ahead=some (.ref gP))(hso:st.m .sorter=some (.ref T0.s))(mr:T0.m .aG=some .none)
  (A0:AO bA (rs.map enc) gP T0 0 T0 0 Zm st.Ω) {QQ:bl→St→Prop}
  (hq:∀st' T ep ah,LM st'.m pa pb pr pw pt→st'.m .ahead=some (.ref gP)→st'.m .sorter=some (.ref T0.s)→AO bA (rs.map enc) gP T0 rs.length T ep ah st'.Ω→QQ .next st'):
  ∃n,jr (λx k st=>k {st with m:=st.m.set .u x}) (exs prog w B l Eg) QQ n (.lst pr 0) st:=by
 have zk:(rs.map enc).length=rs.length:=List.length_map ..;refine ki (p:=pr) (av (rs.map enc)) (I:=Nn bA rs pa pb pr pw pt gP T0) ?_ ?_ ?_ ?_
 ·intro k st aH;obtain⟨_,_,_,T,ep,ah,A⟩:=aH;exact A.e _ _ L.hr
 ·intro k x aH K hx bB hK;obtain⟨m,dB⟩:=aH;obtain⟨M,g1,g2,T,ep,ah,A⟩:=bB
  dsimp only at M g1 g2 A;obtain⟨u,hu,rfl⟩:=ez hx;have htk:=take_snoc hu;have hun:=iO L.nodup hu;have hux:=List.mem_of_getElem? hu;obtain⟨ru,hru,Zn⟩:=List.mem_map.mp hux;have OA:=L.qU ru hru;have uA:=A.e _ _ L.hr;refine⟨.ref pr,M.runs,?_⟩;refine rH.list uA ?_;refine iK (p:=pr) (av (rs.map enc)) (I:=λj ys st'=>st'.Ω=dB∧ys=av (((rs.map enc).take j).filter λt=>AI t u)∧st'.m .u=some (.int u)) ?_ ?_ ?_ ?_
  ·intro j ys st' aH;obtain⟨e1,_⟩:=aH;rw[e1];exact uA
  ·intro j x ys aH K' hx bB wM;obtain⟨m',az⟩:=aH;obtain⟨e1,e2,e3⟩:=bB
   dsimp only at e1 e3;subst e1;obtain⟨t,ht,rfl⟩:=ez hx;have htj:=take_snoc ht;obtain⟨rt,Zo,Zp⟩:=List.mem_map.mp (List.mem_of_getElem? ht);have hlen:(((rs.map enc).take j).filter λt=>AI t u).length≤20:=by
    have h1:=List.length_filter_le (λt=>AI t u) ((rs.map enc).take j);have h2:((rs.map enc).take j).length≤(rs.map enc).length:=List.length_take_le' ..;have:=L.len;exact Kw zk h1 this h2
   refine⟨.int t,rfl, .int u,e3,aR (by decide) (FZ bT) ?_⟩;rw[←Zp,←Zn];refine yX bf (L.qU rt Zo) OA ?_;rw[←uv (L.qU rt Zo) OA,Zp,Zn];refine bu ?_;cases ha:AI t u with
   |true=>
    refine bN rfl ⟨.int t,rfl,⟨by rw[e2,aq];unfold lim;exact F0 hlen,wM _ _ ⟨rfl,?_,e3⟩⟩⟩;rw[e2,cF,htj,List.filter_append,List.filter_cons_of_pos (p:=λt=>AI t u) ha];rfl
   |false=>
    refine aM rfl (wM _ _ ⟨rfl,?_,e3⟩);rw[e2,htj,List.filter_append,List.filter_cons_of_neg (p:=λt=>AI t u) (by rw[ha];simp),List.filter_nil,List.append_nil]
  ·intro ys aH bB r1 h1;obtain⟨m',az⟩:=aH;obtain⟨e1,e2,e3⟩:=bB
   dsimp only at e1 h1;subst e1;rw[aq,List.take_length]at e2;have e2:ys=av (gg (rs.map enc) AI u):=e2;subst e2;have x1:Ext az (az.set r1 (.list (av (gg (rs.map enc) AI u)))):= .fresh h1;have nW1:¬T.W r1:=A.H.fresh h1;refine⟨.ref gP,g1, .int u,rfl,cO (x1 _ _ A.OD) ?_ λcK=>?_⟩
   ·rw[List.length_map]
    have h2:((rs.map enc).take k).length≤(rs.map enc).length:=List.length_take_le' ..;have:=L.len;unfold lim;exact SR zk h2 this
   rw[iL (by rw[map_fst (g:=λu=> .ref (ah u))];exact hun)];have ed:((rs.map enc).take k).map (λu=>(u,af.ref (ah u)))++[(u, .ref r1)]=((rs.map enc).take (k+1)).map λv=>(v,af.ref (up ah u r1 v)):=by
    rw[htk,List.map_append,List.map_cons,List.map_nil,bF]
    congr 1
    exact List.map_congr_left λv hv=>by
     have:v≠u:=λq=>hun (by rw[←q];exact hv)
     rw[cI this]
   rw[ed];have X6:r1≠gP:=Ne.symm (aE A.OD h1);have H2:bq ((az.set r1 (.list (av (gg (rs.map enc) AI u)))).set gP (.dict cK (((rs.map enc).take (k+1)).map λv=>(v,af.ref (up ah u r1 v))))) T:=(A.H.ext x1).out A.Hh;have d2:((az.set r1 (.list (av (gg (rs.map enc) AI u)))).set gP (.dict cK (((rs.map enc).take (k+1)).map λv=>(v,af.ref (up ah u r1 v))))) gP=_:=aa.set_same;have l2:((az.set r1 (.list (av (gg (rs.map enc) AI u)))).set gP (.dict cK (((rs.map enc).take (k+1)).map λv=>(v,af.ref (up ah u r1 v))))) r1=some (.list (av (gg (rs.map enc) AI u))):=(aa.ai X6).trans aa.set_same;have e2:Ext bA ((az.set r1 (.list (av (gg (rs.map enc) AI u)))).set gP (.dict cK (((rs.map enc).take (k+1)).map λv=>(v,af.ref (up ah u r1 v))))):=(A.e.then h1).upd JB;have Np:∀v∈(rs.map enc).take k,¬T.W (ah v)∧((az.set r1 (.list (av (gg (rs.map enc) AI u)))).set gP (.dict cK (((rs.map enc).take (k+1)).map λv=>(v,af.ref (up ah u r1 v))))) (ah v)=some (.list (av (gg (rs.map enc) AI v))):=λv hv=>by
    obtain⟨b1,b2⟩:=A.al v hv;exact⟨b1,(aa.ai (ao b2 A.OD (by simp))).trans (au b2 h1)⟩
   dsimp only;generalize ((az.set r1 (.list (av (gg (rs.map enc) AI u)))).set gP (.dict cK (((rs.map enc).take (k+1)).map λv=>(v,af.ref (up ah u r1 v)))))=cV at H2 d2 l2 e2 Np;have hps:(gg (rs.map enc) AI u).length≤20:=by
    have h1:=List.length_filter_le (λt=>AI t u) (rs.map enc);have:=L.len;unfold gg;exact NV zk h1 this
   have hnl:T.ns.length≤20:=by have:=fj A.H.nd A.sub;have:=L.len;exact NV zk (by assumption) this
   have X7:∀p,(T.sc p).length≤20:=λp=>by
    rw[A.sc p]
    split
    ·have h1:=List.length_filter_le (AI p) ((rs.map enc).take k)
     have h2:((rs.map enc).take k).length≤(rs.map enc).length:=List.length_take_le' ..;have:=L.len;exact Kw zk h1 this h2
    ·exact Nat.zero_le _
   refine⟨.ref T0.s,g2,312,by rw[←A.s];exact fN H2.hs H2.hd rfl, .int u,rfl, .ref gP,g1, .int u,rfl,di d2 (by rw[eN,if_pos (by rw[htk];simp)]) ?_⟩;rw[bF];refine .list l2 (by rw[aq];unfold lim;exact F0 hps) ⟨FZ bT,?_⟩;rw[←A.s];refine D9 bf (Nat.lt_of_le_of_lt bT (by decide)) H2 (u:=u) (ps:=gg (rs.map enc) AI u) (SS hnl hps) (by rw[A.m];exact mr) (L.nodup.filter _) (λp=>by have:=X7 p;exact OQ this) λW' G0 nD D7 D8 gf H4 x4=>?_
   refine hK _ ⟨⟨M.one,M.other,M.runs,M.worths,M.tw⟩,g1,g2,{T with W:=W',ep:=G0,ns:=(gg (rs.map enc) AI u).foldl eW (eW T.ns u),np:=up T.np u (T.np u+(gg (rs.map enc) AI u).length),sc:=λp=>if p∈gg (rs.map enc) AI u then T.sc p++[u]else T.sc p,inf:=nD,dd:=D7,sp:=D8},cK,up ah u r1,⟨A.s,A.kk,A.m,H4,?_,?_,?_,?_,?_,?_,?_,?_,?_⟩⟩
   ·exact λz o hz=>x4.keep z o (λh=>by rw[A.w z h]at hz;cases hz) (e2 z o hz)
   ·intro z hz
    rcases x4.new z hz with h|h
    ·exact A.w z h
    ·exact e2.none h
   ·intro v hv
    have hv:v∈(gg (rs.map enc) AI u).foldl eW (eW T.ns u):=hv;rw[fB,iM]at hv
    rcases hv with(h|h)|h
    ·exact A.sub v h
    ·rw[h];exact hux
    ·exact(List.mem_filter.mp h).1
   ·intro v hv
    show v∈(gg (rs.map enc) AI u).foldl eW (eW T.ns u);rw[fB,iM];rw[htk]at hv
    rcases List.mem_append.mp hv with h|h
    ·exact .inl (.inl (A.sup v h))
    ·exact .inl (.inr (List.mem_singleton.mp h))
   ·intro v hv
    show up T.np u (T.np u+(gg (rs.map enc) AI u).length) v=_;rw[htk]
    by_cases q:v=u
    ·subst q
     rw[bF,if_pos (by simp),A.np v hux,if_neg hun,Int.zero_add]
    ·rw[cI q,A.np v hv]
     by_cases q2:v∈(rs.map enc).take k
     ·rw[if_pos q2,if_pos (List.mem_append_left _ q2)]
     ·rw[if_neg q2,if_neg]
      intro h
      rcases List.mem_append.mp h with h|h
      ·exact q2 h
      ·exact q (List.mem_singleton.mp h)
   ·intro p
    show (if p∈gg (rs.map enc) AI u then T.sc p++[u]else T.sc p)=_;rw[htk,A.sc p,List.filter_append];have wD:p∈gg (rs.map enc) AI u↔p∈rs.map enc∧AI p u=true:=List.mem_filter
    by_cases q:p∈rs.map enc
    ·rw[if_pos q,if_pos q]
     cases ha:AI p u with
     |true=>rw[if_pos (wD.mpr ⟨q,ha⟩),List.filter_cons_of_pos ha];rfl
     |false=>rw[if_neg (λh=>by have:=(wD.mp h).2;rw[ha]at this;cases this),List.filter_cons_of_neg (by rw[ha];simp),List.filter_nil,List.append_nil]
    ·rw[if_neg q,if_neg q,if_neg λh=>q (wD.mp h).1]
   ·exact(x4.hold A.Hh d2).1
   ·exact(x4.hold A.Hh d2).2
   ·intro v hv
    rw[htk]at hv
    by_cases q:v=u
    ·subst q;rw[bF];exact x4.hold nW1 l2
    ·rw[cI q]
     have hv':v∈(rs.map enc).take k:=by
      rcases List.mem_append.mp hv with h|h
      ·exact h
      ·exact absurd (List.mem_singleton.mp h) q
     obtain⟨b1,b2⟩:=Np v hv';exact x4.hold b1 b2
  ·exact⟨rfl,by simp[av],rfl⟩
 ·intro aH bB;obtain⟨m,dB⟩:=aH;obtain⟨M,g1,g2,T,ep,ah,A⟩:=bB
  rw[aq,zk]at A;exact hq _ T ep ah M g1 g2 A
 ·exact⟨M,XE,hso,T0,0,Zm,A0⟩
end
theorem wH{rs:List Rn}(hs:∀r∈rs,mV r)(h0:∀r∈rs,0<r.s)(W:Rn→Nat){r:Rn}(hr:r∈rs):best rs W (de (enc r))=W r+kE ((gg (rs.map enc) AI (enc r)).map λt=>best rs W (de t)):=by
 rw[fW (hs r hr),gD h0 r,FN hs (hs r hr),List.map_map]
 congr 2
 refine List.map_congr_left λt ht=>?_
 show _=best rs W (de (enc t));rw[fW (hs t (List.mem_filter.mp ht).1)]
theorem kC.frame{Ω az:aa}{T:TD}{pr:Addr}{rd:List Int}{po fi:Int}(R:kC Ω T pr rd po fi)(h:∀a,T.W a→az a=Ω a):kC az T pr rd po fi:=
 ⟨R.mr,(h _ R.wr).trans R.hr,R.wr,R.ne,R.mp,R.mf⟩
theorem ux{Ω az:aa}{W:Addr→Prop}(own:∀a,W a→Ω a≠none)(h:Ext Ω az):∀a,W a→az a=Ω a:=λa ha=>by
 cases q:Ω a with
 |none=>exact absurd q (own a ha)
 |some o=>exact h a o q
noncomputable abbrev MX(vb vx:V)(e:ME):ME:= .bH (.glob .max) (plus (.fP (.int 0)) (.comp (.idx (.var vb) (.var vx)) vx .ex e .none))
noncomputable def wI:MS:=
 .asg [.idx (.var .best) (.var .u)] (plus (.idx (.var .worths) (.var .u)) (MX .best .t (.idx (.var .ahead) (.var .u))))<|
 .asg [.idx (.var .turned_best) (.var .u)] (plus (.idx (.var .turned_worths) (.bH (.glob .eg) (.var .u))) (MX .turned_best .t (.idx (.var .ahead) (.var .u)))) .nil
noncomputable def sr:MS:=
 sv .ready (.bX (.var .sorter) .get_ready)<|
  .fR .u ⟨.ex, .var .ready, .none⟩ wI<|
  .exp (.kH (.var .sorter) .done (.var .ready))<|
  .aug .rounds .Add (.int 1) .nil
structure LC where
 a:List Int
 b:List Int
 rs:List Rn
 ks:List Int
 kt:List Int
 pa:Addr
 pb:Addr
 pr:Addr
 pw:Addr
 pt:Addr
 gP:Addr
 ah:Int→Addr
 s:Addr
 W:Addr→Prop
 pR:Addr
 rA:Addr
 Ac:Addr
 bA:aa
 dB:aa
noncomputable def LC.xs(c:LC):List Int:=c.rs.map enc
noncomputable def LC.Wb(c:LC)(r:Rn):Nat:=wt c.ks (enc r)
noncomputable def LC.Wt(c:LC)(r:Rn):Nat:=wt c.kt (enc r.sw)
noncomputable def LC.fb(c:LC)(u:Int):Nat:=best c.rs c.Wb (de u)
noncomputable def LC.ft(c:LC)(u:Int):Nat:=best c.rs c.Wt (de u)
structure lC(c:LC):Prop where
 L:LS c.bA c.a c.b c.rs c.ks c.kt c.pa c.pb c.pr c.pw c.pt
 e:Ext c.bA c.dB
 w:∀a,c.W a→c.bA a=none
 own:∀a,c.W a→c.dB a≠none
 na:¬c.W c.gP
 da:∃ep,c.dB c.gP=some (.dict ep (c.xs.map λu=>(u, .ref (c.ah u))))
 al:∀u∈c.xs,¬c.W (c.ah u)∧c.dB (c.ah u)=some (.list (av (gg c.xs AI u)))
 nb:c.dB c.rA=none
 nt:c.dB c.Ac=none
 bt:c.rA≠c.Ac
structure LR(c:LC)(m:eS):Prop where
 M:LM m c.pa c.pb c.pr c.pw c.pt
 ah:m .ahead=some (.ref c.gP)
 so:m .sorter=some (.ref c.s)
 be:m .best=some (.ref c.rA)
 te:m .turned_best=some (.ref c.Ac)
structure LT(c:LC)(ds:List Int)(Ω:aa):Prop where
 x:fh c.W c.dB c.W Ω
 bd:∃ep,Ω c.rA=some (.dict ep (ds.map λu=>(u, .int (c.fb u:Nat))))
 td:∃ep,Ω c.Ac=some (.dict ep (ds.map λu=>(u, .int (c.ft u:Nat))))
structure WI(c:LC)(k:Nat)(rd ds:List Int)(T:TD)(st:St):Prop where
 R:LR c st.m
 ro:st.m .rounds=some (.int k)
 s:T.s=c.s
 W:T.W=c.W
 sc:T.sc=wN c.xs AI
 mem:∀v,v∈T.ns↔v∈c.xs
 H:bq st.Ω T
 Q:kC st.Ω T c.pR rd ds.length ds.length
 S:RS c.xs AI (rz c.rs) k T.np rd
 lt:LT c ds st.Ω
 nd:ds.Nodup
 dm:∀v,v∈ds↔v∈c.xs∧rz c.rs v≤k
 top:k=0∨∃v∈c.xs,rz c.rs v=k
 le:k≤ds.length
 kk:T.k≤10+2*ds.length
section
variable{c:LC}
theorem lC.Nq(C:lC c):¬c.W c.rA:=λh=>C.own _ h C.nb
theorem lC.Nr(C:lC c):¬c.W c.Ac:=λh=>C.own _ h C.nt
theorem LT.base{ds:List Int}{Ω:aa}(T:LT c ds Ω)(C:lC c):Ext c.bA Ω:=λz o hz=>T.x.keep z o (λh=>by rw[C.w z h]at hz;cases hz) (C.e z o hz)
theorem LT.ext{ds:List Int}{Ω az:aa}(T:LT c ds Ω)(h:Ext Ω az):LT c ds az:=
 ⟨T.x.trans (.ext h),let ⟨ep,e⟩:=T.bd;⟨ep,h _ _ e⟩,let ⟨ep,e⟩:=T.td;⟨ep,h _ _ e⟩⟩
theorem LT.stp{ds:List Int}{Ω az:aa}(T:LT c ds Ω)(C:lC c)(h:fh c.W Ω c.W az):LT c ds az:=
 ⟨T.x.trans h,let ⟨ep,e⟩:=T.bd;⟨ep,h.keep _ _ C.Nq e⟩,let ⟨ep,e⟩:=T.td;⟨ep,h.keep _ _ C.Nr e⟩⟩
theorem iQ(C:lC c){ds:List Int}(h:ds.Nodup)(hm:∀v∈ds,v∈c.xs):ds.length≤20:=by
 have:=fj h hm;have h2:=C.L.len;unfold LC.xs at this;rw[List.length_map]at this;exact Nat.le_trans this h2
end
section
variable{prog:Program}{w:World}{B:Addr→Option Obj}{Ω:aa}{l:Nat}{Q:af→aa→Prop}
inductive Zq(c:LC)(k:Nat)(r:Addr)(rd ds:List Int)(T:TD)(po fi:Int)(j:Nat)(st:St):Prop
 |mk (q1:LR c st.m) (q2:st.m .rounds=some (.int k)) (q3:st.m .ready=some (.ref r)) (q4:st.Ω r=some (.tup (av rd))) (q5:bq st.Ω T) (q6:kC st.Ω T c.pR [] po fi) (q7:LT c (ds++rd.take j) st.Ω):Zq c k r rd ds T po fi j st
theorem BU(bf:BF prog w B)(bT:l<40){c:LC}(C:lC c){k:Nat}{rd ds:List Int}{T:TD}{st:St}(hW:T.W=c.W){po fi:Int}{r:Addr}(nr:¬c.W r)(hr:st.Ω r=some (.tup (av rd)))(hrd:rd.Nodup)(hm:∀v∈rd,v∈c.xs∧rz c.rs v=k+1)(hds:ds.Nodup)(hdm:∀v,v∈ds↔v∈c.xs∧rz c.rs v≤k)
  (R0:LR c st.m) (ro:st.m .rounds=some (.int k)) (re:st.m .ready=some (.ref r)) (H0:bq st.Ω T) (Q0:kC st.Ω T c.pR [] po fi) (T0:LT c ds st.Ω) {QQ:bl→St→Prop}
  (hq:∀st',LR c st'.m→st'.m .rounds=some (.int k)→st'.m .ready=some (.ref r)→st'.Ω r=some (.tup (av rd))→bq st'.Ω T→kC st'.Ω T c.pR [] po fi→LT c (ds++rd) st'.Ω→QQ .next st'):
  ∃n,jr (λx k st=>k {st with m:=st.m.set .u x}) (exs prog w B l wI) QQ n (.tup r 0) st:=by
 have hnd:∀v∈rd,v∉ds:=λv hv h=>by have h1:=(hm v hv).2;have h2:=((hdm v).mp h).2;exact Kc h1 h2
 refine nN (p:=r) (av rd) (I:=Zq c k r rd ds T po fi) ?_ ?_ ?_ ?_
 ·intro j st aH;obtain⟨_,_,_,h,_⟩:=aH;exact h
 ·intro j x aH K hx bB hK;obtain⟨m,cV⟩:=aH;obtain⟨R,ro,re,hr,H,Q,T1⟩:=bB
  dsimp only at R ro re hr H Q T1;obtain⟨u,hu,rfl⟩:=ez hx;have htk:=take_snoc hu;have hun:=iO hrd hu;have Zr:=List.mem_of_getElem? hu;obtain⟨hux,JA⟩:=hm u Zr;obtain⟨v,hv,OE⟩:=List.mem_map.mp hux;have Hi:u∉ds++rd.take j:=λh=>by
   rcases List.mem_append.mp h with h|h
   ·exact hnd u Zr h
   ·exact hun h
  have Nt:∀t∈gg c.xs AI u,t∈ds++rd.take j:=λt ht=>by
   obtain⟨t1,t2⟩:=List.mem_filter.mp ht;have:=C.L.rk.lt t t1 u hux t2;exact List.mem_append_left _ ((hdm t).mpr ⟨t1,Q8 JA this⟩)
  have Nu:(gg c.xs AI u).length<1000:=by
   have h1:=List.length_filter_le (λt=>AI t u) c.xs;have h2:=C.L.len;have h3:c.xs.length=c.rs.length:=List.length_map ..;unfold gg;exact Q9 h3 h1 h2
  have hdl:(ds++rd.take j).length<lim:=by
   have h1:=iQ C hds (λv hv=>((hdm v).mp hv).1);have h2:=iQ C hrd (λv hv=>(hm v hv).1);have h3:(rd.take j).length≤rd.length:=List.length_take_le' ..;rw[List.length_append];unfold lim;exact Ra h1 h3 h2
  have hks:u∈c.ks:=C.L.kp.mem_iff.mpr hux;have hkt:enc v.sw∈c.kt:=C.L.tp.mem_iff.mpr (List.mem_map.mpr ⟨v,hv,rfl⟩);have efb:c.fb u=wt c.ks u+kE ((gg c.xs AI u).map c.fb):=by
   unfold LC.fb LC.xs;rw[←OE,wH C.L.qU C.L.pos c.Wb hv];rfl
  have eft:c.ft u=wt c.kt (enc v.sw)+kE ((gg c.xs AI u).map c.ft):=by
   unfold LC.ft LC.xs;rw[←OE,wH C.L.qU C.L.pos c.Wt hv];rfl
  obtain⟨X8,hw⟩:=C.L.hw;obtain⟨Yb,ht⟩:=C.L.ht;obtain⟨epa,hda⟩:=C.da;obtain⟨epb,hbd⟩:=T1.bd;obtain⟨Zs,Np⟩:=C.al u hux;refine⟨.ref c.pw,R.M.worths, .int u,rfl,di (T1.base C _ _ hw) (ko c.ks u hks) ?_⟩;refine uw (vb:= .best) (vx:= .t) (by decide) (f:=c.fb) (ts:=gg c.xs AI u) (pl:=c.ah u) R.be hbd (T1.x.keep _ _ Zs Np) Nt Nu (λR' az x h=>⟨.ref c.gP,R.ah, .int u,rfl,di (x _ _ (T1.x.keep _ _ C.na hda)) (by rw[eN,if_pos hux]) h⟩) λgf x4=>?_
  dsimp only at x4;have T4:=T1.ext x4;obtain⟨epb4,Nv⟩:=T4.bd;refine aI ⟨.ref c.rA,R.be, .int u,rfl,cO Nv (by rw[List.length_map];exact hdl) λHj=>?_⟩;rw[iL (by rw[map_fst (g:=λu=> .int (c.fb u:Nat))];exact Hi)];have ed5:((ds++rd.take j).map λu=>(u,af.int (c.fb u:Nat)))++[(u, .int ((wt c.ks u:Nat)+(kE ((gg c.xs AI u).map c.fb):Nat)))]=(ds++rd.take (j+1)).map λu=>(u,af.int (c.fb u:Nat)):=by
   rw[htk,←List.append_assoc,List.map_append (l₂:=[u]),List.map_cons,List.map_nil,efb]
   congr 3
  rw[ed5];have H4:=H.ext x4;have Q4:=Q.frame (ux H.own x4);have Nx:=x4 _ _ hr;obtain⟨ept4,Yc⟩:=T4.td;have Nq:¬T.W c.rA:=by rw[hW];exact C.Nq
  have Nr:¬T.W c.Ac:=by rw[hW];exact C.Nr
  have x5:fh c.W c.dB c.W (gf.set c.rA (.dict Hj ((ds++rd.take (j+1)).map λu=>(u,af.int (c.fb u:Nat))))):=⟨λa h=> .inl h,λz o hz ho=>by rw[aa.ai (aE ho C.nb)];exact T4.x.keep z o hz ho⟩;have H5:=H4.out (o:= .dict Hj ((ds++rd.take (j+1)).map λu=>(u,af.int (c.fb u:Nat)))) Nq;have Q5:=Q4.frame (az:=gf.set c.rA (.dict Hj ((ds++rd.take (j+1)).map λu=>(u,af.int (c.fb u:Nat))))) λa ha=>aa.ai λq=>Nq (q▸ha)
  have JC:(gf.set c.rA (.dict Hj ((ds++rd.take (j+1)).map λu=>(u,af.int (c.fb u:Nat))))) r=_:=(aa.ai (ao Nx Nv (by simp))).trans Nx;have Ny:(gf.set c.rA (.dict Hj ((ds++rd.take (j+1)).map λu=>(u,af.int (c.fb u:Nat))))) c.rA=_:=aa.set_same;have FP:(gf.set c.rA (.dict Hj ((ds++rd.take (j+1)).map λu=>(u,af.int (c.fb u:Nat))))) c.Ac=_:=(aa.ai (Ne.symm C.bt)).trans Yc;generalize (gf.set c.rA (.dict Hj ((ds++rd.take (j+1)).map λu=>(u,af.int (c.fb u:Nat)))))=zV at x5 H5 Q5 JC Ny FP;have b5:Ext c.bA zV:=λz o hz=>x5.keep z o (λh=>by rw[C.w z h]at hz;cases hz) (C.e z o hz)
  refine⟨.ref c.pt,R.M.tw, .int u,rfl,aR (by decide) (FZ bT) ?_⟩;rw[←OE];refine mY bf (C.L.qU v hv) ?_;rw[OE];refine di (b5 _ _ ht) (ko c.kt _ hkt) ?_;refine uw (vb:= .turned_best) (vx:= .t) (by decide) (f:=c.ft) (ts:=gg c.xs AI u) (pl:=c.ah u) R.te FP (x5.keep _ _ Zs Np) Nt Nu (λR' az x h=>⟨.ref c.gP,R.ah, .int u,rfl,di (x _ _ (x5.keep _ _ C.na hda)) (by rw[eN,if_pos hux]) h⟩) λYd x6=>?_
  dsimp only at x6;refine aI ⟨.ref c.Ac,R.te, .int u,rfl,cO (x6 _ _ FP) (by rw[List.length_map];exact hdl) λep7=>?_⟩;rw[iL (by rw[map_fst (g:=λu=> .int (c.ft u:Nat))];exact Hi)];have ed7:((ds++rd.take j).map λu=>(u,af.int (c.ft u:Nat)))++[(u, .int ((wt c.kt (enc v.sw):Nat)+(kE ((gg c.xs AI u).map c.ft):Nat)))]=(ds++rd.take (j+1)).map λu=>(u,af.int (c.ft u:Nat)):=by
   rw[htk,←List.append_assoc,List.map_append (l₂:=[u]),List.map_cons,List.map_nil,eft]
   congr 3
  rw[ed7];have Ye:=x6 _ _ FP;refine hK _ ⟨⟨⟨R.M.one,R.M.other,R.M.runs,R.M.worths,R.M.tw⟩,R.ah,R.so,R.be,R.te⟩,ro,re,?_,(H5.ext x6).out Nr,(Q5.frame (ux H5.own x6)).frame λa ha=>aa.ai λq=>Nr (q▸ha),⟨?_,⟨Hj,?_⟩,⟨ep7,aa.set_same⟩⟩⟩
  ·exact(aa.ai (ao (x6 _ _ JC) Ye (by simp))).trans (x6 _ _ JC)
  ·exact⟨λa h=> .inl h,λz o hz ho=>by
    have:z≠c.Ac:=aE ho C.nt;exact(aa.ai this).trans (x6 _ _ (x5.keep z o hz ho))⟩
  ·exact(aa.ai C.bt).trans (x6 _ _ Ny)
 ·intro aH bB;obtain⟨m,cV⟩:=aH;obtain⟨R,ro,re,hr,H,Q,T1⟩:=bB
  rw[aq,List.take_length]at T1;exact hq _ R ro re hr H Q T1
 ·exact⟨R0,ro,re,hr,H0,Q0,by rw[List.take_zero,List.append_nil];exact T0⟩
theorem zo(bf:BF prog w B)(bT:l<40){c:LC}(C:lC c){k:Nat}{rd ds:List Int}{T:TD}{st:St}(I:WI c k rd ds T st)(hne:rd≠[]){K:St→Prop}{QQ:bl→St→Prop}
  (hK:∀st' Yg ds' T',WI c (k+1) Yg ds' T' st'→K st'):exs prog w B l sr (cC K QQ) st:=by
 obtain⟨m,cV⟩:=st;have H:=I.H;have Q:=I.Q;have S:=I.S;have Zt:=I.lt;dsimp only at H Q Zt;have Hl:∀v∈rd,v∈c.xs∧rz c.rs v=k+1:=λv hv=>(S.mem v).mp hv
 have hrl:=iQ C S.nd (λv hv=>(Hl v hv).1);have hdl:=iQ C I.nd (λv hv=>((I.dm v).mp hv).1);have Ho:(ds++rd).Nodup:=by
  rw[List.nodup_append];refine⟨I.nd,S.nd,λa ha b hb q=>?_⟩;subst q;have h1:=((I.dm a).mp ha).2;have h2:=(Hl a hb).2;exact Kc h2 h1
 have wz:=iQ C Ho (λv hv=>by
  rcases List.mem_append.mp hv with h|h
  ·exact((I.dm v).mp h).1
  ·exact(Hl v h).1)
 rw[List.length_append]at wz;have hkk:=I.kk;refine⟨.ref c.s,I.R.so, .ref 324,by rw[←I.s];exact fN H.hs H.hd rfl,aR (by decide) (FZ bT) ?_⟩;rw[←I.s];refine zj bf H Q (OQ hrl) (Rb hkk hdl) (λv hv=>(I.mem v).mpr (Hl v hv).1) λr gf m4 hr0 Nx H4 Q4 x4=>?_
 rw[I.W]at x4;have nr:¬c.W r:=by rw[←I.W];exact H.fresh hr0
 refine⟨.ref r,rfl,rH.tup Nx ?_⟩;have R4:LR c (m.set .ready (.ref r)):=⟨⟨I.R.M.one,I.R.M.other,I.R.M.runs,I.R.M.worths,I.R.M.tw⟩,I.R.ah,I.R.so,I.R.be,I.R.te⟩;refine BU bf bT C (k:=k) (rd:=rd) (ds:=ds) (T:={T with k:=T.k+1,m:=m4,np:=λv=>if v∈rd then -1 else T.np v}) (st:=⟨m.set .ready (.ref r),gf⟩) I.W nr Nx S.nd Hl I.nd I.dm R4 I.ro rfl H4 Q4 (Zt.stp C x4) λMJ R5 Zu Zv JC H5 Q5 T5=>?_
 obtain⟨m5,zV⟩:=MJ;dsimp only at R5 Zu Zv JC H5 Q5 T5;refine⟨.ref c.s,R5.so,345,?_, .ref r,Zv,?_⟩
 ·have:=fN (n:= .done) H5.hs H5.hd rfl
  dsimp only at this;rw[I.s]at this;exact this
 refine .tup JC (by rw[aq];unfold lim;exact F0 hrl) ⟨FZ bT,?_⟩;rw[←I.s];have rk:=C.L.rk;refine BL (T:={T with k:=T.k+1,m:=m4,np:=λv=>if v∈rd then -1 else T.np v}) bf H5 Q5 S.nd (λu hu=>?_) hrl (by simp) (by dsimp only;exact Rc hkk hrl hdl) λk6 m6 Yd H6 Q6 Zw x6=>?_
 ·obtain⟨u1,u2⟩:=Hl u hu
  have e:T.sc u=c.xs.filter (AI u):=by rw[I.sc];exact if_pos u1
  refine⟨(I.mem u).mpr u1,if_pos hu,?_,?_,λv hv=>?_⟩
  ·show (T.sc u).Nodup
   rw[e];exact C.L.nodup.filter _
  ·show (T.sc u).length≤20
   rw[e];exact iQ C (C.L.nodup.filter _) λv hv=>(List.mem_filter.mp hv).1
  ·have hv:v∈T.sc u:=hv
   rw[e]at hv;obtain⟨v1,v2⟩:=List.mem_filter.mp hv;refine⟨(I.mem v).mpr v1,λh=>?_⟩;have h1:=rk.lt u u1 v v1 v2;have h2:=(Hl v h).2;exact Kd u2 h2 h1
 ·dsimp only at H6 Q6 Zw x6
  rw[I.W]at x6;have S6:=S.round rk C.L.nodup;refine⟨.int k,Zu,j6 ?_⟩;refine hK _ (rd.foldl (lB T.sc) (λv=>if v∈rd then -1 else T.np v,[])).2 (ds++rd) {T with k:=k6,m:=m6,np:=(rd.foldl (lB T.sc) (λv=>if v∈rd then -1 else T.np v,[])).1} ⟨⟨⟨R5.M.one,R5.M.other,R5.M.runs,R5.M.worths,R5.M.tw⟩,R5.ah,R5.so,R5.be,R5.te⟩,?_,I.s,I.W,I.sc,I.mem,H6,?_,?_,T5.stp C x6,Ho,λv=>?_,?_,?_,?_⟩
  ·show some (af.int _)=some (af.int _)
   congr 2
  ·have Q7:=Q6
   rw[List.length_append,Int.natCast_add];exact Q7
  ·have e:=I.sc
   show RS c.xs AI (rz c.rs) (k+1) (rd.foldl (lB T.sc) (λv=>if v∈rd then -1 else T.np v,[])).1 (rd.foldl (lB T.sc) (λv=>if v∈rd then -1 else T.np v,[])).2;rw[e];exact S6
  ·rw[List.mem_append,I.dm,S.mem]
   constructor
   ·rintro (⟨h1,h2⟩|⟨h1,h2⟩)
    ·exact⟨h1,HA h2⟩
    ·exact⟨h1,Nat.le_of_eq h2⟩
   ·intro aH;obtain⟨h1,h2⟩:=aH
    by_cases q:rz c.rs v≤k
    ·exact .inl ⟨h1,q⟩
    ·exact .inr ⟨h1,Rd h2 q⟩
  ·right
   cases q:rd with
   |nil=>exact absurd q hne
   |cons v t=>
    have:=Hl v (by rw[q];exact List.mem_cons_self ..);exact⟨v,this.1,this.2⟩
  ·have h1:=I.le
   have h2:0<rd.length:=List.length_pos_iff.mpr hne;rw[List.length_append];exact Pd h1 h2
  ·have h2:0<rd.length:=List.length_pos_iff.mpr hne
   rw[List.length_append];show k6≤_;exact Rf Zw hkk h2
theorem wJ(bf:BF prog w B)(bT:l<40){c:LC}(C:lC c){rd:List Int}{T:TD}{st:St}(I:WI c 0 rd [] T st){QQ:bl→St→Prop}
  (hq:∀st' k ds T',WI c k [] ds T' st'→QQ .next st'):
  ∃n,fT (uJ prog w B l (.bX (.var .sorter) .is_active)) (exs prog w B l sr) (exs prog w B l .nil) QQ n st:=by
 refine f9 (I:=λn st=>∃k rd ds T,n=30-k∧WI c k rd ds T st) ?_ (n:=30) ⟨0,rd,[],T,rfl,I⟩;intro n aH K bB hK;obtain⟨m,cV⟩:=aH;obtain⟨k,rd,ds,T,hn,I⟩:=bB;have H:=I.H;have Q:=I.Q;have S:=I.S;dsimp only at H Q;have hrl:=iQ C S.nd (λv hv=>((S.mem v).mp hv).1);have hdl:=iQ C I.nd (λv hv=>((I.dm v).mp hv).1);have hle:=I.le;refine⟨.ref c.s,I.R.so, .ref 331,by rw[←I.s];exact fN H.hs H.hd rfl,aR (by decide) (FZ bT) ?_⟩;rw[←I.s];refine wF bf H Q (OQ hrl) (bu ?_);cases q:rd with
 |nil=>
  subst q;exact aM rfl (hq _ k ds T I)
 |cons v t=>
  refine bN rfl (zo bf bT C I (by rw[q];simp) λst' Yg ds' T' I'=>hK (30-(k+1)) (Rg hn hle hdl) st' ⟨k+1,Yg,ds',T',rfl,I'⟩)
theorem WI.end{c:LC}(C:lC c){k:Nat}{ds:List Int}{T:TD}{st:St}(I:WI c k [] ds T st):k=lcs c.a c.b c.a.length c.b.length∧ds.length=c.rs.length∧∀v∈c.xs,v∈ds:=by
 have h0:∀v∈c.xs,rz c.rs v≠k+1:=λv hv h=>by have:=(I.S.mem v).mpr ⟨hv,h⟩;cases this
 have hle:∀v∈c.xs,rz c.rs v≤k:=λv hv=>C.L.rk.over h0 (rz c.rs v) v hv (Nat.le_refl _)
 have hall:∀v∈c.xs,v∈ds:=λv hv=>(I.dm v).mpr ⟨hv,hle v hv⟩
 refine⟨?_,?_,hall⟩
 ·rw[←Fp C.L.run,I8 C.L.qU]
  refine(I6 (λx hx=>?_) ?_).symm
  ·obtain⟨v,hv,rfl⟩:=List.mem_map.mp hx
   exact hle v hv
  ·rcases I.top with h|⟨v,h1,h2⟩
   ·exact .inl h
   ·exact .inr (List.mem_map.mpr ⟨v,h1,h2⟩)
 ·have h1:=fj I.nd (λv hv=>((I.dm v).mp hv).1)
  have h2:=fj C.L.nodup hall;unfold LC.xs at h1;rw[List.length_map]at h1 h2;exact Nat.le_antisymm h1 h2
end
theorem Hp{rs:List Rn}(hs:∀r∈rs,mV r)(W:Rn→Nat):kE ((rs.map enc).map λu=>best rs W (de u))=top rs W:=by
 unfold top;rw[List.map_map]
 congr 1
 refine List.map_congr_left λr hr=>?_
 show best rs W (de (enc r))=_;rw[fW (hs r hr)]
section
variable{prog:Program}{w:World}{B:Addr→Option Obj}{Ω:aa}{l:Nat}{Q:af→aa→Prop}
theorem Ad{s0:Nat}(hs0:s0≤1){pl:Addr}{L:List Int}(hL:L.length≤14)(hs:s0≤L.length){st:St}{R:af→St→Prop}(hm:st.m .letters=some (.ref pl))(hp:st.Ω pl=some (.list (av L)))
  (h:∀(H:List Int) r,H.length≤7→st.Ω r=none→R (.ref r) ⟨st.m,st.Ω.set r (.list (av H))⟩):ev prog w B l (.comp (.idx (.var .letters) (.var .k)) .k .nX (.int s0) (len (.var .letters))) R st:=by
 obtain⟨m,Ω⟩:=st;dsimp only at hm hp h;refine⟨.ref pl,hm,cj hp (by unfold lim;exact OT hL) ?_⟩;refine⟨NI,Int.ofNat_le.mpr hs,VJ hL,?_⟩;refine DO ((L.length-s0+1)/2) (Qk hs0) (I:=λk ys st'=>st'.Ω=Ω∧st'.m .letters=some (.ref pl)∧∃H:List Int,ys=av H∧H.length=k) ?_ ?_ ?_
 ·intro k ys aH K hk bB hK;obtain⟨m',az⟩:=aH;obtain⟨e1,e2,H,e3,e4⟩:=bB
  dsimp only at e1 e2;subst e1;refine bN rfl ⟨.ref pl,e2,_,rfl,bY (i:=s0+k*2) hp (Pn) (RW hk) (by unfold lim;exact OT hL) ⟨by rw[e3,aq];unfold lim;exact RX e4 hL hk,hK _ _ ⟨rfl,e2,H++[L.getD (s0+k*2) 0],by rw[e3,cF],by rw[List.length_append,e4];rfl⟩⟩⟩
 ·intro ys aH bB r hr;obtain⟨m',az⟩:=aH;obtain⟨e1,e2,H,e3,e4⟩:=bB
  dsimp only at e1 hr;subst e1;rw[e3];exact h H r (RY e4 hL) hr
 ·exact⟨rfl,hm,[],rfl,rfl⟩
theorem zp{p:Addr}{xs:List Int}{items:Array Value}{c:Nat}{st:St}{R:af→St→Prop}(hm:st.m .script=some (.ref p))(hp:st.Ω p=none){o:Obj}(hB:B p=some o)(hc:o.cls= .type "list")(hd:o.data= .seq items c)(hv:aP items.toList (av xs))(hl:xs.length<1000)
  (h:∀(L:List Int) r az,1≤L.length→L.length≤14→Ext st.Ω az→az r=some (.list (av L))→R (.ref r) ⟨st.m,az⟩):
  ev prog w B l (.comp (mod (.var .x) (.int 3)) .x .ex (.upto (plus (.upto (.var .script) (.int 14)) (.An [0,0,1,1,0,2])) (.int 14)) .none) R st:=by
 obtain⟨m,Ω⟩:=st;dsimp only at hm hp h;refine⟨.ref p,hm,aX (.base (xs:=av xs) hp (by decide) (by decide) hB hc hd hv (by rw[aq];unfold lim;exact Hz hl) λr1 h1 r2 h2=>?_)⟩;have Zx:(14:Int).toNat=14:=rfl;rw[Zx,ly]at h2 ⊢;have x1:Ext Ω (Ω.set r1 (.list (av (xs.take 14)))):= .fresh h1;have x2:=x1.then h2 (x:= .list (av [0,0,1,1,0,2]));have ht:(xs.take 14).length≤14:=by rw[List.length_take];exact Nat.min_le_left _ _
 refine uc (au aa.set_same h2) aa.set_same (by rw[aq];unfold lim;exact OT ht) (by simp[av,lim]) λr3 h3=>?_
 rw[dH];have x3:=x2.then h3 (x:= .list (av (xs.take 14++[0,0,1,1,0,2])));refine aX (.here aa.set_same (by decide) (by decide) (by rw[aq,List.length_append];simp[lim];exact RZ) λr4 h4=>?_);rw[Zx,ly];have x4:=x3.then h4 (x:= .list (av ((xs.take 14++[0,0,1,1,0,2]).take 14)));have g4:=aa.set_same (Ω:=(((Ω.set r1 (.list (av (xs.take 14)))).set r2 (.list (av [0,0,1,1,0,2]))).set r3 (.list (av (xs.take 14++[0,0,1,1,0,2]))))) (a:=r4) (o:= .list (av ((xs.take 14++[0,0,1,1,0,2]).take 14)));have hY:1≤((xs.take 14++[0,0,1,1,0,2]).take 14).length∧((xs.take 14++[0,0,1,1,0,2]).take 14).length≤14:=by
  rw[List.length_take,List.length_append];simp only[List.length_cons,List.length_nil];exact⟨Sa,Nat.min_le_left _ _⟩
 generalize ((((Ω.set r1 (.list (av (xs.take 14)))).set r2 (.list (av [0,0,1,1,0,2]))).set r3 (.list (av (xs.take 14++[0,0,1,1,0,2])))).set r4 (.list (av ((xs.take 14++[0,0,1,1,0,2]).take 14))))=gf at x4 g4;generalize (xs.take 14++[0,0,1,1,0,2]).take 14=Y at g4 hY;refine rH.list g4 ?_;refine iK (p:=r4) (av Y) (I:=λk ys st'=>st'.Ω=gf∧∃H:List Int,ys=av H∧H.length=k∧k≤14) ?_ ?_ ?_ ?_
 ·intro k ys st' aH;obtain⟨e1,_⟩:=aH;rw[e1];exact g4
 ·intro k x ys aH K hx bB hK;obtain⟨m',az⟩:=aH;obtain⟨e1,H,e2,e3,e4⟩:=bB
  dsimp only at e1;subst e1;obtain⟨t,ht,rfl⟩:=ez hx;have hk:k<Y.length:=by
   cases Nat.lt_or_ge k Y.length with
   |inl h=>exact h
   |inr h=>rw[List.getElem?_eq_none h]at ht;cases ht
  refine bN rfl ⟨.int t,rfl,aX (eu (by decide) (by decide) ⟨by rw[e2,aq];unfold lim;exact Nat.lt_of_le_of_lt (Nat.le_of_eq e3) (Nat.lt_of_le_of_lt e4 (by decide)),hK _ _ ⟨rfl,H++[t%3],by rw[e2,cF],by rw[List.length_append,e3];rfl,Nat.le_trans hk hY.2⟩⟩)⟩
 ·intro ys aH bB r5 h5;obtain⟨m',az⟩:=aH;obtain⟨e1,H,e2,e3,e4⟩:=bB
  dsimp only at e1 h5;subst e1;rw[aq]at e3;rw[e2];exact h H r5 _ (e3▸hY.1) (Nat.le_trans (Nat.le_of_eq e3) hY.2) (x4.then h5) aa.set_same
 ·exact⟨rfl,[],rfl,rfl,Nat.zero_le _⟩
theorem wK(bf:BF prog w B)(bT:l<40){op:CmpOp}{bv:Bool}(hop:op= .Eq∧bv=true∨op= .NotEq∧bv=false){v1 v2:V}{pz p1 p2:Addr}{a b:List Int}{zs:List (Addr×Int×Int×Int)}{st:St}{R:Bool→St→Prop}
  (hn:st.m .named=some (.ref pz)) (m1:st.m v1=some (.ref p1)) (m2:st.m v2=some (.ref p2)) (hz:st.Ω pz=some (.list (refsOf zs))) (ht:bk .tup st.Ω zs) (hl:zs.length≤20) (h1:st.Ω p1=some (.list (av a))) (h2:st.Ω p2=some (.list (av b))) (ha:a.length≤7) (hb:b.length≤7)
  (hG:∀G,bz a b 0 a.length 0 b.length G→zs.map (·.2)=G.map gS) (h:∀az,Ext st.Ω az→R bv ⟨st.m,az⟩):
  ev prog w B l (plus (.var .named) (.fP (.dI (len (.var v1)) (len (.var v2)) (.int 0)))) (λx s1=>ev prog w B l (.call2 (.glob .dw) (.var v1) (.var v2)) (λy s2=>gm op x y (λr=>R r s2) s2.Ω) s1) st:=by
 obtain⟨m,Ω⟩:=st;dsimp only at hn m1 m2 hz ht h1 h2 h;refine⟨.ref pz,hn, .ref p1,m1,cj h1 (by unfold lim;exact O4 ha) ⟨.ref p2,m2,cj h2 (by unfold lim;exact O4 hb) λr1 n1 r2 n2=>?_⟩⟩;have n1:Ω r1=none:=n1;have x1:Ext Ω (Ω.set r1 (.tup [.int a.length, .int b.length, .int 0])):= .fresh n1;have x2:=x1.then n2 (x:= .list [.ref r1]);refine uc (x2 _ _ hz) aa.set_same (by rw[bL];unfold lim;exact F0 hl) (by simp[lim]) λr3 n3=>?_
 rw[eL zs r1 ((a.length:Int),(b.length:Int),(0:Int))];have x3:=x2.then n3 (x:= .list (refsOf (zs++[(r1,(a.length:Int),(b.length:Int),(0:Int))])));have g1:=au (au (aa.set_same (Ω:=Ω) (a:=r1) (o:= .tup [.int a.length, .int b.length, .int 0])) n2 (x:= .list [.ref r1])) n3 (x:= .list (refsOf (zs++[(r1,(a.length:Int),(b.length:Int),(0:Int))])));have g3:=aa.set_same (Ω:=((Ω.set r1 (.tup [.int a.length, .int b.length, .int 0])).set r2 (.list [.ref r1]))) (a:=r3) (o:= .list (refsOf (zs++[(r1,(a.length:Int),(b.length:Int),(0:Int))])));generalize (((Ω.set r1 (.tup [.int a.length, .int b.length, .int 0])).set r2 (.list [.ref r1])).set r3 (.list (refsOf (zs++[(r1,(a.length:Int),(b.length:Int),(0:Int))]))))=cV at x3 g1 g3;have Zy:bk .tup cV (zs++[(r1,(a.length:Int),(b.length:Int),(0:Int))]):=λz hz=>by
  rcases List.mem_append.mp hz with hz|hz
  ·exact x3 _ _ (ht z hz)
  ·rw[List.mem_singleton]at hz;subst hz;exact g1
 refine⟨.ref p1,m1, .ref p2,m2,aR (by decide) (FZ bT) (wA bf (Nat.lt_of_le_of_lt bT (by decide)) (x3 _ _ h1) (x3 _ _ h2) ha hb λr us G gf x4 n4 g4 t4 u4 l4 gr e4=>?_)⟩;refine BR hop ?_ (x4 _ _ g3) g4 (Zy.ext x4) t4 (by rw[List.length_append,List.length_singleton];exact Sb hl) (Nat.lt_of_le_of_lt l4 (by decide)) ?_ ?_ (h _ (x3.trans x4))
 ·exact aE g3 n4
 ·intro z hz u hu
  exact aE (Zy z hz) (u4 u hu)
 ·rw[e4,List.map_append,hG G gr];rfl
theorem BV{g:G}{a:ME}{R:af→St→Prop}{st:St}(h:ev prog w B l a (λx s1=>aZ prog w B l g.val [x] (λr Ω=>R r {s1 with Ω}) s1.Ω) st):ev prog w B l (.bH (.glob g) a) R st:=h
theorem BW(bf:BF prog w B)(bT:l<40){pr:Addr}{rs:List Rn}(hs:∀r∈rs,mV r)(hlen:rs.length≤20){st:St}{R:af→St→Prop}(hm:st.m .runs=some (.ref pr))(hp:st.Ω pr=some (.list (av (rs.map enc))))
  (h:∀r,st.Ω r=none→R (.ref r) ⟨st.m,st.Ω.set r (.list (av (rs.map λr=>enc r.sw)))⟩):ev prog w B l (.comp (.bH (.glob .eg) (.var .t)) .t .ex (.var .runs) .none) R st:=by
 obtain⟨m,Ω⟩:=st;dsimp only at hm hp h;refine⟨.ref pr,hm,?_⟩;refine rH.list hp ?_;refine iK (p:=pr) (av (rs.map enc)) (I:=λk ys st'=>st'.Ω=Ω∧ys=av ((rs.take k).map λr=>enc r.sw)) ?_ ?_ ?_ ?_
 ·intro k ys st' aH;obtain⟨e1,_⟩:=aH;rw[e1];exact hp
 ·intro k x ys aH K hx bB hK;obtain⟨m',az⟩:=aH;obtain⟨e1,e2⟩:=bB
  dsimp only at e1;subst e1;obtain⟨t,ht,rfl⟩:=ez hx;obtain⟨v,hv,rfl⟩:∃v,rs[k]?=some v∧enc v=t:=by
   rw[List.getElem?_map]at ht;cases q:rs[k]? with
   |none=>rw[q]at ht;cases ht
   |some v=>rw[q]at ht;cases ht;exact⟨v,rfl,rfl⟩
  have hvm:=List.mem_of_getElem? hv;refine bN rfl ⟨.int (enc v),rfl,aR (by decide) (FZ bT) (mY bf (hs v hvm) ⟨?_,hK _ _ ⟨rfl,?_⟩⟩)⟩
  ·rw[e2,aq,List.length_map]
   have:(rs.take k).length≤rs.length:=List.length_take_le' ..;unfold lim;exact Nat.lt_of_le_of_lt (Nat.le_trans this hlen) (by decide)
  ·rw[e2,cF,List.take_add_one,hv,List.map_append];rfl
 ·intro ys aH bB r hr;obtain⟨m',az⟩:=aH;obtain⟨e1,e2⟩:=bB
  dsimp only at e1 hr;subst e1;rw[aq,List.length_map,List.take_length]at e2;rw[e2];exact h r hr
 ·exact⟨rfl,rfl⟩
noncomputable def Nz:MS:=
 .ifs (.Ej (.cmp .NotEq (len (.var .best)) (len (.var .runs))) (.cmp .NotEq (.var .rounds) (.call2 (.glob .fF) (.var .one) (.var .other)))) (.ret (.bool false)) .nil<|
 sv .named (.call2 (.glob .e9) (.var .worths) (MX .best .u (.var .runs)))<|
 .ifs (.cmp .NotEq (plus (.var .named) (.fP (.dI (len (.var .one)) (len (.var .other)) (.int 0)))) (.call2 (.glob .dw) (.var .one) (.var .other))) (.ret (.bool false)) .nil<|
 sv .named (.call2 (.glob .e9) (.var .turned_worths) (MX .turned_best .u (.var .runs)))<|
 .ret (.cmp .Eq (plus (.var .named) (.fP (.dI (len (.var .other)) (len (.var .one)) (.int 0)))) (.call2 (.glob .dw) (.var .other) (.var .one)))
theorem FQ(bf:BF prog w B)(bT:l<39){c:LC}(C:lC c){k:Nat}{ds:List Int}{T:TD}{st:St}(I:WI c k [] ds T st){QQ:bl→St→Prop}(hq:∀st',QQ (.ret (.bool true)) st'):exs prog w B l Nz QQ st:=by
 obtain⟨hk,hdl,hall⟩:=I.end C;obtain⟨m,fC⟩:=st;have L:=C.L;have hlen:=L.len;have b0:Ext c.bA fC:=I.lt.base C;obtain⟨epb,hbd⟩:=I.lt.bd;obtain⟨Yb,htd⟩:=I.lt.td;obtain⟨X8,hw⟩:=L.hw;obtain⟨epu,hu⟩:=L.ht;have R:=I.R;have Zz:=I.ro;dsimp only at R hbd htd Zz;have zk:c.xs.length=c.rs.length:=List.length_map ..;refine⟨.ref c.rA,R.be,len_dict hbd (by rw[List.length_map];unfold lim;exact Nat.lt_of_le_of_lt (Nat.le_of_eq hdl) (Nat.lt_of_le_of_lt hlen (by decide))) ⟨.ref c.pr,R.M.runs,cj (b0 _ _ L.hr) (by rw[List.length_map];unfold lim;exact F0 hlen) (ua (aM ?_ ?_))⟩⟩
 ·rw[List.length_map,List.length_map,hdl];simp
 refine⟨.int k,Zz, .ref c.pa,R.M.one, .ref c.pb,R.M.other,aR (by decide) (Pb bT) (um bf (b0 _ _ L.ha) (b0 _ _ L.hb) L.la L.lb λYd x6=>ua (aM ?_ ?_))⟩
 ·rw[←hk];simp
 have x6:Ext fC Yd:=x6;have b6:=b0.trans x6;refine⟨.ref c.pw,R.M.worths,?_⟩;refine uw (vb:= .best) (vx:= .u) (by decide) (f:=c.fb) (ts:=c.xs) (pl:=c.pr) R.be (x6 _ _ hbd) (b6 _ _ L.hr) hall (Nat.lt_of_le_of_lt (Nat.le_of_eq zk) (Nat.lt_of_le_of_lt hlen (by decide))) (λR' az x h=>⟨.ref c.pr,R.M.runs,h⟩) λΩ7 x7=>?_
 dsimp only at x7;have b7:=b6.trans x7;have ksl:c.ks.length≤20:=by have:=L.kp.length_eq;rw[List.length_map]at this;exact O0 this hlen
 have ktl:c.kt.length≤20:=by have:=L.tp.length_eq;rw[List.length_map]at this;exact O0 this hlen
 refine aR (by decide) (Pb bT) (qa bf (b7 _ _ hw) L.ka ksl λr8 Ω8 zs x8 n8 g8 t8 u8 l8 p8 s8=>?_);have b8:=b7.trans x8;have e8:kE (c.xs.map c.fb)=top c.rs (λr=>wt c.ks (enc r)):=Hp L.qU _;rw[e8]at p8;refine wK bf (Nat.lt_succ_of_lt bT) (.inr ⟨rfl,rfl⟩) (v1:= .one) (v2:= .other) (zs:=zs) (st:=⟨m.set .named (.ref r8),Ω8⟩) rfl R.M.one R.M.other g8 t8 l8 (b8 _ _ L.ha) (b8 _ _ L.hb) L.la L.lb (λG hG=>?_) λΩ9 x9=>aM rfl ?_
 ·refine iJ s8 (gE hG.chain λv hv=>(hG.all v hv).1.1) (p8.trans ?_)
  exact pW L.la L.lb L.run L.ka L.kp hG
 dsimp only at x9;have b9:=b8.trans x9;have y9:Ext fC Ω9:=((x6.trans x7).trans x8).trans x9;refine⟨.ref c.pt,R.M.tw,?_⟩;refine uw (vb:= .turned_best) (vx:= .u) (by decide) (f:=c.ft) (ts:=c.xs) (pl:=c.pr) R.te (y9 _ _ htd) (b9 _ _ L.hr) hall (Nat.lt_of_le_of_lt (Nat.le_of_eq zk) (Nat.lt_of_le_of_lt hlen (by decide))) (λR' az x h=>⟨.ref c.pr,R.M.runs,h⟩) λΩ10 Om=>?_
 dsimp only at Om;have ZA:=b9.trans Om;refine aR (by decide) (Pb bT) (qa bf (ZA _ _ hu) L.ta ktl λr11 Yh zs' x11 YU Jy t11 Yu l11 ZC s11=>?_);have ZD:=ZA.trans x11;have e11:kE (c.xs.map c.ft)=top c.rs (λr=>wt c.kt (enc r.sw)):=Hp L.qU _;rw[e11]at ZC;refine wK bf (Nat.lt_succ_of_lt bT) (.inl ⟨rfl,rfl⟩) (v1:= .other) (v2:= .one) (zs:=zs') (st:=⟨(m.set .named (.ref r8)).set .named (.ref r11),Yh⟩) rfl R.M.other R.M.one Jy t11 l11 (ZD _ _ L.hb) (ZD _ _ L.ha) L.lb L.la (λG hG=>?_) λΩ12 x12=>hq _
 refine iJ s11 (gE hG.chain λv hv=>(hG.all v hv).1.1) (ZC.trans ?_);exact qW L.la L.lb L.run L.ta L.tp hG
theorem Eh(bf:BF prog w B)(bT:l<38){p:Addr}{xs:List Int}{items:Array Value}{n0:Nat}(hp:Ω p=none){o:Obj}(hB:B p=some o)(hc:o.cls= .type "list")(hd:o.data= .seq items n0)(hv:aP items.toList (av xs))(hl:xs.length<1000)(hq:∀az,Q (.bool true) az):aF prog w B l (.ref 444) [.ref p] Q Ω:=by
 refine Dr bf ?_;refine zp (p:=p) rfl hp hB hc hd hv hl λLL pl FT hL1 ZE xa ga=>?_
 show exs prog w B l _ _ _;show ev prog w B l (.comp (.idx (.var .letters) (.var .k)) .k .nX (.int 0) (len (.var .letters))) _ _;show ev prog w B l (.comp (.idx (.var .letters) (.var .k)) .k .nX (.int (0:Nat)) (len (.var .letters))) _ ⟨(bindM [.script] [.ref p]).set .letters (.ref pl),FT⟩;refine Ad (s0:=0) (by decide) (pl:=pl) (L:=LL) (st:=⟨(bindM [.script] [.ref p]).set .letters (.ref pl),FT⟩) ZE (HC) rfl ga λa pa hla na=>?_
 dsimp only at na;have xb:Ext FT (FT.set pa (.list (av a))):= .fresh na;refine⟨.ref pa,rfl,?_⟩;show ev prog w B l (.comp (.idx (.var .letters) (.var .k)) .k .nX (.int 1) (len (.var .letters))) _ _;show ev prog w B l (.comp (.idx (.var .letters) (.var .k)) .k .nX (.int (1:Nat)) (len (.var .letters))) _ ⟨((bindM [.script] [.ref p]).set .letters (.ref pl)).set .one (.ref pa),FT.set pa (.list (av a))⟩;refine Ad (s0:=1) (by decide) (pl:=pl) (L:=LL) (st:=⟨((bindM [.script] [.ref p]).set .letters (.ref pl)).set .one (.ref pa),FT.set pa (.list (av a))⟩) ZE (hL1) rfl (xb _ _ ga) λb' OF hlb nb=>?_
 dsimp only at nb;have xc:=xb.then nb (x:= .list (av b'));have gb:((FT.set pa (.list (av a))).set OF (.list (av b'))) OF=some (.list (av b')):=aa.set_same;have GH:((FT.set pa (.list (av a))).set OF (.list (av b'))) pa=some (.list (av a)):=au aa.set_same nb;generalize ((FT.set pa (.list (av a))).set OF (.list (av b')))=Ωc at xc gb GH;refine aR (by decide) (JN bT) (Bv bf (HD bT) GH gb hla hlb λt pr pb J Ωd xd nr hJ hrl gt gr go=>?_);refine zX gt rfl ?_;have wz:(b'.take J).length≤7:=by rw[List.length_take];exact Vf hlb
 have qx:∀r,r∈zc a b' J↔Run a (b'.take J) r:=DR hJ
 have hnd:=se (a:=a) hJ;have gad:=xd _ _ GH;generalize zc a b' J=rs at hrl gr qx hnd;generalize b'.take J=b at go wz qx;have hsm:∀r∈rs,mV r:=λr hr=>((qx r).mp hr).qU hla wz
 refine⟨.ref pr,rfl,aR (by decide) (JN bT) (mZ bf (HD bT) gr (eo (λx hx y hy=>kc (hsm x hx) (hsm y hy)) hnd) (by rw[List.length_map];exact Nat.le_add_left_of_le hrl) λpw Yi X8 ks xe ne ge kp ka=>?_)⟩;show exs prog w B l _ _ _;refine BV (BW (l:=l) bf (HE bT) hsm hrl (pr:=pr) rfl (xe _ _ gr) λptl NB=>?_);dsimp only at NB;have xf:Ext Yi (Yi.set ptl (.list (av (rs.map λr=>enc r.sw)))):= .fresh NB;have hsw:∀r∈rs,mV r.sw:=λr hr=>((qx r).mp hr).sw.qU wz hla
 refine aR (by decide) (JN bT) (mZ bf (HD bT) (aa.set_same (Ω:=Yi)) (eo (λx hx y hy h=>?_) hnd) (by rw[List.length_map];exact Nat.le_add_left_of_le hrl) λpt bA Yb kt x1 npt gpt tp ta=>?_)
 ·have:=kc (hsw x hx) (hsw y hy) h
  have:=congrArg Rn.sw this;exact this
 have e1:Ext Ωd bA:=(xe.trans xf).trans x1;have L:LS bA a b rs ks kt pa pb pr pw pt:=⟨e1 _ _ gad,e1 _ _ go,e1 _ _ gr,⟨X8,(xf.trans x1) _ _ ge⟩,⟨Yb,gpt⟩,hla,wz,qx,hnd,hrl,kp,ka,tp,ta⟩;intro gP JB;have JB:bA gP=none:=JB;refine aR (by decide) (JN bT) (FJ bf (Nat.lt_of_le_of_lt bT (by decide)) λT0 cV x3 H3 w3 ns3 k3 np3 sc3 ZF mp3 mf3=>?_);have x3:Ext (bA.set gP (.dict 0 [])) cV:=x3;have w3:∀a,T0.W a→(bA.set gP (.dict 0 [])) a=none:=w3
 have zk:(rs.map enc).length=rs.length:=List.length_map ..;have Hh:¬T0.W gP:=λh=>by have:=w3 _ h;rw[aa.set_same]at this;cases this
 have w0:∀z,T0.W z→bA z=none:=λz h=>by
  have h1:=w3 z h;have:z≠gP:=λq=>Hh (q▸h)
  rwa [aa.ai this]at h1
 have A0:AO bA (rs.map enc) gP T0 0 T0 0 (λaj=>0) cV:=by
  refine⟨rfl,rfl,rfl,H3,(Ext.fresh JB).trans x3,w0,λv hv=>?_,λv hv=>(nomatch hv),λv hv=>?_,λp=>?_,Hh,x3 _ _ aa.set_same,λv hv=>(nomatch hv)⟩
  ·rw[ns3]at hv;cases hv
  ·rw[np3];simp
  ·rw[sc3];simp
 refine⟨.ref pr,rfl,rH.list (A0.e _ _ L.hr) ?_⟩;refine BS bf (HE bT) L JB (T0:=T0) ⟨rfl,rfl,rfl,rfl,rfl⟩ rfl rfl ZF A0 λYO T4 XX ah4 M4 h4 s4 A4=>?_
 obtain⟨m4,gf⟩:=YO;dsimp only at M4 h4 s4 A4;have htk:(rs.map enc).take rs.length=rs.map enc:=by rw[←zk];exact List.take_length
 have sup:=A4.sup;have ZG:=A4.np;have ZH:=A4.sc;have I9:=A4.OD;have Yj:=A4.al;rw[htk]at sup ZG ZH I9 Yj;have H4:=A4.H;have hmem:∀v,v∈T4.ns↔v∈rs.map enc:=λv=>⟨A4.sub v,sup v⟩
 have Yk:T4.sc=wN (rs.map enc) AI:=funext λp=>ZH p
 have hnl:T4.ns.length≤20:=by have:=fj H4.nd A4.sub;exact NV zk this hrl
 refine⟨.ref T0.s,s4, .ref 317,by rw[←A4.s];exact fN H4.hs H4.hd rfl,aR (by decide) (JN bT) ?_⟩;rw[←A4.s];refine ur bf (Nat.lt_of_le_of_lt bT (by decide)) H4 (rk:=rz rs) (λu hu v hv=>?_) hnl (λv=>?_) (by rw[A4.m];exact ZF) (by have:=A4.kk;exact Nat.lt_of_le_of_lt (Nat.le_of_eq this) (Nat.lt_of_le_of_lt k3 (by decide))) (po:=0) (fi:=0) (by rw[A4.m];exact mp3) (by rw[A4.m];exact mf3) λpR zV W5 m5 n5 H5 Q5 x5=>?_
 ·have mz:=A4.sub u hu
  rw[Yk]at hv;have hv:v∈(rs.map enc).filter (AI u):=by rw[show wN (rs.map enc) AI u=(rs.map enc).filter (AI u)from if_pos mz]at hv;exact hv
  obtain⟨v1,v2⟩:=List.mem_filter.mp hv;exact⟨sup v v1,L.rk.lt u mz v v1 v2⟩
 ·rw[Yk]
  unfold wN
  split
  ·have:=List.length_filter_le (AI v) (rs.map enc);exact NV zk this hrl
  ·exact Nat.zero_le _
 dsimp only;intro rA Yl Ac NC;dsimp only at Yl NC;have ZI:Ext zV (zV.set rA (.dict 0 [])):= .fresh Yl;have Ym:=ZI.none NC;have x6:=ZI.then NC (x:= .dict 0 []);have N8:rA≠Ac:=aE aa.set_same NC;have e5:Ext bA zV:=λz o hz=>x5.keep z o (λh=>by rw[A4.w z h]at hz;cases hz) (A4.e z o hz)
 have w5:∀z,W5 z→bA z=none:=λz h=>by
  rcases x5.new z h with h1|h1
  ·exact A4.w z h1
  ·exact A4.e.none h1
 let c:LC:=⟨a,b,rs,ks,kt,pa,pb,pr,pw,pt,gP,ah4,T4.s,W5,pR,rA,Ac,bA,zV⟩
 have C:lC c:=⟨L,e5,w5,H5.own,(x5.hold A4.Hh I9).1,⟨XX,(x5.hold A4.Hh I9).2⟩,λu hu=>x5.hold (Yj u hu).1 (Yj u hu).2,Yl,Ym,N8⟩;have s4':m4 .sorter=some (.ref T4.s):=by rw[A4.s];exact s4
 have I0:WI c 0 (T4.ns.filter λv=>decide (T4.np v=0)) [] {T4 with W:=W5,k:=T4.k+1,m:=m5} ⟨((m4.set .best (.ref rA)).set .turned_best (.ref Ac)).set .rounds (.int 0),(zV.set rA (.dict 0 [])).set Ac (.dict 0 [])⟩:=by
  refine⟨⟨⟨M4.one,M4.other,M4.runs,M4.worths,M4.tw⟩,h4,s4',rfl,rfl⟩,rfl,rfl,rfl,Yk,hmem,H5.ext x6,Q5.frame (ux H5.own x6),?_,⟨fh.ext x6,⟨0,au aa.set_same NC⟩,⟨0,aa.set_same⟩⟩,List.nodup_nil,λv=>?_, .inl rfl,Nat.le_refl _,?_⟩
  ·refine RS.first L.rk H4.nd hmem λv hv=>?_
   rw[ZG v hv,if_pos hv]
  ·constructor
   ·intro h;cases h
   ·intro aH;obtain⟨h1,h2⟩:=aH
    have:=L.rk.pos v h1;exact absurd h2 (by show ¬rz rs v≤0;exact JQ this)
  ·have:=A4.kk
   show T4.k+1≤_;exact Vg this k3
 exact wJ bf (HE bT) C I0 λst7 k7 ds7 T7 I7=>FQ bf (Nat.lt_succ_of_lt bT) C I7 λst8=>hq st8.Ω
end
end
section
open PySem PySem.W PySem.W.X PySem.Calls PyProof.Rows
def ND(R:WRecords)(cl:Str→Option Addr)(h:Heap)(vs:List Value):List WData→Prop
 |[]=>vs=[]
 |d::ds=>∃v vs' as bs,vs=v::vs'∧ReadsW R cl h v d as∧ReadsAllW R cl h vs' ds bs
def NF(R:WRecords)(cl:Str→Option Addr)(h:Heap)(v:Value):WData→Prop
 | .int i=>∃t,v= .int i t
 | .list xs=>∃p o items c as,v= .ref p∧h.get? p=some o∧o.cls= .type "list"∧o.data= .seq items c∧ReadsAllW R cl h items.toList xs as
 |_=>True
theorem uy{R:WRecords}{cl:Str→Option Addr}{h:Heap}{vs:List Value}{ds:List WData}{as:List Addr}(r:ReadsAllW R cl h vs ds as):ND R cl h vs ds:=by
 cases r with
 |nil=>rfl
 |cons h1 h2=>exact⟨_,_,_,_,rfl,h1,h2⟩
theorem Ei{R:WRecords}{cl:Str→Option Addr}{h:Heap}{v:Value}{d:WData}{as:List Addr}(r:ReadsW R cl h v d as):NF R cl h v d:=by
 cases r with
 |int=>exact⟨_,rfl⟩
 |list a b c d=>exact⟨_,_,_,_,_,rfl,a,b,c,d⟩
 |_=>exact trivial
theorem readsW_ints{R:WRecords}{cl:Str→Option Addr}{h:Heap}{ns:List Int}:∀{vs:List Value} {as:List Addr},ReadsAllW R cl h vs (ns.map .int) as→aP vs (av ns):=by
 induction ns with
 |nil=>
  intro vs as r;have e:vs=[]:=uy r;subst e;exact trivial
 |cons n ns ih=>
  intro vs as r;obtain⟨v,vs',as,bs,rfl,h1,h2⟩:=uy r;obtain⟨t,rfl⟩:=Ei h1;exact⟨⟨_,rfl⟩,ih h2⟩
theorem FU{R:WRecords}{cl:Str→Option Addr}{h:Heap}{vals:List Value}{ns:List Int}{as:List Addr}(r:ReadsAllW R cl h vals [.list (ns.map .int)] as):
  ∃p o items c,vals=[.ref p]∧h.get? p=some o∧o.cls= .type "list"∧o.data= .seq items c∧aP items.toList (av ns):=by
 obtain⟨v,vs',as,bs,e,h1,h2⟩:=uy r;obtain⟨p,o,items,c,as,e',a,b,d,f⟩:=Ei h1;have e2:vs'=[]:=uy h2;exact⟨p,o,items,c,by rw[e,e',e2],a,b,d,readsW_ints f⟩
theorem walk:WalkX qV kF (XL qV []) (λs=>rB.map s.heap.get?) (λw=>(KF w.params).map λp=>some p.2) qm.row.toRowW dR [] (λf vs=>PySem.call f vs):=by
 intro w s₀ s₁ mg mb G Y a o pm cd doc dV kV hao hod hcode hdfl hmg hgens args vals as L hpre hlay Ja ZJ hlow;obtain⟨ns,rfl,hlen⟩:=Ca hpre;obtain⟨p,po,items,c,rfl,hp,hc,hd,hv⟩:=FU Ja;have X:(KF w.params).In s₁.heap:=(kf_in Y).keeps L.keeps;have bf:BF qm.row.toRowW.prog w s₁.heap.get?:=MM X G.T.b G.T.builtins G.T.nolimit;have ha:a=444:=by
  obtain⟨og,es,ep,g1,g2,g3,g4⟩:=G.T.g;have g5:s₁.heap.get? mainGlobals=some (Lq w.params):=X _ _ (by kernel_rfl!);rw[g5]at g1;cases g1;have g6:=g4 dR.name;rw[HU w.params g2,hmg]at g6;cases g6;rfl
 subst ha;have R:aA qm.row.toRowW.prog w s₁.heap.get? ⟨s₁.os,λaj=>False⟩ (λaj=>none) s₁:=
  ⟨hgens,rfl,λa o e=>⟨o,e,Kp.refl o⟩,λa o e=>(nomatch e),λa h=>absurd rfl h,⟨mainGlobals,Lq w.params,by decide,X _ _ (by kernel_rfl!)⟩,rfl,λa h=>h.elim⟩
 have spec:=Eh (l:=0) (Ω:=λaj=>none) (Q:=λx aj=>x= .bool true) bf (by decide) (p:=p) (xs:=ns) rfl hp hc hd hv (Nat.lt_of_le_of_lt hlen (by decide)) λaj=>rfl
 have hroom:qo 0 callerA:=⟨rfl,by decide,by decide,rfl,(by decide)⟩;refine wpAny_call (codeAny_mono (spec s₁.heap.get? ⟨s₁.os,λaj=>False⟩ callerA s₁ (.ref 444) [.ref p] (λa o e=>⟨e,id⟩) ⟨[],rfl,λe he=>nomatch he⟩ hroom rfl ⟨rfl,trivial⟩ R) λr s' q=>?_)
 rcases r with e|(v|_|_|_)<;>first|exact q.elim|skip
 obtain⟨x,az,h1,h2,rfl⟩:=q;cases h1;refine⟨.inl ⟨_, .bool true,[],rfl,λcls=>rfl, .bool true,Cb,unshared_nil⟩, .of_keep λb ob e=>?_,h2.os, .of_eq ?_⟩
 ·obtain⟨o',k1,k2⟩:=h2.kept b ob e
  rw[k2.eq id]at k1;exact k1
 ·rw[h2.gens]
end
end Mine.Internal
theorem PySem.Challenge.cw_om0200_01_holds : PySem.Challenge.rw_om0200_01.Holds :=
 Mine.Internal.LP▸Mine.Internal.head Mine.Internal.walk
