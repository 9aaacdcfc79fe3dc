import PyProof.Rows.All
import PyProof.TableCode
import PyProof.Rows.Walk
import KE.KBoundM
import KE.LcTurns
import KE.KFromBytes
import KE.KTryDeep
import Wide.FinOn
import OpenK.AllK
import Wide.All
import PySem.Challenge.RW_kt0075_01
set_option Elab.async false
set_option maxRecDepth 100000
set_option autoImplicit false
set_option linter.unusedVariables false
set_option linter.unusedSimpArgs false
set_option backward.match.sparseCases false
set_option maxHeartbeats 0
set_option compiler.extract_closed false
set_option genSizeOf false
set_option genInjectivity false
set_option tactic.hygienic false
section
set_option backward.match.sparseCases true
set_option Elab.async false
namespace Mine.Internal
def ab(k b s:String):String:=b.intercalate (s.splitOn k)
def nd(k:Lean.Name)(l:List Lean.Syntax):Lean.Syntax:=.node .none k l.toArray
def kT(s:String)(l:List Lean.Syntax):Lean.Syntax:=nd (.str `Lean.Parser.Tactic s) l
def nu(l:List Lean.Syntax):Lean.Syntax:=nd `null l
def at'(s:String):Lean.Syntax:=.atom .none s
def sq(l:List Lean.Syntax):Lean.Syntax:=kT "tacticSeq" [kT "tacticSeq1Indented" [nu l]]
def fl(o:String):Lean.Syntax:=kT "fail" [at' "fail",nu [Lean.Syntax.mkStrLit ("!"++o)]]
def na(s:String):Nat:=s.toNat?.getD 0
def ho(x:Lean.Syntax):Lean.Syntax:=nd (.str `Lean.Parser.Term "syntheticHole") [at' "?",x]
def rw'(a l:List Lean.Syntax)(e:Lean.Name)(w o:String)(n:Nat):Lean.Syntax×Nat:=
 let t:=(l.take n).reverse;let z:Lean.Syntax:=Lean.mkIdent (e.str o);let i:Lean.Syntax:=Lean.mkIdent o.toName
 if w = "'" then (at' o,0)
 else if w = "|" then (nd `group [at' "|",sq [fl o]],0)
 else if w = "?" then (ho (if o = "_" then at' o else z),0)
 else if w = "i" then (i,0)
 else if w = ":" then (nd (.str `Lean.Parser.Term "namedArgument") [at' "(",i,at' ":=",ho z,at' ")"],0)
 else if w = "R" then (kT "withReducible" [at' "with_reducible",sq [kT "refine" [at' "refine",nd (.str `Lean.Parser.Term "app") [(l.drop n).headD .missing,nu t]]]],n+1)
 else if w = ">" then (fl o,0)
 else if w = "c" then (kT "case" [at' "case",nu [kT "caseArg" [nd `Lean.binderIdent [z],nu []]],at' "=>",sq [l.headD .missing]],1)
 else if w = "Q" then (sq t,n)
 else if w = "P" then (kT "paren" [at' "(",sq t,at' ")"],n)
 else if w = "F" then (kT "first" [at' "first",nu t],n)
 else if w = "$" then (a.getD n .missing,0)
 else let n:=na w;(nd o.toName (l.take n).reverse,n)
def rd(a:List Lean.Syntax)(e:Lean.Name)(s:String):List Lean.Syntax:=
 ((s.splitOn " ").foldl (fun p o=>if p.1 = "" then (o,p.2) else
  let r:=rw' a p.2 e p.1 o (na o)
  ("",r.1::p.2.drop r.2)) ("",[])).2
def ex(s:String):String:=ab "^" "Lean.Parser.Term." (ab "~" "Lean.Parser.Tactic." (ab "@" "' by ' with_reducible ' assumption 1 ~assumption Q 1 2 ~withReducible Q 1 2 ^byTactic" (ab "+" " " s)))
def mt(a:List Lean.Syntax)(x:Lean.Syntax)(k q:String):Lean.MacroM Lean.Syntax:=do
 let e ← Lean.Macro.addMacroScope `z;let y:=rd a e q
 if y.length=1&&(k = "" || x.structEq ((rd a e (ex k)).headD .missing)) then return y.headD .missing else Lean.Macro.throwUnsupported
def mf(x:Lean.Syntax):Lean.MacroM Lean.Syntax:=
 let s:=((x[1][0].isStrLit?.getD "").splitOn "!").getD 1 "";let v:=if (s.splitOn "+").length=1 then ((("`rfl#'+rfl+1+~tacticRfl`as#'+with_reducible+'+assumption+1+~assumption+Q+1+2+~withReducible`dec#'+exact+i+of_decide_eq_true+i+rfl+1+null+2+^app+2+~exact`ne#'+first+'+|+'+omega+0+null+1+~optConfig+2+~omega+Q+1+2+group+'+|+'+(+'+simp+0+null+1+~optConfig+0+null+'+only+1+null+'+[+0+null+0+null+i+List.length_append+3+~simpLemma+'+,+0+null+0+null+i+List.length_cons+3+~simpLemma+'+,+0+null+0+null+i+List.length_nil+3+~simpLemma+5+null+'+]+3+null+0+null+6+~simp+'+;+'+omega+0+null+1+~optConfig+2+~omega+Q+3+'+)+3+~paren+Q+1+2+group+2+null+2+~first`orl#| i+Or.inl+i+rfl+R+1 | i+Or.inr+i+rfl+R+1 F 2`lk#| as | i+uOt+'+_+1+^hole+'+_+1+^hole+'+_+1+^hole+R+3 | i+uZ9+?+0+?+_+R+2+'+;+>+rfl+c+0+'+;+>+lk+P+5 | rfl F 4`hp#| as | i+uAl+'+_+1+^hole+'+_+1+^hole+R+2 | i+uAh+?+_+R+1+'+;+>+hp+P+3 | i+set_same+:+o+?+1+R+2+'+;+>+hp+c+1+P+3 | i+uAa+?+0+?+_+R+2+'+;+>+ne+c+0+'+;+>+hp+P+5 | i+uUi+@+?+_+R+2+'+;+>+hp+P+3 | i+uSf+@+?+1+?+_+R+3+'+;+>+ne+c+1+'+;+>+hp+P+5 F 7`ex#| as | i+Ext.refl+'+_+1+^hole+R+1 | i+uVk+?+_+R+1+'+;+>+ex+P+3 | i+Ext.trans+?+_+@+R+2+'+;+>+ex+P+3 F 4`c7#| i+ltsk+@+@+@+R+3 | i+gm+@+@+R+2 | i+m7+@+@+i+rfl+R+3 | i+m8+@+@+i+rfl+R+3 | i+eqt+@+@+R+2 | i+Nat.sub_le+'+_+1+^hole+'+_+1+^hole+R+2 | i+ltd+@+R+1 F 7`c6#| i+ltle+@+i+rfl+R+2 | i+ltlel+@+@+i+rfl+R+3 | i+lteq+@+R+1 | i+lemin+@+R+1 | i+ltmr+@+R+1 | i+Nat.le_antisymm+@+@+R+2 | i+Nat.not_lt_of_le+@+@+R+2 | i+neapp+?+0+R+1+'+;+>+ltap+c+0+P+3 | c7 F 9`c5#| i+ltx+@+@+R+2 | i+nex+@+@+R+2 | i+nex3+@+@+R+2 | i+nexb+@+@+@+R+3 | i+nexb'+@+@+@+R+3 | i+nel3+@+i+rfl+R+2 | i+eqls+@+@+R+2 | i+lele+@+i+rfl+R+2 | c6 F 9`c4#| i+nek3'+@+i+rfl+R+2 | i+nek0+i+rfl+R+1 | i+ltk3+i+rfl+R+1 | i+ltn0+i+rfl+R+1 | i+lexr+@+R+1 | i+lex3+@+R+1 | i+lexa+@+@+R+2 | i+lexl+@+@+R+2 | c5 F 9`c3#| i+Nat.le_of_lt+@+R+1 | i+Nat.le_trans+@+@+R+2 | i+Nat.lt_of_lt_of_le+@+@+R+2 | i+Nat.lt_of_le_of_lt+@+@+R+2 | i+lta+@+R+1 | i+ltn+@+i+rfl+R+2 | i+ltsub+@+@+'+by+'+decide+0+null+1+~optConfig+2+~decide+Q+1+2+^byTactic+R+3 | i+nek3+@+i+rfl+R+2 | c4 F 9`c2#| i+nel+@+R+1 | i+nel'+@+R+1 | i+nelb+@+@+R+2 | i+nelb'+@+@+R+2 | i+nell+@+@+R+2 | i+nell'+@+@+R+2 | i+nec+@+@+@+i+rfl+R+4 | i+lec0+@+@+R+2 | c3 F 9`c1#| i+nek+i+rfl+i+rfl+i+rfl+R+3 | i+ne0+i+rfl+i+rfl+R+2 | i+ne0'+i+rfl+i+rfl+R+2 | i+lek+@+R+1 | i+lek+i+rfl+R+1 | i+ltkj+@+i+rfl+R+2 | i+ltkk+@+@+i+rfl+R+3 | i+ltkj+i+rfl+i+rfl+R+2 | c2 F 9`om#| i+Nat.ne_of_lt+@+R+1 | i+gtn+@+R+1 | i+Ne.symm+@+R+1 | i+nek+@+@+i+rfl+R+3 | i+ne0+@+i+rfl+R+2 | i+ne0'+@+i+rfl+R+2 | i+nek+@+i+rfl+i+rfl+R+3 | i+nek+i+rfl+@+i+rfl+R+3 | c1 F 9`ltap#| as | i+ltapp+?+0+R+1+'+;+>+ltap+c+0+P+3 | i+ltkk+@+@+i+rfl+R+3 | i+ltc+@+@+@+i+rfl+R+4 | i+Nat.lt_of_lt_of_le+@+@+R+2 F 5`c22#| i+uRr+?+_+R+1 | i+u0e+?+_+R+1 | i+uX9+:+l+:+h+?+2+?+3+?+_+R+5+'+;+>+rfl+c+2+'+;+>+rfl+c+3+P+5 | i+uF1+:+i+:+o+?+2+?+3+?+4+?+_+R+6+'+;+>+rfl+c+2+'+;+>+rfl+c+3+'+;+>+hp+c+4+P+7 | i+u07+:+id+?+1+?+_+R+3+'+;+>+rfl+c+1+P+3 | i+uYy+?+0+?+_+R+2+'+;+>+rfl+c+0+P+3 | i+uZg+:+b+?+1+?+_+R+3+'+;+>+rfl+c+1+P+3 | i+uZo+:+xs+?+1+?+2+?+_+R+4+'+;+>+rfl+c+1+'+;+>+hp+c+2+P+5 F 8`c21#| i+uWs+?+_+R+1 | i+u0g+?+_+R+1 | i+uR2+?+_+R+1 | i+uSb+?+_+R+1 | i+uXp+?+_+R+1 | i+uTr+?+_+R+1 | i+uW0+?+_+R+1 | i+uZc+?+_+R+1 | c22 F 9`c20#| i+uRn+?+_+R+1 | i+b_pop+?+_+R+1 | i+uWa+?+_+R+1 | i+u1e+?+_+R+1 | i+uQ6+?+_+R+1 | i+uZv+?+_+R+1 | i+uWo+?+_+R+1 | i+uNt+?+_+R+1 | c21 F 9`c19#| i+u0h+?+_+R+1 | i+u0u+?+_+R+1 | i+u1f+?+_+R+1 | i+u0l+?+_+R+1 | i+uV6+?+_+R+1 | i+uTc+?+_+R+1 | i+uZt+?+_+R+1 | i+uX2+?+_+R+1 | c20 F 9`c18#| i+c_lt+?+_+R+1 | i+c_ge+?+_+R+1 | i+uZ8+?+_+R+1 | i+u0c+?+_+R+1 | i+u0k+?+_+R+1 | i+u0p+?+_+R+1 | i+c_in+?+_+R+1 | i+uVg+?+_+R+1 | c19 F 9`c17#| i+uY0+?+0+?+_+R+2+'+;+>+rfl+c+0+P+3 | i+uZy+?+0+?+_+R+2+'+;+>+rfl+c+0+P+3 | i+u1d+?+_+R+1 | i+uYu+?+_+R+1 | i+uP8+?+_+R+1 | i+uQn+?+_+R+1 | i+uV0+?+_+R+1 | i+uV4+?+_+R+1 | c18 F 9`c16#| i+u1h+?+_+R+1 | i+u1b+?+_+R+1 | i+uUj+?+_+R+1 | i+uTd+?+_+R+1 | i+uY3+?+_+R+1 | i+in_str+?+_+R+1 | i+uUu+?+_+R+1 | i+uTe+?+_+R+1 | c17 F 9`c15#| i+uZp+?+0+?+_+R+2+'+;+>+rfl+c+0+P+3 | i+u0w+?+_+R+1 | i+uM3+?+_+R+1 | i+uUm+?+_+R+1 | i+uZf+?+0+?+_+R+2+'+;+>+rfl+c+0+P+3 | i+uU8+?+_+R+1 | i+uT6+?+_+R+1 | i+uP2+?+_+R+1 | c16 F 9`c14#| i+uXf+?+_+R+1 | i+u06+?+_+R+1 | i+uZs+?+_+R+1 | i+uXj+?+_+R+1 | i+u0y+?+_+R+1 | i+u0a+?+_+R+1 | i+uXg+?+_+R+1 | i+uSm+?+_+R+1 | c15 F 9`c13#| i+s_pass+?+_+R+1 | i+uQ0+?+_+R+1 | i+uZ2+?+_+R+1 | i+uXc+?+0+?+_+R+2+'+;+>+rfl+c+0+P+3 | i+uYn+?+0+?+1+?+_+R+3+'+;+>+rfl+c+0+'+;+>+rfl+c+1+P+5 | i+u0x+?+0+?+_+R+2+'+;+>+rfl+c+0+P+3 | i+uYt+?+0+?+_+R+2+'+;+>+rfl+c+0+P+3 | i+uYz+?+0+?+_+R+2+'+;+>+rfl+c+0+P+3 | c14 F 9`c12#| i+uXm+?+0+?+_+R+2+'+;+>+rfl+c+0+P+3 | i+u0r+?+_+R+1 | i+u0n+?+0+?+_+R+2+'+;+>+rfl+c+0+P+3 | i+uXl+?+_+R+1 | i+uVt+?+0+?+_+R+2+'+;+>+rfl+c+0+P+3 | i+uZq+?+0+?+_+R+2+'+;+>+rfl+c+0+P+3 | i+u0j+?+_+R+1 | i+uXz+?+_+R+1 | c13 F 9`c11#| i+u0s+?+_+R+1 | i+uU0+?+_+R+1 | i+uR9+?+_+R+1 | i+uXt+?+_+R+1 | i+uWc+?+_+R+1 | i+u0o+?+_+R+1 | i+t_or+?+_+R+1 | i+u04+?+_+R+1 | c12 F 9`c10#| i+uZd+?+_+R+1 | i+uWh+?+_+R+1 | i+uY1+?+_+R+1 | i+u02+?+_+R+1 | i+uZe+?+_+R+1 | i+uZ1+?+_+R+1 | i+uZm+?+_+R+1 | i+v_or+?+_+R+1 | c11 F 9`c9#| i+uLz+?+0+?+_+R+2+'+;+>+rfl+c+0+P+3 | i+fz+@+?+_+R+2 | i+uVa+:+v+?+1+?+2+?+_+R+4+'+;+>+rfl+c+1+'+;+>+rfl+c+2+P+5 | i+uZ3+?+0+?+_+R+2+'+;+>+rfl+c+0+P+3 | i+uZ7+:+v+?+1+?+2+?+3+?+_+R+5+'+;+>+rfl+c+1+'+;+>+rfl+c+2+'+;+>+rfl+c+3+P+7 | i+u0m+?+_+R+1 | i+uY9+:+b+?+1+?+_+R+3+'+;+>+rfl+c+1+P+3 | i+uYr+?+_+R+1 | c10 F 9`c8#| i+uSp+?+_+R+1 | i+u1c+'+fun+'+_+1+^hole+'+_+1+^hole+2+null+0+null+'+=>+'+?+'+_+2+^syntheticHole+4+^basicFun+2+^fun+R+1 | i+uZb+?+0+?+1+?+_+R+3+'+;+>+rfl+c+0+'+;+>+rfl+c+1+P+5 | i+uHv+?+0+?+_+R+2+'+;+>+rfl+c+0+P+3 | i+u05+?+_+R+1 | i+u03+?+0+?+_+R+2+'+;+>+rfl+c+0+P+3 | i+uXk+?+_+R+1 | i+uYh+?+_+R+1 | c9 F 9`su#| i+uWw+?+_+R+1 | i+uQy+:+v+?+1+?+2+?+_+R+4+'+;+>+rfl+c+1+'+;+>+lk+c+2+P+5 | i+uAx+?+_+R+1 | i+uYw+?+0+?+_+R+2+'+;+>+rfl+c+0+P+3 | i+uSt+?+_+R+1 | i+uVf+:+v+:+i+:+k+?+3+?+4+?+5+?+6+?+_+R+8+'+;+>+rfl+c+3+'+;+>+orl+c+4+'+;+>+rfl+c+5+'+;+>+hp+c+6+P+9 | i+uZx+?+_+R+1 | i+uNm+?+_+R+1 | c8 F 9`c24#| i+uUr+:+xs+?+1+?+_+R+3+'+;+>+hp+c+1+P+3 | i+uQr+:+xs+?+1+?+_+R+3+'+;+>+hp+c+1+P+3 | i+uT9+:+xs+?+1+?+_+R+3+'+;+>+hp+c+1+P+3 | i+uTh+:+xs+?+1+?+_+R+3+'+;+>+hp+c+1+P+3 | i+uFw+:+xs+?+1+?+_+R+3+'+;+>+hp+c+1+P+3 | i+uR7+:+xs+?+1+?+_+R+3+'+;+>+hp+c+1+P+3 | i+uPm+:+es+?+1+?+_+R+3+'+;+>+hp+c+1+P+3 | i+uMm+:+xs+?+1+?+_+R+3+'+;+>+hp+c+1+P+3 | i+uW6+:+ks+?+1+?+_+R+3+'+;+>+hp+c+1+P+3 | i+uX4+:+es+:+t+?+2+?+_+R+4+'+;+>+hp+c+2+P+3 | i+uUn+:+id+:+i+?+2+?+_+R+4+'+;+>+hp+c+2+P+3 F 11`c23#| i+uRc+:+xs+:+id+?+2+?+3+?+_+R+5+'+;+>+hp+c+2+'+;+>+rfl+c+3+P+5 | i+uQt+:+es+:+g+:+id+?+3+?+4+?+_+R+6+'+;+>+hp+c+3+'+;+>+rfl+c+4+P+5 | i+uQu+:+ks+?+1+?+2+?+_+R+4+'+;+>+hp+c+1+'+;+>+rfl+c+2+P+5 | i+uW4+:+xs+?+1+?+_+R+3+'+;+>+hp+c+1+P+3 | i+uWb+:+xs+?+1+?+_+R+3+'+;+>+hp+c+1+P+3 | i+uRs+:+xs+?+1+?+_+R+3+'+;+>+hp+c+1+P+3 | i+uSv+:+es+:+g+?+2+?+_+R+4+'+;+>+hp+c+2+P+3 | i+uOy+:+es+:+g+?+2+?+_+R+4+'+;+>+hp+c+2+P+3 | c24 F 9`sx#| su | i+uP9+:+C+:+d+:+es+:+xs+:+v+?+5+?+6+?+7+?+8+?+9+?+10+?+_+R+12+'+;+>+hp+c+5+'+;+>+hp+c+6+'+;+>+rfl+c+7+'+;+>+rfl+c+8+'+;+>+lk+c+9+'+;+>+rfl+c+10+P+13 | i+uQv+:+C+:+d+:+es+:+vs+:+j+:+v+?+6+?+7+?+8+?+9+?+10+?+_+R+12+'+;+>+hp+c+6+'+;+>+hp+c+7+'+;+>+rfl+c+8+'+;+>+rfl+c+9+'+;+>+rfl+c+10+P+11 | i+uQx+:+xs+?+1+?+2+?+_+R+4+'+;+>+hp+c+1+'+;+>+rfl+c+2+P+5 | i+uPo+:+l+:+p+?+2+?+3+?+_+R+5+'+;+>+hp+c+2+'+;+>+rfl+c+3+P+5 | i+uTq+:+C+:+d+:+es+:+xs+?+4+?+5+?+6+?+7+?+8+?+_+R+10+'+;+>+hp+c+4+'+;+>+hp+c+5+'+;+>+rfl+c+6+'+;+>+rfl+c+7+'+;+>+dec+c+8+P+11 | i+uUe+:+C+:+d+:+es+:+vs+:+j+?+5+?+6+?+7+?+8+?+_+R+10+'+;+>+hp+c+5+'+;+>+hp+c+6+'+;+>+rfl+c+7+'+;+>+dec+c+8+P+9 | i+uQ1+:+C+:+d+:+es+:+f+?+4+?+5+?+6+?+7+?+_+R+9+'+;+>+hp+c+4+'+;+>+hp+c+5+'+;+>+rfl+c+6+'+;+>+rfl+c+7+P+9 | c23 F 9`st#| su | i+uPc+?+_+R+1 | i+uJ6+?+_+R+1 F 3`si#| sx | i+uPc+?+_+R+1 | i+uJ6+?+_+R+1 F 3`".splitOn ("`"++s++"#")).getD 1 "").splitOn "`").headD "" else s
 mt [] x "" (if (v.splitOn " ").length=1 then ex v else v)
def mc(x h:Lean.Syntax):Lean.MacroM Lean.Syntax:=mt [h] x (if h.isIdent then "' cases 0 null $ 0 2 ~elimTarget 1 null 0 null 0 null 4 ~cases" else "-") (ex "' first ' | ' exact i Mine.Internal.nn $ 0 1 null 2 ^app 2 ~exact Q 1 2 group ' | ' exact i Mine.Internal.nn' $ 0 1 null 2 ^app 2 ~exact Q 1 2 group ' | ' exact i Mine.Internal.nf $ 0 1 null 2 ^app 2 ~exact Q 1 2 group ' | ' exact i Mine.Internal.nt' $ 0 1 null 2 ^app 2 ~exact Q 1 2 group ' | ' ( ' with_reducible ' have 0 null 1 ^letConfig i hq0 1 ^letId 0 null 0 null ' := i Mine.Internal.rr $ 0 1 null 2 ^app 5 ^letIdDecl 1 ^letDecl 3 ~tacticHave__ ' ; ' clear i hq0 $ 0 2 null 2 ~clear Q 3 2 ~withReducible Q 1 ' ) 3 ~paren Q 1 2 group ' | ' subst $ 0 1 null 2 ~subst Q 1 2 group ' | ' ( ' injection $ 0 0 null 3 ~injection ' ; ' done 1 ~done Q 3 ' ) 3 ~paren Q 1 2 group ' | ' ( ' refine i Mine.Internal.pj $ 0 ' ? ' _ 2 ^syntheticHole 2 null 2 ^app 2 ~refine ' ; ' clear $ 0 1 null 2 ~clear ' ; ' intro i h1 i h2 2 null 2 ~intro ' ; ' cases 0 null i h1 2 ~elimTarget 1 null 0 null 0 null 4 ~cases ' ; ' all_goals ' cases 0 null i h2 2 ~elimTarget 1 null 0 null 0 null 4 ~cases Q 1 2 ~allGoals Q 9 ' ) 3 ~paren Q 1 2 group ' | ' ( ' replace $ 0 1 ^letId 0 null 0 null ' := i Option.some.inj $ 0 1 null 2 ^app 5 ^letIdDecl 1 ^letDecl 2 ~replace ' ; ' cases 0 null $ 0 2 ~elimTarget 1 null 0 null 0 null 4 ~cases Q 3 ' ) 3 ~paren Q 1 2 group ' | ' ( ' injection $ 0 ' with i h1 i h2 i h3 3 null 2 null 3 ~injection ' ; ' all_goals ' cases 0 null i h1 2 ~elimTarget 1 null 0 null 0 null 4 ~cases ' ; ' all_goals ' cases 0 null i h2 2 ~elimTarget 1 null 0 null 0 null 4 ~cases ' ; ' all_goals ' cases 0 null i h3 2 ~elimTarget 1 null 0 null 0 null 4 ~cases Q 1 2 ~allGoals Q 3 2 ~allGoals Q 3 2 ~allGoals Q 3 ' ) 3 ~paren Q 1 2 group ' | ' ( ' injection $ 0 ' with i h1 i h2 2 null 2 null 3 ~injection ' ; ' all_goals ' cases 0 null i h1 2 ~elimTarget 1 null 0 null 0 null 4 ~cases ' ; ' all_goals ' cases 0 null i h2 2 ~elimTarget 1 null 0 null 0 null 4 ~cases Q 1 2 ~allGoals Q 3 2 ~allGoals Q 3 ' ) 3 ~paren Q 1 2 group ' | ' ( ' injection $ 0 ' with i h1 1 null 2 null 3 ~injection ' ; ' all_goals ' cases 0 null i h1 2 ~elimTarget 1 null 0 null 0 null 4 ~cases Q 1 2 ~allGoals Q 3 ' ) 3 ~paren Q 1 2 group ' | ' cases 0 null ' ( i _ 1 hygieneInfo 2 ^hygienicLParen $ 0 ' ) 3 ^paren 2 ~elimTarget 1 null 0 null 0 null 4 ~cases Q 1 2 group 13 null 2 ~first")
def mw(x:Lean.Syntax):Lean.MacroM Lean.Syntax:=
 let r:=x[2][1]
 if r.getNumArgs=1 then mt [r[0][1]] x "' rw 0 null 1 ~optConfig ' [ 0 null $ 0 2 ~rwRule 1 null ' ] 3 ~rwRuleSeq 0 null 4 ~rwSeq" (ex "' ( ' ( ' first ' | ' with_reducible ' refine i Eq.substr $ 0 ' ? ' _ 2 ^syntheticHole 2 null 2 ^app 2 ~refine Q 1 2 ~withReducible Q 1 2 group ' | ' rewrite 0 null 1 ~optConfig ' [ 0 null $ 0 2 ~rwRule 1 null ' ] 3 ~rwRuleSeq 0 null 4 ~rewriteSeq Q 1 2 group 2 null 2 ~first Q 1 ' ) 3 ~paren ' ; ' try ' ( ' with_reducible ' rfl 1 ~tacticRfl Q 1 2 ~withReducible Q 1 ' ) 3 ~paren Q 1 2 ~tacticTry_ Q 3 ' ) 3 ~paren") else mt [r[0],nu (r.getArgs.toList.drop 2),r] x "' rw 0 null 1 ~optConfig ' [ $ 2 ' ] 3 ~rwRuleSeq 0 null 4 ~rwSeq" (ex "' ( ' rw 0 null 1 ~optConfig ' [ $ 0 1 null ' ] 3 ~rwRuleSeq 0 null 4 ~rwSeq ' ; ' rw 0 null 1 ~optConfig ' [ $ 1 ' ] 3 ~rwRuleSeq 0 null 4 ~rwSeq Q 3 ' ) 3 ~paren")
def mo(x:Lean.Syntax):Lean.MacroM Lean.Syntax:=mt [] x "' omega 0 null 1 ~optConfig 2 ~omega" (ex "' first ' | ' with_reducible ' assumption 1 ~assumption Q 1 2 ~withReducible Q 1 2 group ' | > om Q 1 2 group ' | ' lia 0 null 1 ~optConfig 2 ~lia Q 1 2 group ' | ' omega ' ( i splitMinMax ' := i true ' ) 5 ~valConfigItem 1 ~configItem 1 null 1 ~optConfig 2 ~omega Q 1 2 group 4 null 2 ~first")
end Mine.Internal
end
section
namespace Mine.Internal
open PySem
section
theorem nn{α:Type}{x:α}{K:Prop}(h:none=some x):K:=by injection h
theorem nn'{α:Type}{x:α}{K:Prop}(h:some x=none):K:=by injection h
theorem nf{K:Prop}(h:false=true):K:=by injection h
theorem nt'{K:Prop}(h:true=false):K:=by injection h
theorem ob{α β:Type}{o:Option α}{f:α→Option β}{a:α}{r:Option β}(e:o=some a)(h:f a=r):o.bind f=r:=by subst e;exact h
theorem obn{α β:Type}{o:Option α}{f:α→Option β}(e:o=none):o.bind f=none:=by subst e;rfl
theorem rr{α:Type}{a:α}(h:a=a):True:=trivial
theorem pj{α β:Type}{a c:α}{b d:β}{P:Prop}(h:(a,b)=(c,d))(k:a=c→b=d→P):P:=k (congrArg Prod.fst h) (congrArg Prod.snd h)
inductive AV where
 | none | bool (b:Bool) | int (i:Int) | str (s:List Nat) (g:Option Nat:=Option.none) | ref (i:Nat) | st (v:Value)
 deriving DecidableEq
inductive AO where
 | list (xs:List AV)
 | tup (xs:List AV)
 | dict (es:List (List Nat×AV)) (g:Bool)
 | idict (es:List (Str×AV))
 | sset (ks:List (List Nat))
 | inst (C:Addr) (d:Nat)
 | slots (C:Addr) (d:Nat) (vs:List (Option AV))
 | cell (v:Option AV)
 | obj
 | liter (l:Nat) (p:Option Nat)
 | meth (id:String) (self:Nat)
 | rng (a b:Int)
 | dvals (d:Nat)
inductive AX where
 | stop | cyc | cycL
inductive Fl where
 | next | brk | cont | ret (v:AV)
structure St where
 L:List (Str×AV)
 H:List AO
inductive Res(α:Type) where
 | ok (a:α)
 | exc (x:AX)
noncomputable def M(α:Type):=St→Option (Res α×St)
namespace M
noncomputable def pure{α:Type}(a:α):M α:=fun s=>some (.ok a,s)
noncomputable def fail{α:Type}:M α:=fun _=>Option.none
noncomputable def raise{α:Type}(x:AX):M α:=fun s=>some (.exc x,s)
noncomputable def bind{α β:Type}(m:M α)(f:α→M β):M β:=fun s=>match m s with
 | some (.ok a,s')=>f a s'
 | some (.exc x,s')=>some (.exc x,s')
 | Option.none=>Option.none
noncomputable instance:Monad M where
 pure:=pure
 bind:=bind
end M
structure Fn where
 name:Str
 qual:Str
 params:Arguments
 body:List Stmt
 scope:Scope
 dflt:Bool:=false
inductive Cl where
 | plain (init:Addr)
 | slots (names:List Str) (init:Addr)
 | exc
set_option genInjectivity false in
structure uBb where
 glob:List (Str×AV)
 bi:List (Str×AV)
 fn:List (Addr×Fn)
 cls:List (Addr×Cl)
 meth:List (Addr×List (Str×Addr))
 slot:List (Addr×List (Str×Nat))
 attr:List (Addr×List Str)
 tr:List (Nat×List Nat)
 trAt:Addr
 scr:Addr×List Int:=(0,[])
structure FE where
 scope:Scope
 cells:List (Str×Nat)
 hm:Bool:=false
noncomputable def FE.kind(F:FE)(x:Str):Option NameKind:=F.scope.names.lookup x
noncomputable def tl(s:Str):List Nat:=s.cps.toList
noncomputable def sl(s:String):List Nat:=tl (Str.ofString s)
noncomputable def get(i:Nat):M AO:=fun s=>match s.H[i]? with
 | some o=>some (.ok o,s)
 | Option.none=>Option.none
noncomputable def put(i:Nat)(o:AO):M Unit:=fun s=>if i<s.H.length then some (.ok (),{ s with H:=s.H.set i o }) else Option.none
noncomputable def new(o:AO):M AV:=fun s=>some (.ok (.ref s.H.length),{ s with H:=s.H++[o] })
noncomputable def newN(o:AO):M Nat:=fun s=>some (.ok s.H.length,{ s with H:=s.H++[o] })
noncomputable def uD0{β:Type}(x:Str)(v:β):List (Str×β)→List (Str×β)
 | []=>[(x,v)]
 | (y,u)::r=>if x==y then (x,v)::r else (y,u)::uD0 x v r
theorem uC4{β:Type}(x y:Str)(v u:β)(r:List (Str×β)):uD0 x v ((y,u)::r)=if x==y then (x,v)::r else (y,u)::uD0 x v r:=rfl
noncomputable def pC:AO→Option (Option AV)
 | .cell o=>some o
 | _=>Option.none
noncomputable def pI:AO→Option (List (Str×AV))
 | .idict es=>some es
 | _=>Option.none
noncomputable def okS(s:St)(v:AV):Option (Res AV×St):=some (.ok v,s)
noncomputable def lnC(s:St)(i:Nat):Option (Res AV×St):=((s.H[i]?.bind pC).bind id).bind (okS s)
noncomputable def snU(v:AV)(s:St)(i:Nat)(_:Option AV):Option (Res Unit×St):=some (.ok (),{ s with H:=s.H.set i (.cell (some v)) })
noncomputable def snC(v:AV)(s:St)(i:Nat):Option (Res Unit×St):=(s.H[i]?.bind pC).bind (snU v s i)
noncomputable def loadName(P:uBb)(F:FE)(x:Str):M AV:=fun s=>
 match F.kind x with
 | some .local=>(s.L.lookup x).map fun v=>(.ok v,s)
 | some .cell | some .free=>(F.cells.lookup x).bind (lnC s)
 | some .globalImplicit=>match P.glob.lookup x with
  | some v=>some (.ok v,s)
  | Option.none=>(P.bi.lookup x).map fun v=>(.ok v,s)
 | _=>Option.none
noncomputable def storeName(F:FE)(x:Str)(v:AV):M Unit:=fun s=>
 match F.kind x with
 | some .local=>some (.ok (),{ s with L:=uD0 x v s.L })
 | some .cell=>(F.cells.lookup x).bind (snC v s)
 | _=>Option.none
noncomputable def lz:Nat:=10000
noncomputable def strV(s:List Nat):M AV:=if s.length≤lz then M.pure (.str s Option.none) else M.fail
noncomputable def uD2:Const→M AV
 | .none=>M.pure .none
 | .bool b=>M.pure (.bool b)
 | .int i=>M.pure (.int i)
 | .str s=>strV (tl s)
 | _=>M.fail
noncomputable def bnd(i:Int)(n:Nat):Nat:=if 0≤i then min i.toNat n else n-(-i).toNat
noncomputable def cut{α:Type}(xs:List α)(lo hi:Option Int):List α:=
 let a:=match lo with | some i=>bnd i xs.length | Option.none=>0
 let b:=match hi with | some i=>bnd i xs.length | Option.none=>xs.length
 (xs.take b).drop a
theorem cutl{α:Type}(xs:List α)(i j:Nat):((xs.take j).drop i).length≤xs.length:=by
 rw [List.length_drop];exact Nat.le_trans (Nat.sub_le _ _) (List.length_take_le' _ _)
noncomputable def setD(k:List Nat)(v:AV):List (List Nat×AV)→List (List Nat×AV)
 | []=>[(k,v)]
 | (y,u)::r=>if k==y then (y,v)::r else (y,u)::setD k v r
theorem uF3(k y:List Nat)(v u:AV)(r:List (List Nat×AV)):setD k v ((y,u)::r)=if k==y then (y,v)::r else (y,u)::setD k v r:=rfl
noncomputable def asI:AV→Option Int
 | .int a=>some a
 | _=>Option.none
noncomputable def asS:AV→Option (List Nat)
 | .str a _=>some a
 | _=>Option.none
noncomputable def asB:AV→Option Bool
 | .bool a=>some a
 | _=>Option.none
noncomputable def leafEq(a b:AV):Option Bool:=match a with
 | .int a=>(asI b).map fun b=>decide (a=b)
 | .str a _=>(asS b).map fun b=>decide (a=b)
 | .bool a=>(asB b).map fun b=>decide (a=b)
 | _=>Option.none
noncomputable def goEq(f:AV→AV→Option Bool):List AV→List AV→Option Bool
 | [],[]=>some true
 | x::xs,y::ys=>(f x y).bind fun a=>(goEq f xs ys).map fun b=>a&&b
 | _,_=>Option.none
noncomputable def pL:AO→Option (List AV)
 | .list xs=>some xs
 | _=>Option.none
noncomputable def pT:AO→Option (List AV)
 | .tup xs=>some xs
 | _=>Option.none
noncomputable def asRf:AV→Option Nat
 | .ref i=>some i
 | _=>Option.none
noncomputable def eqS(f:AV→AV→Option Bool)(e:Option Bool)(xs ys:List AV):Option Bool:=if xs.length=ys.length then goEq f xs ys else e
noncomputable def eqP(f:AV→AV→Option Bool)(a b:AO):Option Bool:=match a with
 | .list xs=>(pL b).bind (eqS f (some false) xs)
 | .tup xs=>(pT b).bind (eqS f Option.none xs)
 | _=>Option.none
noncomputable def eqO(f:AV→AV→Option Bool)(a b:Option AO):Option Bool:=a.bind fun a=>b.bind (eqP f a)
noncomputable def eqA:Nat→List AO→AV→AV→Option Bool
 | 0,_,x,y=>leafEq x y
 | n+1,H,x,y=>match x with
  | .ref i=>(asRf y).bind fun j=>eqO (eqA n H) H[i]? H[j]?
  | x=>leafEq x y
noncomputable def isI(a:Int):AV→Option Bool
 | .int b=>some (decide (b=a))
 | _=>Option.none
noncomputable def isS(a:List Nat):AV→Option Bool
 | .str b _=>some (decide (b=a))
 | _=>Option.none
noncomputable def anyO(f:AV→Option Bool):List AV→Option Bool
 | []=>some false
 | x::xs=>(f x).bind fun a=>(anyO f xs).map fun b=>a||b
noncomputable def memA(x:AV)(xs:List AV):Option Bool:=match x with
 | .int a=>anyO (isI a) xs
 | .str a _=>anyO (isS a) xs
 | _=>Option.none
noncomputable def isA:AV→AV→Option Bool
 | .none,.none=>some true
 | .none,.ref _=>some false
 | .ref _,.none=>some false
 | .none,.str _ _=>some false
 | .str _ _,.none=>some false
 | .str _ _,.ref _=>some false
 | .ref _,.str _ _=>some false
 | .str s (some _),.str t (some _)=>some (decide (s=t))
 | .ref i,.ref j=>if i=j then some true else Option.none
 | .bool a,.bool b=>some (decide (a=b))
 | .st a,.st b=>match a,b with
  | .type x,.type y=>some (decide (x=y))
  | _,_=>Option.none
 | _,_=>Option.none
noncomputable def uE5(H:List AO):AV→Option Bool
 | .none=>some false
 | .bool b=>some b
 | .int i=>some (decide (i≠0))
 | .str s _=>some (decide (s≠[]))
 | .ref i=>match H[i]? with
  | some (.list xs)=>some (decide (xs≠[]))
  | some (.tup xs)=>some (decide (xs≠[]))
  | _=>Option.none
 | _=>Option.none
noncomputable def ofO{α:Type}(o:Option α):M α:=fun s=>o.map fun a=>(.ok a,s)
noncomputable def heap:M (List AO):=fun s=>some (.ok s.H,s)
noncomputable def truthy(v:AV):M Bool:=fun s=>(uE5 s.H v).map fun b=>(.ok b,s)
noncomputable def subL(a b:List Nat):Bool:=match a with
 | [c]=>b.contains c
 | _=>false
noncomputable def intOp(op:Operator)(a b:Int):Option Int:=match op with
 | .Add=>some (a+b)
 | .Sub=>some (a-b)
 | .FloorDiv=>if 0<b∧b<2 ^ 62 then some (Int.fdiv a b) else Option.none
 | .Mod=>if 0<b then some (Int.fmod a b) else Option.none
 | .Pow=>if (0≤b∧b<64)∧(0≤a∧a<64) then some (a ^ b.toNat) else Option.none
 | .LShift=>if (0≤b∧b<64)∧(0≤a∧a<64) then some (a*2 ^ b.toNat) else Option.none
 | .BitOr=>some (Builtin.bitOr a b)
 | .BitAnd=>some (Builtin.bitAnd a b)
 | _=>Option.none
noncomputable def clN(s:St)(xs ys:List AV):Option (Res AV×St):=if (xs++ys).length≤lz then some (.ok (.ref s.H.length),{ s with H:=s.H++[.list (xs++ys)] }) else Option.none
noncomputable def clJ(s:St)(j:Nat)(xs:List AV):Option (Res AV×St):=(s.H[j]?.bind pL).bind (clN s xs)
noncomputable def catL(i j:Nat):M AV:=fun s=>(s.H[i]?.bind pL).bind (clJ s j)
noncomputable def rpK(n:Int)(s:St)(xs:List AV):Option (Res AV×St):=match xs with
 | [x]=>if 0≤n∧n≤64 then some (.ok (.ref s.H.length),{ s with H:=s.H++[.list (List.replicate n.toNat x)] }) else Option.none
 | _=>Option.none
noncomputable def repL(i:Nat)(n:Int):M AV:=fun s=>(s.H[i]?.bind pL).bind (rpK n s)
noncomputable def uFl(op:Operator)(x y:AV):M AV:=match x,y with
 | .int a,.int b=>match intOp op a b with
  | some c=>M.pure (.int c)
  | Option.none=>M.fail
 | .str a _,.str b _=>match op with
  | .Add=>strV (a++b)
  | _=>M.fail
 | .ref i,.ref j=>match op with
  | .Add=>catL i j
  | _=>M.fail
 | .ref i,.int n=>match op with
  | .Mult=>repL i n
  | _=>M.fail
 | _,_=>M.fail
noncomputable def isInO(a:AV)(s:St):Option AO→Option (Res Bool×St)
 | some (.list xs)=>(memA a xs).map fun r=>(.ok r,s)
 | some (.tup xs)=>(memA a xs).map fun r=>(.ok r,s)
 | some (.sset ks)=>match a with
  | .str x _=>some (.ok (ks.contains x),s)
  | _=>Option.none
 | some (.dict es g)=>match a with
  | .str x _=>some (.ok ((es.lookup x).isSome),s)
  | _=>Option.none
 | _=>Option.none
noncomputable def isIn(a b:AV):M Bool:=fun s=>match b with
 | .ref i=>isInO a s s.H[i]?
 | .str y _=>match a with
  | .str x _=>if x.length=1 then some (.ok (subL x y),s) else Option.none
  | _=>Option.none
 | _=>Option.none
noncomputable def ltA(a b:AV):Option Bool:=(asI a).bind fun a=>(asI b).map fun b=>decide (a<b)
noncomputable def geA(a b:AV):Option Bool:=(asI a).bind fun a=>(asI b).map fun b=>decide (b≤a)
noncomputable def uB7(op:CmpOp)(a b:AV):M Bool:=match op with
 | .Eq=>fun s=>(eqA 8 s.H a b).map fun r=>(.ok r,s)
 | .NotEq=>fun s=>(eqA 8 s.H a b).map fun r=>(.ok (!r),s)
 | .Lt=>ofO (ltA a b)
 | .GtE=>ofO (geA a b)
 | .Is=>ofO (isA a b)
 | .IsNot=>ofO ((isA a b).map (!·))
 | .In=>isIn a b
 | .NotIn=>M.bind (isIn a b) fun r=>M.pure (!r)
 | _=>M.fail
noncomputable def uB6:AV→Option (Option Int)
 | .none=>some Option.none
 | .int i=>some (some i)
 | _=>Option.none
noncomputable def nth(xs:List AV)(k:Int):Option AV:=match seqIndex? k xs.length with
 | some j=>xs[j]?
 | Option.none=>Option.none
noncomputable def nthS(x:List Nat)(k:Int):Option AV:=match seqIndex? k x.length with
 | some j=>(x[j]?).map fun c=>.str [c] Option.none
 | Option.none=>Option.none
noncomputable def uDz(i:AV)(s:St):Option AO→Option (Res AV×St)
 | some (.list xs)=>match i with
  | .int k=>(nth xs k).map fun v=>(.ok v,s)
  | _=>Option.none
 | some (.tup xs)=>match i with
  | .int k=>(nth xs k).map fun v=>(.ok v,s)
  | _=>Option.none
 | some (.dict es g)=>match i with
  | .str k _=>(es.lookup k).map fun v=>(.ok v,s)
  | _=>Option.none
 | _=>Option.none
noncomputable def getItem(o i:AV):M AV:=fun s=>match o with
 | .str x _=>match i with
  | .int k=>(nthS x k).map fun v=>(.ok v,s)
  | _=>Option.none
 | .ref a=>uDz i s s.H[a]?
 | _=>Option.none
noncomputable def gsL(lo hi:Option Int)(s:St)(xs:List AV):Option (Res AV×St):=some (.ok (.ref s.H.length),{ s with H:=s.H++[.list (cut xs lo hi)] })
noncomputable def uBh(P:uBb)(o:AV)(lo hi:Option Int):M AV:=fun s=>match o with
 | .st (.ref a)=>if a=P.scr.1 then some (.ok (.ref s.H.length),{ s with H:=s.H++[.list (cut (P.scr.2.map AV.int) lo hi)] }) else Option.none
 | .str x _=>some (.ok (.str (cut x lo hi) Option.none),s)
 | .ref a=>((s.H[a]?).bind pL).bind (gsL lo hi s)
 | _=>Option.none
noncomputable def uEf(a:Nat)(i v:AV)(s:St):Option AO→Option (Res Unit×St)
 | some (.list xs)=>match i with
  | .int k=>if 0≤k∧k.toNat<xs.length then some (.ok (),{ s with H:=s.H.set a (.list (xs.set k.toNat v)) }) else Option.none
  | _=>Option.none
 | some (.dict es g)=>match i with
  | .str k _=>if es.length<900 then some (.ok (),{ s with H:=s.H.set a (.dict (setD k v es) g) }) else Option.none
  | _=>Option.none
 | _=>Option.none
noncomputable def setItem(o i v:AV):M Unit:=fun s=>match o with
 | .ref a=>uEf a i v s s.H[a]?
 | _=>Option.none
noncomputable def uFr(a:Nat)(i:AV)(s:St):Option AO→Option (Res Unit×St)
 | some (.dict es g)=>match i with
  | .str k _=>if (es.lookup k).isSome∧es.length≤lz then some (.ok (),{ s with H:=s.H.set a (.dict (es.filter fun e=>!(e.1==k)) false) }) else Option.none
  | _=>Option.none
 | _=>Option.none
noncomputable def delItem(o i:AV):M Unit:=fun s=>match o with
 | .ref a=>uFr a i s s.H[a]?
 | _=>Option.none
noncomputable def okV:AV→Bool
 | .st _=>false
 | _=>true
noncomputable def okR(s:St)(v:AV):Option (Res AV×St):=if okV v then some (.ok v,s) else Option.none
noncomputable def gaV(x:Str)(s:St)(es:List (Str×AV)):Option (Res AV×St):=(es.lookup x).bind (okR s)
noncomputable def gaI(x:Str)(d:Nat)(s:St)(xs:List Str):Option (Res AV×St):=if xs.contains x then (s.H[d]?.bind pI).bind (gaV x s) else Option.none
noncomputable def gaJ(vs:List (Option AV))(s:St)(j:Nat):Option (Res AV×St):=(vs[j]?.bind id).bind (okR s)
noncomputable def gaS(P:uBb)(x:Str)(s:St)(C:Addr)(vs:List (Option AV))(_:List (Str×AV)):Option (Res AV×St):=((P.slot.lookup C).bind (·.lookup x)).bind (gaJ vs s)
noncomputable def uDe(P:uBb)(a:Nat)(x:Str)(s:St):Option AO→Option (Res AV×St)
 | some (.inst C d)=>(P.attr.lookup C).bind (gaI x d s)
 | some (.slots C d vs)=>(s.H[d]?.bind pI).bind (gaS P x s C vs)
 | some (.list _)=>if x==Str.ofString "append" then some (.ok (.ref s.H.length),{ s with H:=s.H++[.meth "list.append" a] }) else Option.none
 | some (.liter _ (some _))=>if x==Str.ofString "__next__" then some (.ok (.ref s.H.length),{ s with H:=s.H++[.meth "list_iterator.__next__" a] }) else Option.none
 | _=>Option.none
noncomputable def getAttr(P:uBb)(o:AV)(x:Str):M AV:=fun s=>match o with
 | .ref a=>uDe P a x s s.H[a]?
 | _=>Option.none
noncomputable def saD(x:Str)(d:Nat)(v:AV)(s:St)(es:List (Str×AV)):Option (Res Unit×St):=if es.length<900 then some (.ok (),{ s with H:=s.H.set d (.idict (uD0 x v es)) }) else Option.none
noncomputable def saI(x:Str)(d:Nat)(v:AV)(s:St)(xs:List Str):Option (Res Unit×St):=if xs.contains x then (s.H[d]?.bind pI).bind (saD x d v s) else Option.none
noncomputable def saJ(a:Nat)(v:AV)(s:St)(C:Addr)(d:Nat)(vs:List (Option AV))(j:Nat):Option (Res Unit×St):=if j<vs.length then some (.ok (),{ s with H:=s.H.set a (.slots C d (vs.set j (some v))) }) else Option.none
noncomputable def saS(P:uBb)(a:Nat)(x:Str)(v:AV)(s:St)(C:Addr)(d:Nat)(vs:List (Option AV))(_:List (Str×AV)):Option (Res Unit×St):=((P.slot.lookup C).bind (·.lookup x)).bind (saJ a v s C d vs)
noncomputable def uEm(P:uBb)(a:Nat)(x:Str)(v:AV)(s:St):Option AO→Option (Res Unit×St)
 | some (.inst C d)=>(P.attr.lookup C).bind (saI x d v s)
 | some (.slots C d vs)=>(s.H[d]?.bind pI).bind (saS P a x v s C d vs)
 | _=>Option.none
noncomputable def setAttr(P:uBb)(o:AV)(x:Str)(v:AV):M Unit:=fun s=>match o with
 | .ref a=>uEm P a x v s s.H[a]?
 | _=>Option.none
noncomputable def gmD(o:AV)(x:Str)(s:St)(f:Addr)(es:List (Str×AV)):Option (Res (AV×List AV)×St):=if (es.lookup x).isNone then some (.ok (.st (.ref f),[o]),s) else Option.none
noncomputable def gmF(o:AV)(x:Str)(d:Nat)(s:St)(f:Addr):Option (Res (AV×List AV)×St):=(s.H[d]?.bind pI).bind (gmD o x s f)
noncomputable def getMethodO(P:uBb)(o:AV)(x:Str)(s:St):Option AO→Option (Res (AV×List AV)×St)
 | some (.inst C d)=>((P.meth.lookup C).bind (·.lookup x)).bind (gmF o x d s)
 | some (.list _)=>if x==Str.ofString "append" then some (.ok (.st (.builtin "list.append"),[o]),s)
  else if x==Str.ofString "pop" then some (.ok (.st (.builtin "list.pop"),[o]),s)
  else if x==Str.ofString "clear" then some (.ok (.st (.builtin "list.clear"),[o]),s) else Option.none
 | some (.dict _ _)=>if x==Str.ofString "get" then some (.ok (.st (.builtin "dict.get"),[o]),s)
  else if x==Str.ofString "values" then some (.ok (.st (.builtin "dict.values"),[o]),s) else Option.none
 | some (.sset _)=>if x==Str.ofString "add" then some (.ok (.st (.builtin "set.add"),[o]),s) else Option.none
 | _=>Option.none
noncomputable def getMethod(P:uBb)(o:AV)(x:Str):M (AV×List AV):=fun s=>match o with
 | .ref a=>getMethodO P o x s s.H[a]?
 | .str _ _=>if x==Str.ofString "join" then some (.ok (.st (.builtin "str.join"),[o]),s)
  else if x==Str.ofString "isalnum" then some (.ok (.st (.builtin "str.isalnum"),[o]),s)
  else if x==Str.ofString "translate" then some (.ok (.st (.builtin "str.translate"),[o]),s) else Option.none
 | _=>Option.none
noncomputable def uGa:List AV→Option (List (List Nat))
 | []=>some []
 | .str s _::r=>(uGa r).map (s::·)
 | _::_=>Option.none
noncomputable def uGz:List AV→Option (List Int)
 | []=>some []
 | .int i::r=>(uGz r).map (i::·)
 | _::_=>Option.none
noncomputable def uEc(sep:List Nat):List (List Nat)→List Nat
 | []=>[]
 | [x]=>x
 | x::r=>x++sep++uEc sep r
noncomputable def alnum1(s:List Nat):Option Bool:=if s=[46] then some false else Option.none
inductive BI where
 | len | append | pop | clear | dget | dvalues | sadd | join | isalnum | translate | isinstance | hasattr | iter | next | sum
noncomputable def biTab:List (String×BI):=[("len",.len),("list.append",.append),("list.pop",.pop),("list.clear",.clear),("dict.get",.dget),("dict.values",.dvalues),("set.add",.sadd),("str.join",.join),
 ("str.isalnum",.isalnum),("str.translate",.translate),("isinstance",.isinstance),("hasattr",.hasattr),("iter",.iter),("list_iterator.__next__",.next),("sum",.sum)]
inductive TY where
 | range | list | tuple | object | set | type | bool
noncomputable def tyTab:List (String×TY):=[("range",.range),("list",.list),("tuple",.tuple),("object",.object),("set",.set),("type",.type),("bool",.bool)]
noncomputable def lenO:AO→Option Nat
 | .list xs=>some xs.length
 | .tup xs=>some xs.length
 | _=>Option.none
noncomputable def lenK(s:St)(n:Nat):Res AV×St:=(.ok (.int n),s)
noncomputable def bLen(v:AV):M AV:=fun s=>match v with
 | .str x _=>some (.ok (.int x.length),s)
 | .ref a=>((s.H[a]?).bind lenO).map (lenK s)
 | _=>Option.none
noncomputable def pD:AO→Option (List (List Nat×AV)×Bool)
 | .dict es g=>some (es,g)
 | _=>Option.none
noncomputable def pS:AO→Option (List (List Nat))
 | .sset ks=>some ks
 | _=>Option.none
noncomputable def pR:AO→Option (Int×Int)
 | .rng a b=>some (a,b)
 | _=>Option.none
noncomputable def onK{γ β:Type}(p:AO→Option γ)(o:AV)(f:Nat→γ→M β):M β:=fun s=>match o with
 | .ref a=>((s.H[a]?).bind p).bind fun g=>f a g s
 | _=>Option.none
noncomputable def uDb(o v:AV):M AV:=onK pL o fun a xs s=>if xs.length<lz then some (.ok .none,{ s with H:=s.H.set a (.list (xs++[v])) }) else Option.none
noncomputable def bPop(o:AV):M AV:=onK pL o fun a xs s=>match xs.getLast? with
 | some v=>some (.ok v,{ s with H:=s.H.set a (.list xs.dropLast) })
 | Option.none=>Option.none
noncomputable def bClear(o:AV):M AV:=onK pL o fun a _ s=>some (.ok .none,{ s with H:=s.H.set a (.list []) })
noncomputable def bGet(o k:AV):M AV:=onK pD o fun _ q s=>match k with
 | .str k _=>some (.ok ((q.1.lookup k).getD .none),s)
 | _=>Option.none
noncomputable def uHx(o:AV):M AV:=onK pD o fun a _ s=>some (.ok (.ref s.H.length),{ s with H:=s.H++[.dvals a] })
noncomputable def bAdd(o k:AV):M AV:=onK pS o fun a ks s=>match k with
 | .str k _=>if ks.length<1000 then some (.ok .none,{ s with H:=s.H.set a (.sset (if ks.contains k then ks else ks++[k])) }) else Option.none
 | _=>Option.none
noncomputable def bJoin(sep o:AV):M AV:=fun s=>match sep with
 | .str sep _=>onK pL o (fun _ xs s=>if sep=[] then (match uGa xs with | some ts=>strV (uEc sep ts) s | Option.none=>Option.none) else Option.none) s
 | _=>Option.none
noncomputable def bAlnum(v:AV):M AV:=fun s=>match v with
 | .str x _=>(alnum1 x).map fun b=>(.ok (.bool b),s)
 | _=>Option.none
noncomputable def uHf(P:uBb)(v t:AV):M AV:=fun s=>match v with
 | .str x _=>match x with
  | [c]=>if t=.st (.ref P.trAt) then (match P.tr.lookup c with
    | some y=>some (.ok (.str y Option.none),s)
    | Option.none=>Option.none) else Option.none
  | _=>Option.none
 | _=>Option.none
noncomputable def uHq(v t:AV):M AV:=fun s=>match v with
 | .str _ _=>if t=.st (.type "str") then some (.ok (.bool true),s) else Option.none
 | _=>Option.none
noncomputable def uFu(o x:AV):M AV:=onK pL o fun _ _ s=>match x with
 | .str x _=>if x=sl "__getitem__" then some (.ok (.bool true),s) else Option.none
 | _=>Option.none
noncomputable def bIter(o:AV):M AV:=onK pL o fun a _ s=>some (.ok (.ref s.H.length),{ s with H:=s.H++[.liter a (some 0)] })
noncomputable def pLi:AO→Option (Nat×Option Nat)
 | .liter l p=>some (l,p)
 | _=>Option.none
noncomputable def nxV(j l p:Nat)(s:St):Option AV→Option (Res AV×St)
 | some v=>some (.ok v,{ s with H:=s.H.set j (.liter l (some (p+1))) })
 | Option.none=>some (.exc .stop,{ s with H:=s.H.set j (.liter l Option.none) })
noncomputable def nxL(j l p:Nat)(s:St)(xs:List AV):Option (Res AV×St):=nxV j l p s xs[p]?
noncomputable def nxQ(j l:Nat)(s:St)(p:Nat):Option (Res AV×St):=((s.H[l]?).bind pL).bind (nxL j l p s)
noncomputable def nxP(j:Nat)(s:St)(q:Nat×Option Nat):Option (Res AV×St):=q.2.bind (nxQ j q.1 s)
noncomputable def uFn(o:AV):M AV:=fun s=>match o with
 | .ref j=>((s.H[j]?).bind pLi).bind (nxP j s)
 | _=>Option.none
noncomputable def bSum(o:AV):M AV:=onK pL o fun _ xs s=>(uGz xs).map fun ns=>(.ok (.int ns.sum),s)
noncomputable def uAo(P:uBb)(b:BI)(args:List AV):M AV:=match args with
 | [x]=>match b with
  | .len=>bLen x
  | .pop=>bPop x
  | .clear=>bClear x
  | .dvalues=>uHx x
  | .isalnum=>bAlnum x
  | .iter=>bIter x
  | .next=>uFn x
  | .sum=>bSum x
  | _=>M.fail
 | [x,y]=>match b with
  | .append=>uDb x y
  | .dget=>bGet x y
  | .sadd=>bAdd x y
  | .join=>bJoin x y
  | .translate=>uHf P x y
  | .isinstance=>uHq x y
  | .hasattr=>uFu x y
  | _=>M.fail
 | _=>M.fail
noncomputable def uCf(a b:Int):List AV:=(List.range (b-a).toNat).map fun (k:Nat)=>AV.int (a+(k:Int))
noncomputable def small(a:Int):Bool:=decide (-64≤a)&&decide (a≤64)
noncomputable def tRange(a b:AV):M AV:=fun s=>(asI a).bind fun a=>(asI b).map fun b=>(.ok (.ref s.H.length),{ s with H:=s.H++[.rng a b] })
noncomputable def tList(o:AV):M AV:=onK pR o fun _ q s=>if small q.1&&small q.2 then some (.ok (.ref s.H.length),{ s with H:=s.H++[.list (uCf q.1 q.2)] }) else Option.none
noncomputable def tTuple(o:AV):M AV:=onK pL o fun _ xs s=>some (.ok (.ref s.H.length),{ s with H:=s.H++[.tup xs] })
noncomputable def tType(o:AV):M AV:=onK pT o fun _ _ s=>some (.ok (.st (.type "tuple")),s)
noncomputable def tBool(o:AV):M AV:=onK pL o fun _ xs s=>some (.ok (.bool (decide (xs≠[]))),s)
noncomputable def uBg(t:TY)(args:List AV):M AV:=match args with
 | []=>match t with
  | .object=>new .obj
  | .set=>new (.sset [])
  | _=>M.fail
 | [x]=>match t with
  | .range=>tRange (.int 0) x
  | .list=>tList x
  | .tuple=>tTuple x
  | .type=>tType x
  | .bool=>tBool x
  | _=>M.fail
 | [x,y]=>match t with
  | .range=>tRange x y
  | _=>M.fail
 | _=>M.fail
structure Rec where
 ev:Expr→FE→M AV
 tst:Expr→FE→M Bool
 ex:List Stmt→FE→M Fl
 call:AV→List AV→M AV
inductive It where
 | lst (i:Nat)
 | tup (i:Nat) (xs:List AV)
 | str (s:List Nat)
 | rng (a b:Int)
 | keys (d:Nat) (ks:List (List Nat))
 | vals (d:Nat) (n:Nat)
noncomputable def pDt:AO→Option (List (List Nat×AV))
 | .dict es true=>some es
 | _=>Option.none
noncomputable def pIt(s:St)(a:Nat):AO→Option It
 | .list _=>some (.lst a)
 | .tup xs=>some (.tup a xs)
 | .rng a b=>if small a&&small b then some (.rng a b) else Option.none
 | .dict es true=>some (.keys a (es.map (·.1)))
 | .dvals d=>((s.H[d]?).bind pDt).map fun es=>.vals d es.length
 | _=>Option.none
noncomputable def uB8(v:AV):M It:=fun s=>match v with
 | .str x _=>if x.all (· < 128) then some (.ok (.str x),s) else Option.none
 | .ref a=>((s.H[a]?).bind (pIt s a)).map fun it=>(.ok it,s)
 | _=>Option.none
noncomputable def It.at(t:It)(p:Nat):M (Option AV):=fun s=>match t with
 | .lst i=>((s.H[i]?).bind pL).map fun xs=>(.ok xs[p]?,s)
 | .tup i xs=>((s.H[i]?).bind pT).bind fun ys=>if ys.length=xs.length then some (.ok ys[p]?,s) else Option.none
 | .str x=>some (.ok ((x[p]?).map fun c=>.str [c] Option.none),s)
 | .rng a b=>some (.ok (if (p:Int)<b-a then some (.int (a+(p:Int))) else Option.none),s)
 | .keys d ks=>((s.H[d]?).bind pDt).bind fun es=>if es.map (·.1)=ks then (match ks[p]? with
   | some k=>if k.length≤lz then some (.ok (some (.str k Option.none)),s) else Option.none
   | Option.none=>some (.ok Option.none,s)) else Option.none
 | .vals d n=>((s.H[d]?).bind pDt).bind fun es=>if es.length=n then some (.ok ((es[p]?).map (·.2)),s) else Option.none
noncomputable def uHn:Expr→Option Str
 | .Name x _=>some x
 | _=>Option.none
noncomputable def asNames2:Expr→Option (Str×Str)
 | .Tuple ts _ _=>match ts with
  | [a,b]=>(uHn a).bind fun x=>(uHn b).map fun y=>(x,y)
  | _=>Option.none
 | _=>Option.none
noncomputable def asCall1:Expr→Option (Str×Expr)
 | .Call f args kws _=>match args,kws with
  | [a],[]=>(uHn f).map fun en=>(en,a)
  | _,_=>Option.none
 | _=>Option.none
noncomputable def enumOf(t iter:Expr):Option ((Str×Str)×Str×Expr):=(asNames2 t).bind fun p=>(asCall1 iter).map fun q=>(p,q)
noncomputable def asSub:Expr→Option (Expr×Expr)
 | .Subscript o i _=>some (o,i)
 | _=>Option.none
noncomputable def asSub1:List Expr→Option (Expr×Expr)
 | [t]=>asSub t
 | _=>Option.none
noncomputable def asCall0:Expr→Option (Str×List Expr)
 | .Call f args kws _=>match kws with
  | []=>(uHn f).map fun c=>(c,args)
  | _=>Option.none
 | _=>Option.none
noncomputable def excOf(e cause:Option Expr):Option (Str×List Expr):=match cause with
 | some _=>Option.none
 | Option.none=>e.bind asCall0
noncomputable def tryOf1:ExceptHandler→Option (Str×Stmt×List Stmt)
 | .ExceptHandler ty nm hb _=>match nm,hb with
  | Option.none,h₀::hb=>(ty.bind uHn).map fun c=>(c,h₀,hb)
  | _,_=>Option.none
noncomputable def tryOf(hs:List ExceptHandler)(oe fin:List Stmt):Option (Str×Stmt×List Stmt):=match oe,fin with
 | [],[]=>match hs with
  | [h]=>tryOf1 h
  | _=>Option.none
 | _,_=>Option.none
noncomputable def compOf1(t iter:Expr)(ifs:List Expr):Int→Option (Str×Pos×Expr×List Expr)
 | .ofNat 0=>match t with
  | .Name tx tp=>some (tx,tp,iter,ifs)
  | _=>Option.none
 | _=>Option.none
noncomputable def compOf:List Comprehension→Option (Str×Pos×Expr×List Expr)
 | [g]=>compOf1 g.target g.iter g.ifs g.is_async
 | _=>Option.none
section
variable (P:uBb)(r:Rec)
noncomputable def evL(F:FE):List Expr→M (List AV)
 | []=>M.pure []
 | .Starred e _::es=>M.bind (r.ev e F) fun v=>M.bind (fun s=>match v with
   | .ref a=>match s.H[a]? with
    | some (.list xs)=>some (.ok xs,s)
    | some (.tup xs)=>some (.ok xs,s)
    | _=>Option.none
   | _=>Option.none) fun xs=>M.bind (evL F es) fun ys=>M.pure (xs++ys)
 | e::es=>M.bind (r.ev e F) fun v=>M.bind (evL F es) fun vs=>M.pure (v::vs)
noncomputable def uB4(F:FE):List Nat→List Expr→M AV
 | out,[]=>strV out
 | out,.Constant (.str s) _ _::es=>if (out++tl s).length≤lz then uB4 F (out++tl s) es else M.fail
 | out,.FormattedValue e (-1) Option.none _::es=>M.bind (r.ev e F) fun v=>match v with
  | .str x _=>if (out++x).length≤lz then uB4 F (out++x) es else M.fail
  | _=>M.fail
 | _,_::_=>M.fail
noncomputable def uBn(F:FE):List Expr→List AV→M Unit
 | [],[]=>M.pure ()
 | .Name x _::ts,v::vs=>M.bind (storeName F x v) fun _=>uBn F ts vs
 | _,_=>M.fail
noncomputable def unTup(F:FE)(ts:List Expr)(v:AV):M Unit:=fun s=>match v with
 | .ref a=>((s.H[a]?).bind pT).bind fun xs=>uBn F ts xs s
 | _=>Option.none
noncomputable def asg(F:FE):Expr→AV→M Unit
 | .Name x _,v=>storeName F x v
 | .Attribute o x _,v=>M.bind (r.ev o F) fun ov=>setAttr P ov x v
 | .Subscript o i _,v=>M.bind (r.ev o F) fun ov=>M.bind (r.ev i F) fun iv=>setItem ov iv v
 | .Tuple ts _ _,v=>if F.hm then M.fail else unTup F ts v
 | _,_=>M.fail
noncomputable def uD4(F:FE)(v:AV):List Expr→M Unit
 | []=>M.pure ()
 | t::ts=>M.bind (asg P r F t v) fun _=>uD4 F v ts
noncomputable def uCs:List (Str×NameKind)→M (List (Str×Nat))
 | []=>M.pure []
 | (x,k)::ns=>if k=.cell then M.bind (newN (.cell Option.none)) fun i=>M.bind (uCs ns) fun c=>M.pure ((x,i)::c) else uCs ns
noncomputable def uBc(F:FE):List (Str×NameKind)→Option (List (Str×Nat))
 | []=>some []
 | (x,k)::ns=>if k=.free then (match F.cells.lookup x with
   | some i=>(uBc F ns).map ((x,i)::·)
   | Option.none=>Option.none) else uBc F ns
noncomputable def uCw(sc:Scope):Bool:=(sc.names.all fun n=>!(n.1==Str.ofString "__debug__") && !(n.1==Str.ofString "__classdict__"))&&decide ((sc.names.map (·.1)).Nodup)
noncomputable def lim:Nat:=80
noncomputable def uDj(F:FE)(tgt elt:Expr)(ifs:List Expr)(it:It)(acc:Nat):Nat→Nat→M Unit
 | 0,_=>M.fail
 | n+1,p=>M.bind (it.at p) fun x=>match x with
  | Option.none=>M.pure ()
  | some v=>M.bind (asg P r F tgt v) fun _=>M.bind (match ifs with | []=>M.pure true | [c]=>r.tst c F | _=>M.fail) fun b=>
   M.bind (if b then M.bind (r.ev elt F) fun y=>M.bind (uDb (.ref acc) y) fun _=>M.pure () else M.pure ()) fun _=>uDj F tgt elt ifs it acc n (p+1)
noncomputable def calm{α:Type}(m:M α):M α:=fun s=>match m s with
 | some (.ok a,s')=>some (.ok a,s')
 | _=>Option.none
noncomputable def uGu{α:Type}(L:List (Str×AV))(m:M α):M α:=fun s=>match m ⟨L,s.H⟩ with
 | some (x,s')=>some (x,⟨s.L,s'.H⟩)
 | Option.none=>Option.none
noncomputable def uA0(F:FE)(f:AV)(vs:List AV):M AV:=if F.hm then (if f=.st (.builtin "list.pop") then (match vs with
  | [x]=>bPop x
  | _=>M.fail) else M.fail) else r.call f vs
noncomputable def uCb:Expr→Bool
 | .Call (.Name _ _) [] [] _=>false
 | _=>true
noncomputable def uB3:Expr→Bool
 | .Set ..=>true
 | _=>false
noncomputable def uAz(es:List Expr):Bool:=es.all fun | .Starred _ _=>false | _=>true
noncomputable def uGv(P:uBb):AV→Bool
 | .st (.ref a)=>(P.fn.lookup a).isSome
 | _=>false
noncomputable def uCg:Expr→Bool
 | .ListComp ..=>false
 | .SetComp ..=>false
 | .DictComp ..=>false
 | _=>true
noncomputable def uCn:List Expr→Expr→Bool
 | [.Tuple _ _ _],.Tuple vs _ _=>vs.all (constantsAlone 8)
 | [.List _ _],_=>true
 | _,_=>false
noncomputable def compE(F:FE)(elt:Expr)(scope:Scope):Option (Str×Pos×Expr×List Expr)→M AV
 | some (tx,tp,iter,ifs)=>if F.hm||uB3 iter then M.fail else
  match (if uCw scope∧scope.kind=.function then uBc F scope.names else Option.none) with
  | Option.none=>M.fail
  | some fc=>M.bind (r.ev iter F) fun xv=>M.bind (uB8 xv) fun it=>M.bind (newN (.list [])) fun acc=>M.bind (uCs scope.names) fun own=>
   M.bind (calm (uGu [] (uDj P r { scope:=scope,cells:=own++fc,hm:=F.hm } (.Name tx tp) elt ifs it acc lim 0))) fun _=>M.pure (.ref acc)
 | Option.none=>M.fail
noncomputable def evE:Expr→FE→M AV
 | .Constant c _ _,_=>uD2 c
 | .Name x _,F=>loadName P F x
 | .BoolOp .And [a,b] _,F=>M.bind (r.ev a F) fun v=>M.bind (truthy v) fun t=>if t then r.ev b F else M.pure v
 | .BoolOp .Or [a,b] _,F=>M.bind (r.ev a F) fun v=>M.bind (truthy v) fun t=>if t then M.pure v else r.ev b F
 | .NamedExpr (.Name x p) e _,F=>M.bind (r.ev e F) fun v=>M.bind (asg P r F (.Name x p) v) fun _=>M.pure v
 | .BinOp a op b _,F=>M.bind (r.ev a F) fun x=>M.bind (r.ev b F) fun y=>uFl op x y
 | .UnaryOp .USub e _,F=>M.bind (r.ev e F) fun v=>match v with | .int i=>M.pure (.int (-i)) | _=>M.fail
 | .UnaryOp .Invert e _,F=>M.bind (r.ev e F) fun v=>match v with | .int i=>M.pure (.int (Builtin.bitNot i)) | _=>M.fail
 | .IfExp t a b _,F=>M.bind (r.tst t F) fun c=>if c then r.ev a F else r.ev b F
 | .List es _,F=>M.bind (evL r F es) fun vs=>if vs.length≤lz then new (.list vs) else M.fail
 | .Dict [] [] _,_=>new (.dict [] true)
 | .Tuple es _ _,F=>M.bind (evL r F es) fun vs=>if vs.length≤lz then new (.tup vs) else M.fail
 | .Compare a [op] [b] _,F=>if behindInMarks op b then M.fail else M.bind (r.ev a F) fun x=>M.bind (r.ev b F) fun y=>M.bind (uB7 op x y) fun c=>M.pure (.bool c)
 | .Call (.Attribute o x ap) args [] p,F=>if uCb o&&(ap.endLine==p.line)&&decide (args.length<30)&&(uAz args || !F.hm) then M.bind (r.ev o F) fun ov=>M.bind (getMethod P ov x) fun m=>if uAz args||uGv P m.1 then M.bind (evL r F args) fun vs=>uA0 r F m.1 (m.2++vs) else M.fail else M.fail
 | .Call f args [] _,F=>M.bind (r.ev f F) fun fv=>M.bind (evL r F args) fun vs=>uA0 r F fv vs
 | .JoinedStr [.Constant (.str s) _ _] _,_=>strV (tl s)
 | .JoinedStr (e₁::e₂::es) _,F=>uB4 r F [] (e₁::e₂::es)
 | .Attribute o x _,F=>if uCb o then M.bind (r.ev o F) fun ov=>getAttr P ov x else M.fail
 | .Subscript o (.Slice lo hi Option.none _) _,F=>M.bind (r.ev o F) fun ov=>
   M.bind (match lo with | some e=>r.ev e F | Option.none=>M.pure .none) fun lv=>
   M.bind (match hi with | some e=>r.ev e F | Option.none=>M.pure .none) fun hv=>
   match uB6 lv,uB6 hv with
   | some l,some h=>uBh P ov l h
   | _,_=>M.fail
 | .Subscript o i _,F=>M.bind (r.ev o F) fun ov=>M.bind (r.ev i F) fun iv=>getItem ov iv
 | .ListComp elt gens scope _,F=>compE P r F elt scope (compOf gens)
 | _,_=>M.fail
noncomputable def tstAll(F:FE)(op:BoolOp):List Expr→M Bool
 | []=>M.pure (decide (op=.And))
 | x::xs=>M.bind (r.tst x F) fun b=>match op,b with
  | .And,false=>M.pure false
  | .Or,true=>M.pure true
  | _,_=>tstAll F op xs
noncomputable def tstE:Expr→FE→M Bool
 | .UnaryOp .Not e _,F=>M.bind (r.tst e F) fun b=>M.pure (!b)
 | .BoolOp op vs _,F=>tstAll r F op vs
 | .Compare a [op] [b] _,F=>if behindInMarks op b then M.fail else M.bind (r.ev a F) fun x=>M.bind (r.ev b F) fun y=>uB7 op x y
 | .IfExp ..,_=>M.fail
 | .UnaryOp ..,_=>M.fail
 | .Compare ..,_=>M.fail
 | e,F=>M.bind (r.ev e F) fun v=>truthy v
noncomputable def uFi(F:FE)(tgt:Expr)(body orelse:List Stmt)(it:It):Nat→Nat→M Fl
 | 0,_=>M.fail
 | n+1,p=>M.bind (it.at p) fun x=>match x with
  | Option.none=>r.ex orelse F
  | some v=>M.bind (asg P r F tgt v) fun _=>M.bind (r.ex body F) fun fl=>match fl with
   | .next=>uFi F tgt body orelse it n (p+1)
   | .cont=>uFi F tgt body orelse it n (p+1)
   | .brk=>M.pure .next
   | .ret v=>M.pure (.ret v)
noncomputable def uCq(F:FE)(x y:Str)(body orelse:List Stmt)(l:Nat):Nat→Nat→M Fl
 | 0,_=>M.fail
 | n+1,p=>M.bind ((It.lst l).at p) fun v=>match v with
  | Option.none=>r.ex orelse F
  | some v=>M.bind (storeName F x (.int p)) fun _=>M.bind (storeName F y v) fun _=>M.bind (r.ex body F) fun fl=>match fl with
   | .next=>uCq F x y body orelse l n (p+1)
   | .cont=>uCq F x y body orelse l n (p+1)
   | .brk=>M.pure .next
   | .ret v=>M.pure (.ret v)
noncomputable def uCp(F:FE)(t:Expr)(body orelse:List Stmt):Nat→M Fl
 | 0=>M.fail
 | n+1=>M.bind (r.tst t F) fun b=>if b then M.bind (r.ex body F) fun fl=>(match fl with
   | .next=>uCp F t body orelse n
   | .cont=>uCp F t body orelse n
   | .brk=>M.pure .next
   | .ret v=>M.pure (.ret v)) else r.ex orelse F
noncomputable def augOp(op:Operator)(a b:AV):M AV:=match op,a,b with
 | .Add,.int x,.int y=>M.pure (.int (x+y))
 | .Sub,.int x,.int y=>M.pure (.int (x-y))
 | _,_,_=>M.fail
noncomputable def uH5:AX→Option Str
 | .stop=>some (Str.ofString "StopIteration")
 | .cycL=>some (Str.ofString "CycleError")
 | .cyc=>Option.none
noncomputable def forS(F:FE)(tgt iter:Expr)(body orelse:List Stmt):Option ((Str×Str)×Str×Expr)→M Fl
 | some ((x,y),en,a)=>if F.hm then M.fail else
  if en=Str.ofString "enumerate"∧F.kind en=some .globalImplicit∧uAz [a]=true then M.bind (r.ev a F) fun v=>match v with
   | .ref l=>calm (uCq r F x y body orelse l lim 0)
   | _=>M.fail
  else M.fail
 | Option.none=>if F.hm||uB3 iter then M.fail else M.bind (r.ev iter F) fun xv=>M.bind (uB8 xv) fun it=>calm (uFi P r F tgt body orelse it lim 0)
noncomputable def delS(F:FE):Option (Expr×Expr)→M Fl
 | some (o,i)=>M.bind (r.ev o F) fun ov=>M.bind (r.ev i F) fun iv=>M.bind (delItem ov iv) fun _=>M.pure .next
 | Option.none=>M.fail
noncomputable def raiseS(F:FE):Option (Str×List Expr)→M Fl
 | some (c,args)=>if F.hm then M.fail else match F.kind c,P.glob.lookup c with
  | some .globalImplicit,some (.st (.ref C))=>match P.cls.lookup C with
   | some .exc=>if uAz args then M.bind (evL r F args) fun vs=>if vs.length≤lz then M.raise .cyc else M.fail else M.fail
   | _=>M.fail
  | _,_=>M.fail
 | Option.none=>M.fail
noncomputable def tryS(F:FE)(body:List Stmt):Option (Str×Stmt×List Stmt)→M Fl
 | some (c,h₀,hb)=>if F.hm then M.fail else fun s=>match r.ex body F s with
  | some (.ok fl,s')=>some (.ok fl,s')
  | some (.exc x,s')=>if uH5 x=some c∧F.kind c=some .globalImplicit then calm (r.ex (h₀::hb) { F with hm:=true }) s' else Option.none
  | Option.none=>Option.none
 | Option.none=>M.fail
noncomputable def exS:Stmt→FE→M Fl
 | .Expr e _,F=>if uCg e then M.bind (r.ev e F) fun _=>M.pure .next else M.fail
 | .Pass _,_=>M.pure .next
 | .Break _,_=>M.pure .brk
 | .Continue _,_=>M.pure .cont
 | .Return (some e) _,F=>M.bind (r.ev e F) fun v=>M.pure (.ret v)
 | .Return Option.none _,_=>M.pure (.ret .none)
 | .Assign ts e _,F=>if uCn ts e then M.fail else M.bind (if uCg e then r.ev e F else evE P r e F) fun v=>M.bind (uD4 P r F v ts) fun _=>M.pure .next
 | .AugAssign (.Name x _) op e _,F=>if F.kind x=some .local then M.bind (loadName P F x) fun a=>M.bind (r.ev e F) fun b=>M.bind (augOp op a b) fun c=>M.bind (storeName F x c) fun _=>M.pure .next else M.fail
 | .AugAssign (.Attribute o x _) op e _,F=>M.bind (r.ev o F) fun ov=>M.bind (getAttr P ov x) fun a=>M.bind (r.ev e F) fun b=>M.bind (augOp op a b) fun c=>M.bind (setAttr P ov x c) fun _=>M.pure .next
 | .If t a b _,F=>M.bind (r.tst t F) fun c=>if c then r.ex a F else r.ex b F
 | .While t body orelse _,F=>if F.hm then M.fail else calm (uCp r F t body orelse lim)
 | .For tgt iter body orelse _,F=>forS P r F tgt iter body orelse (enumOf tgt iter)
 | .Assert t _ _,F=>M.bind (r.tst t F) fun b=>if b then M.pure .next else M.fail
 | .Delete ts _,F=>delS r F (asSub1 ts)
 | .Raise e cause _,F=>raiseS P r F (excOf e cause)
 | .Try body hs oe fin _,F=>tryS r F body (tryOf hs oe fin)
 | _,_=>M.fail
noncomputable def exB(F:FE):List Stmt→M Fl
 | []=>M.pure .next
 | x::xs=>M.bind (exS P r x F) fun fl=>match fl with
  | .next=>exB F xs
  | fl=>M.pure fl
noncomputable def bindD(ns:List Str)(args:List AV)(s:St):Option (Res (List (Str×AV))×St):=match ns,args with
 | [x,y],[v]=>some (.ok [(x,v),(y,.none)],s)
 | _,_=>Option.none
noncomputable def bindP(f:Fn)(args:List AV):M (List (Str×AV)):=fun s=>match f.params.vararg with
 | some a=>if f.dflt=false∧(f.params.args.map (·.arg)).length≤args.length∧args.length≤lz then
   some (.ok (((f.params.args.map (·.arg)).zip args)++[(a.arg,.ref s.H.length)]),{ s with H:=s.H++[.tup (args.drop (f.params.args.map (·.arg)).length)] }) else Option.none
 | Option.none=>if f.dflt=false then (if args.length=(f.params.args.map (·.arg)).length then some (.ok ((f.params.args.map (·.arg)).zip args),s) else Option.none)
  else bindD (f.params.args.map (·.arg)) args s
noncomputable def uCd(sc:Scope)(bs:List (Str×AV)):List (Str×AV):=bs.filter fun b=>sc.names.lookup b.1=some .local
noncomputable def uA7(bs:List (Str×AV)):List (Str×NameKind)→M (List (Str×Nat))
 | []=>M.pure []
 | (x,k)::ns=>if k=.cell then M.bind (newN (.cell (bs.lookup x))) fun i=>M.bind (uA7 bs ns) fun c=>M.pure ((x,i)::c) else uA7 bs ns
noncomputable def uG8(f:Fn)(bs:List (Str×AV))(cs:List (Str×Nat)):M AV:=fun s=>
 match r.ex f.body { scope:=f.scope,cells:=cs } ⟨uCd f.scope bs,s.H⟩ with
 | some (.ok (.ret v),s')=>some (.ok v,⟨s.L,s'.H⟩)
 | some (.ok .next,s')=>some (.ok .none,⟨s.L,s'.H⟩)
 | some (.exc .cyc,s')=>match cs with
  | []=>some (.exc .cycL,⟨s.L,s'.H⟩)
  | _::_=>Option.none
 | _=>Option.none
noncomputable def uBr(f:Fn)(args:List AV):M AV:=M.bind (bindP f args) fun bs=>M.bind (uA7 bs f.scope.names) fun cs=>uG8 r f bs cs
noncomputable def uA1(C:Addr)(args:List AV):M AV:=match P.cls.lookup C with
 | some (.plain init)=>M.bind (newN (.idict [])) fun d=>M.bind (newN (.inst C d)) fun i=>match P.fn.lookup init with
  | some f=>M.bind (calm (uBr r f (.ref i::args))) fun v=>if v=.none then M.pure (.ref i) else M.fail
  | Option.none=>M.fail
 | some (.slots names init)=>M.bind (newN (.idict [])) fun d=>M.bind (newN (.slots C d (names.map fun _=>Option.none))) fun i=>match P.fn.lookup init with
  | some f=>M.bind (calm (uBr r f (.ref i::args))) fun v=>if v=.none then M.pure (.ref i) else M.fail
  | Option.none=>M.fail
 | _=>M.fail
noncomputable def biCall(id:String)(args:List AV):M AV:=match biTab.lookup id with
 | some b=>uAo P b args
 | Option.none=>M.fail
noncomputable def uC8(id:String)(self:Nat)(args:List AV):M AV:=if id = "list.append" then (match args with
  | [v]=>uDb (.ref self) v
  | _=>M.fail) else if id = "list_iterator.__next__" then (match args with
  | []=>uFn (.ref self)
  | _=>M.fail) else M.fail
noncomputable def pM:AO→Option (String×Nat)
 | .meth id self=>some (id,self)
 | _=>Option.none
noncomputable def mcK(args:List AV)(s:St)(q:String×Nat):Option (Res AV×St):=uC8 q.1 q.2 args s
noncomputable def uF8(f:AV)(args:List AV):M AV:=match f with
 | .st v=>match v with
  | .ref a=>match P.fn.lookup a with
   | some fn=>uBr r fn args
   | Option.none=>uA1 P r a args
  | .builtin id=>biCall P id args
  | .type t=>match tyTab.lookup t with
   | some t=>uBg t args
   | Option.none=>M.fail
  | _=>M.fail
 | .ref i=>fun s=>((s.H[i]?).bind pM).bind (mcK args s)
 | _=>M.fail
noncomputable def Rec.up:Rec:={ ev:=evE P r,tst:=tstE r,ex:=fun b F=>exB P r F b,call:=uF8 P r }
end
noncomputable def Rec.zero:Rec:={ ev:=fun _ _=>M.fail,tst:=fun _ _=>M.fail,ex:=fun _ _=>M.fail,call:=fun _ _=>M.fail }
noncomputable def run(P:uBb):Nat→Rec
 | 0=>Rec.zero
 | n+1=>Rec.up P (run P n)
noncomputable def pw:Program:=PySem.Challenge.pw_kt0075_01
noncomputable def top(i:Nat):Stmt:=pw.main.body.getD i (.Pass default)
noncomputable def uBy:Stmt→List Stmt
 | .ClassDef _ _ _ body ..=>body
 | _=>[]
noncomputable def uAd(qual:String)(dflt:Bool:=false):Stmt→Fn
 | .FunctionDef name args body _ _ _ scope ..=>{ name,qual:=Str.ofString qual,params:=args,body,scope,dflt }
 | _=>{ name:=Str.ofString "",qual:=Str.ofString "",params:=⟨[],[],Option.none,[],[],Option.none,[]⟩,body:=[],scope:=⟨.function,[],false,false,[]⟩ }
end
end Mine.Internal
end
section
set_option backward.match.sparseCases true
namespace Mine.Internal
open PySem
noncomputable def S(s:String):Str:=Str.ofString s
noncomputable def fns:List (Addr×Fn):=[
 (50,uAd "translate" false (top 4)),
 (62,uAd "escape" false (top 7)),
 (69,uAd "_translate" false (top 9)),
 (76,uAd "_join_translated_parts" false (top 10)),
 (91,uAd "_NodeInfo.__init__" false ((uBy (top 14)).getD 1 default)),
 (128,uAd "TopologicalSorter.__init__" true ((uBy (top 16)).getD 0 default)),
 (135,uAd "TopologicalSorter._get_nodeinfo" false ((uBy (top 16)).getD 1 default)),
 (142,uAd "TopologicalSorter.add" false ((uBy (top 16)).getD 2 default)),
 (147,uAd "TopologicalSorter.prepare" false ((uBy (top 16)).getD 3 default)),
 (154,uAd "TopologicalSorter.get_ready" false ((uBy (top 16)).getD 4 default)),
 (161,uAd "TopologicalSorter.is_active" false ((uBy (top 16)).getD 5 default)),
 (175,uAd "TopologicalSorter.done" false ((uBy (top 16)).getD 7 default)),
 (182,uAd "TopologicalSorter._find_cycle" false ((uBy (top 16)).getD 8 default)),
 (203,uAd "eq" false (top 18)),
 (210,uAd "and_" false (top 19)),
 (217,uAd "inv" false (top 20)),
 (224,uAd "lshift" false (top 21)),
 (231,uAd "or_" false (top 22)),
 (238,uAd "concat" false (top 23)),
 (245,uAd "countOf" false (top 24)),
 (252,uAd "indexOf" false (top 25)),
 (257,uAd "_law_rule" false (top 27)),
 (262,uAd "_law_takes" false (top 28)),
 (267,uAd "_law_fits" false (top 29)),
 (272,uAd "_law_needs" false (top 30)),
 (277,uAd "_law_rounds" false (top 31)),
 (282,uAd "_law_due" false (top 32)),
 (289,uAd "_law_joined" false (top 33)),
 (294,uAd "law" false (top 34))]
noncomputable def fr(a:Addr):AV:=.st (.ref a)
noncomputable def globs:List (Str×AV):=[(S "translate",fr 50),(S "escape",fr 62),(S "_translate",fr 69),(S "_join_translated_parts",fr 76),
 (S "_special_chars_map",fr 52),(S "_NODE_OUT",.int (-1)),(S "_NODE_DONE",.int (-2)),(S "_NodeInfo",fr 95),(S "CycleError",fr 110),(S "TopologicalSorter",fr 192),
 (S "eq",fr 203),(S "and_",fr 210),(S "inv",fr 217),(S "lshift",fr 224),(S "or_",fr 231),(S "concat",fr 238),(S "countOf",fr 245),(S "indexOf",fr 252),
 (S "_law_rule",fr 257),(S "_law_takes",fr 262),(S "_law_fits",fr 267),(S "_law_needs",fr 272),(S "_law_rounds",fr 277),(S "_law_due",fr 282),(S "_law_joined",fr 289)]
noncomputable def bis:List (Str×AV):=[(S "len",.st (.builtin "len")),(S "isinstance",.st (.builtin "isinstance")),(S "hasattr",.st (.builtin "hasattr")),(S "iter",.st (.builtin "iter")),
 (S "sum",.st (.builtin "sum")),(S "range",.st (.type "range")),(S "list",.st (.type "list")),(S "tuple",.st (.type "tuple")),(S "object",.st (.type "object")),
 (S "set",.st (.type "set")),(S "type",.st (.type "type")),(S "bool",.st (.type "bool")),(S "str",.st (.type "str")),(S "StopIteration",.st (.type "StopIteration"))]
noncomputable def PG:uBb:={
 glob:=globs,bi:=bis,fn:=fns,
 cls:=[(95,.slots [S "node",S "npredecessors",S "successors"] 91),(110,.exc),(192,.plain 128)],
 meth:=[(192,[(S "_get_nodeinfo",135),(S "add",142),(S "prepare",147),(S "get_ready",154),(S "is_active",161),(S "done",175),(S "_find_cycle",182)])],
 attr:=[(192,[S "_node2info",S "_ready_nodes",S "_npassedout",S "_nfinished"])],
 slot:=[(95,[(S "node",0),(S "npredecessors",1),(S "successors",2)])],
 tr:=[(46,sl "\\."),(97,sl "a")],trAt:=52 }
end Mine.Internal
namespace Mine.Internal
open PySem
noncomputable def nms:List AV:=[.str [97] (some 0),.str [46] (some 1),.str [97,97] (some 2),.str [97,46] (some 3),.str [46,97] (some 4),.str [46,46] (some 5)]
noncomputable def uFm:Fn:=uAd "law" false (top 34)
noncomputable def PGs(a:Addr)(ns:List Int):uBb:={ PG with scr:=(a,ns) }
noncomputable def lawF:FE:={ scope:=uFm.scope,cells:=[(S "row",0)] }
noncomputable def lawSt(a:Addr):St:=⟨[(S "script",.st (.ref a)),(S "names",.ref 1)],[.cell Option.none,.list nms]⟩
end Mine.Internal
end
section
set_option backward.match.sparseCases true
set_option Elab.async false
namespace Mine.Internal
open PySem PySem.W PyProof.Rows
noncomputable def vs(s:String)(t:Nat):Value:=.str (Str.ofString s) t
noncomputable def en(P:Params)(s:String)(t:Nat)(v:Value):DictEntry:={ hash:=PyData.keyHash P (Str.ofString s),key:=vs s t,val:=v }
noncomputable def ie(i t:Nat)(s:String)(u:Nat):DictEntry:={ hash:=i,key:=.int i t,val:=vs s u }
noncomputable def fo(f:Fn)(d:Value)(m:String)(t c:Nat):Obj:={ cls:=.type "function",data:=.func { name:=f.name,qualname:=f.qual,params:=f.params,body:=.stmts f.body,scope:=f.scope,globals:=3,closure:=[],defaults:=d,kwdefaults:=.none,pyModule:=vs m t,code:=.ref c } }
noncomputable def co(n q:String)(t line k fl a:Nat)(loc:Bool)(x:Nat):Obj:={ cls:=.type "code",data:=.fields (#[vs n t,vs q (t+1),vs "/claim/cut.py" (t+2),.int line 0,.int k 0,.int 0 0,.int 0 0,.int fl 0,.ref a,.bool true,.int 276 0,.ref (a+1),.none]++(if loc then #[.ref (a+2),.ref (a+3),.ref (a+4)] else #[.none,.none,.ref (a+2)])++#[.int x 0,.int line 0,vs "/claim/cut.py" (x+1)]) }
noncomputable def KK(P:Params):Frag:=[
 (3,{ cls:=.type "dict",data:=Data.dict #[(en P "__name__" 165 (vs "law_kt0075_01" 779)),(en P "__doc__" 166 (.none)),(en P "__package__" 167 (.none)),(en P "__loader__" 168 (.builtin "__main__.__loader__#opaque")),(en P "__spec__" 169 (.none)),(en P "__annotations__" 170 (.ref 6)),(en P "__builtins__" 171 (.ref 4)),(en P "__file__" 173 (vs "/claim/cut.py" 172)),(en P "__cached__" 174 (.none)),(en P "_sre" 275 (.ref 12)),(en P "_wall" 288 (.ref 38)),(en P "_twin_re_1" 328 (.ref 43)),(en P "translate" 337 (.ref 50)),(en P "_special_chars_map" 485 (.ref 52)),(en P "escape" 492 (.ref 62)),(en P "_translate" 513 (.ref 69)),(en P "_join_translated_parts" 526 (.ref 76)),(en P "_NODE_OUT" 531 (.int (-1) 530)),(en P "_NODE_DONE" 534 (.int (-2) 533)),(en P "_NodeInfo" 571 (.ref 95)),(en P "CycleError" 589 (.ref 110)),(en P "TopologicalSorter" 708 (.ref 192)),(en P "eq" 718 (.ref 203)),(en P "and_" 726 (.ref 210)),(en P "inv" 733 (.ref 217)),(en P "lshift" 741 (.ref 224)),(en P "or_" 749 (.ref 231)),(en P "concat" 758 (.ref 238)),(en P "countOf" 768 (.ref 245)),(en P "indexOf" 778 (.ref 252)),(en P "_law_rule" 786 (.ref 257)),(en P "_law_takes" 792 (.ref 262)),(en P "_law_fits" 798 (.ref 267)),(en P "_law_needs" 804 (.ref 272)),(en P "_law_rounds" 810 (.ref 277)),(en P "_law_due" 816 (.ref 282)),(en P "_law_joined" 825 (.ref 289)),(en P "law" 831 (.ref 294))] 38 }),
 (37,co "_wall" "_wall" 282 2 1 3 32 true 286),
 (49,co "translate" "translate" 329 7 1 3 44 true 335),
 (50,fo (uAd "translate" false (top 4)) .none "cpy313.fnmatch" 289 49),
 (52,{ cls:=.type "dict",data:=Data.dict #[ie 40 341 "\\(" 345,ie 41 347 "\\)" 351,ie 91 353 "\\[" 357,ie 93 359 "\\]" 363,ie 123 365 "\\{" 369,ie 125 371 "\\}" 375,ie 63 377 "\\?" 381,ie 42 383 "\\*" 387,ie 43 389 "\\+" 393,ie 45 395 "\\-" 399,ie 124 401 "\\|" 405,ie 94 407 "\\^" 411,ie 36 413 "\\$" 417,ie 92 419 "\\\\" 423,ie 46 425 "\\." 429,ie 38 431 "\\&" 435,ie 126 437 "\\~" 441,ie 35 443 "\\#" 447,ie 32 449 "\\ " 453,ie 9 455 "\\\t" 459,ie 10 461 "\\\n" 465,ie 13 467 "\\\x0d" 471,ie 11 473 "\\\x0b" 477,ie 12 479 "\\\x0c" 483] 24 }),
 (61,co "escape" "escape" 486 13 1 3 56 true 490),
 (62,fo (uAd "escape" false (top 7)) .none "re" 338 61),
 (68,co "_translate" "_translate" 495 20 3 3 63 true 511),
 (69,fo (uAd "_translate" false (top 9)) .none "cpy313.fnmatch" 493 68),
 (75,co "_join_translated_parts" "_join_translated_parts" 514 82 2 3 70 true 524),
 (76,fo (uAd "_join_translated_parts" false (top 10)) .none "cpy313.fnmatch" 493 75),
 (90,co "__init__" "_NodeInfo.__init__" 551 115 2 3 85 true 556),
 (91,fo (uAd "_NodeInfo.__init__" false ((uBy (top 14)).getD 1 default)) .none "cpy313.graphlib" 527 90),
 (94,{ cls:=.type "dict",data:=Data.dict #[(en P "__module__" 542 (vs "cpy313.graphlib" 527)),(en P "__firstlineno__" 546 (.int 112 545)),(en P "__slots__" 550 (.ref 84)),(en P "__init__" 558 (.ref 91)),(en P "__static_attributes__" 562 (.ref 92)),(en P "node" 564 (.ref 96)),(en P "npredecessors" 566 (.ref 97)),(en P "successors" 568 (.ref 98)),(en P "__doc__" 569 (.none))] 5 }),
 (95,{ cls:=.type "type",data:=Data.cls { name:=S "_NodeInfo",bases:=[.type "object"],mro:=[.ref 95,.type "object"],ns:=94,qualname:=S "_NodeInfo",hasDict:=false,slotNames:=[S "node",S "npredecessors",S "successors"] },slots:=#[none,none,some (vs "_NodeInfo" 535),some (vs "_NodeInfo" 543),some (.builtin "object.__new__"),some (.bool false)] }),
 (96,{ cls:=.type "member_descriptor",data:=Data.fields #[vs "node" 563,.ref 95,.builtin "proto.slot",.builtin "proto.slot#set",.int 2 0] }),
 (97,{ cls:=.type "member_descriptor",data:=Data.fields #[vs "npredecessors" 565,.ref 95,.builtin "proto.slot",.builtin "proto.slot#set",.int 1 0] }),
 (98,{ cls:=.type "member_descriptor",data:=Data.fields #[vs "successors" 567,.ref 95,.builtin "proto.slot",.builtin "proto.slot#set",.int 0 0] }),
 (101,{ cls:=.type "tuple",data:=Data.seq #[.type "ValueError"] }),
 (109,{ cls:=.type "dict",data:=Data.dict #[(en P "__module__" 579 (vs "cpy313.graphlib" 527)),(en P "__firstlineno__" 583 (.int 119 582)),(en P "__static_attributes__" 584 (.ref 108)),(en P "__weakref__" 586 (.ref 111)),(en P "__doc__" 587 (.none))] 3 }),
 (110,{ cls:=.type "type",data:=Data.cls { name:=S "CycleError",bases:=[.type "ValueError"],mro:=[.ref 110,.type "ValueError",.type "Exception",.type "BaseException",.type "object"],ns:=109,qualname:=S "CycleError" },slots:=#[some (.ref 101),none,some (vs "CycleError" 572),some (vs "CycleError" 580),some (.builtin "ValueError.__new__"),some (.bool true)] }),
 (111,{ cls:=.type "getset_descriptor",data:=Data.fields #[vs "__weakref__" 585,.ref 110,.builtin "ExceptionGroup.__weakref__",.none] }),
 (121,{ cls:=.type "tuple",data:=Data.seq #[.none] }),
 (127,co "__init__" "TopologicalSorter.__init__" 602 123 2 3 122 true 609),
 (128,fo (uAd "TopologicalSorter.__init__" true ((uBy (top 16)).getD 0 default)) (.ref 121) "cpy313.graphlib" 527 127),
 (134,co "_get_nodeinfo" "TopologicalSorter._get_nodeinfo" 612 132 2 3 129 true 618),
 (135,fo (uAd "TopologicalSorter._get_nodeinfo" false ((uBy (top 16)).getD 1 default)) .none "cpy313.graphlib" 527 134),
 (141,co "add" "TopologicalSorter.add" 621 137 2 7 136 true 630),
 (142,fo (uAd "TopologicalSorter.add" false ((uBy (top 16)).getD 2 default)) .none "cpy313.graphlib" 527 141),
 (146,co "prepare" "TopologicalSorter.prepare" 633 146 1 3 143 false 636),
 (147,fo (uAd "TopologicalSorter.prepare" false ((uBy (top 16)).getD 3 default)) .none "cpy313.graphlib" 527 146),
 (153,co "get_ready" "TopologicalSorter.get_ready" 639 154 1 3 148 true 646),
 (154,fo (uAd "TopologicalSorter.get_ready" false ((uBy (top 16)).getD 4 default)) .none "cpy313.graphlib" 527 153),
 (160,co "is_active" "TopologicalSorter.is_active" 649 165 1 3 155 true 653),
 (161,fo (uAd "TopologicalSorter.is_active" false ((uBy (top 16)).getD 5 default)) .none "cpy313.graphlib" 527 160),
 (167,co "__bool__" "TopologicalSorter.__bool__" 656 170 1 3 162 true 660),
 (174,co "done" "TopologicalSorter.done" 663 173 1 7 169 true 674),
 (175,fo (uAd "TopologicalSorter.done" false ((uBy (top 16)).getD 7 default)) .none "cpy313.graphlib" 527 174),
 (181,co "_find_cycle" "TopologicalSorter._find_cycle" 677 196 1 3 176 true 687),
 (182,fo (uAd "TopologicalSorter._find_cycle" false ((uBy (top 16)).getD 8 default)) .none "cpy313.graphlib" 527 181),
 (188,co "static_order" "TopologicalSorter.static_order" 690 225 1 3 183 true 694),
 (191,{ cls:=.type "dict",data:=Data.dict #[(en P "__module__" 597 (vs "cpy313.graphlib" 527)),(en P "__firstlineno__" 601 (.int 121 600)),(en P "__init__" 611 (.ref 128)),(en P "_get_nodeinfo" 620 (.ref 135)),(en P "add" 632 (.ref 142)),(en P "prepare" 638 (.ref 147)),(en P "get_ready" 648 (.ref 154)),(en P "is_active" 655 (.ref 161)),(en P "__bool__" 662 (.ref 168)),(en P "done" 676 (.ref 175)),(en P "_find_cycle" 689 (.ref 182)),(en P "static_order" 696 (.ref 189)),(en P "__static_attributes__" 701 (.ref 190)),(en P "__dict__" 703 (.ref 193)),(en P "__weakref__" 705 (.ref 194)),(en P "__doc__" 706 (.none))] 4 }),
 (192,{ cls:=.type "type",data:=Data.cls { name:=S "TopologicalSorter",bases:=[.type "object"],mro:=[.ref 192,.type "object"],ns:=191,qualname:=S "TopologicalSorter" },slots:=#[none,none,some (vs "TopologicalSorter" 590),some (vs "TopologicalSorter" 598),some (.builtin "object.__new__"),some (.bool true)] }),
 (193,{ cls:=.type "getset_descriptor",data:=Data.fields #[vs "__dict__" 702,.ref 192,.builtin "function.__dict__",.builtin "function.__dict__#set"] }),
 (194,{ cls:=.type "getset_descriptor",data:=Data.fields #[vs "__weakref__" 704,.ref 192,.builtin "ExceptionGroup.__weakref__",.none] }),
 (202,co "eq" "eq" 711 228 2 3 197 true 716),
 (203,fo (uAd "eq" false (top 18)) .none "cpy313.operator" 709 202),
 (209,co "and_" "and_" 719 230 2 3 204 true 724),
 (210,fo (uAd "and_" false (top 19)) .none "cpy313.operator" 709 209),
 (216,co "inv" "inv" 727 232 1 3 211 true 731),
 (217,fo (uAd "inv" false (top 20)) .none "cpy313.operator" 709 216),
 (223,co "lshift" "lshift" 734 234 2 3 218 true 739),
 (224,fo (uAd "lshift" false (top 21)) .none "cpy313.operator" 709 223),
 (230,co "or_" "or_" 742 236 2 3 225 true 747),
 (231,fo (uAd "or_" false (top 22)) .none "cpy313.operator" 709 230),
 (237,co "concat" "concat" 750 238 2 3 232 true 756),
 (238,fo (uAd "concat" false (top 23)) .none "cpy313.operator" 709 237),
 (244,co "countOf" "countOf" 759 243 2 3 239 true 766),
 (245,fo (uAd "countOf" false (top 24)) .none "cpy313.operator" 709 244),
 (251,co "indexOf" "indexOf" 769 249 2 3 246 true 776),
 (252,fo (uAd "indexOf" false (top 25)) .none "cpy313.operator" 709 251),
 (256,co "_law_rule" "_law_rule" 781 256 1 3 253 false 784),
 (257,fo (uAd "_law_rule" false (top 27)) .none "law_kt0075_01" 779 256),
 (261,co "_law_takes" "_law_takes" 787 259 2 3 258 false 790),
 (262,fo (uAd "_law_takes" false (top 28)) .none "law_kt0075_01" 779 261),
 (266,co "_law_fits" "_law_fits" 793 278 2 3 263 false 796),
 (267,fo (uAd "_law_fits" false (top 29)) .none "law_kt0075_01" 779 266),
 (271,co "_law_needs" "_law_needs" 799 286 2 3 268 false 802),
 (272,fo (uAd "_law_needs" false (top 30)) .none "law_kt0075_01" 779 271),
 (276,co "_law_rounds" "_law_rounds" 805 297 2 3 273 false 808),
 (277,fo (uAd "_law_rounds" false (top 31)) .none "law_kt0075_01" 779 276),
 (281,co "_law_due" "_law_due" 811 315 2 3 278 false 814),
 (282,fo (uAd "_law_due" false (top 32)) .none "law_kt0075_01" 779 281),
 (288,co "_law_joined" "_law_joined" 817 328 1 3 283 true 823),
 (289,fo (uAd "_law_joined" false (top 33)) .none "law_kt0075_01" 779 288),
 (293,co "law" "law" 826 333 1 3 290 false 829),
 (294,fo (uAd "law" false (top 34)) .none "law_kt0075_01" 779 293)]
noncomputable def pp:Program:=PySem.Challenge.rw_kt0075_01.row.toRowW.prog
noncomputable def qv:Program:=view pp [34]
noncomputable def loo:List Str:=[S "_sre",S "_wall",S "__name__",S "_twin_re_1",S "translate",S "_special_chars_map",S "escape",S "_translate",S "_join_translated_parts",S "_NODE_OUT",S "_NODE_DONE",S "_NodeInfo",S "CycleError",S "TopologicalSorter",S "eq",S "and_",S "inv",S "lshift",S "or_",S "concat",S "countOf",S "indexOf",S "_law_rule",S "_law_takes",S "_law_fits",S "_law_needs",S "_law_rounds",S "_law_due",S "_law_joined"]
noncomputable def hk:Hook:=kHook KK [3,37,49,50,52,61,62,68,69,75,76,90,91,94,95,96,97,98,101,109,110,111,121,127,128,134,135,141,142,146,147,153,154,160,161,167,174,175,181,182,188,191,192,193,194,202,203,209,210,216,217,223,224,230,231,237,238,244,245,251,252,256,257,261,262,266,267,271,272,276,277,281,282,288,289,293,294] (fun _=>by kernel_rfl)
noncomputable def Xt(s:Shared):Bool:=xlAt qv [] s&&recOk (RowW.records PySem.Challenge.rw_kt0075_01.row.toRowW) s
theorem thrq(t:Thread):through t=(endAt 0 t).isSome:=by
 obtain ⟨cur,code,pos,stack⟩:=t;cases stack with
 | nil=>cases cur with
  | pure x=>cases x<;>rfl
  | _=>rfl
 | cons a l=>rfl
theorem uVd{tb:String→Option Builtin}{p:Program}{w:World}{n₀:Nat}{ann:Option Value}{f:Flow}{s':Shared}{c:Code}{q:Pos}(n:Nat):∀ s t,segRun tb p w n₀ ann 0 n s t=some (f,s',c,q)→topRun tb p w n₀ ann n s t=some s':=by
 induction n with
 | zero=>intro s t h;cases h
 | succ n ih=>
  intro s t h;unfold segRun at h;unfold topRun;rw [thrq];rcases he:endAt 0 t with _|g
  ·rw [he] at h;dsimp only [Option.isSome] at h ⊢;rcases hk:stepOk n₀ ann t with _|_
   ·rw [hk] at h;cases h
   ·rw [hk] at h;dsimp only at h ⊢;rcases hs:step (denote tb) p w s t with ⟨s1,t1⟩|⟨o,s1⟩
    ·rw [hs] at h;exact ih _ _ h
    ·rw [hs] at h;cases h
  ·rw [he] at h;cases h;rfl
noncomputable def fzq(m:Str)(s:Shared):Option (Addr×Obj):=match boundIn s.heap sysModules m,tameNamesOf? m with
 | some (.ref a),some row=>(match s.heap.get? a with
  | some o=>(match o.dict with
   | some D=>(match s.heap.get? D with
    | some od=>(fenceDict? m row od).map fun x=>(D,x)
    | none=>none)
   | none=>none)
  | none=>none)
 | _,_=>none
theorem uXa(m:Str)(s:Shared):fenceModule? m s=(fzq m s).map fun x=>{ s with heap:=s.heap.update x.1 fun _=>x.2 }:=by
 unfold fenceModule? fzq;generalize boundIn s.heap sysModules m=b;generalize tameNamesOf? m=tn;rcases b with _|v
 ·rfl
 ·cases v with
  | ref a=>
   rcases tn with _|row
   ·rfl
   ·dsimp only;rcases s.heap.get? a with _|o
    ·rfl
    ·dsimp only;rcases o.dict with _|D
     ·rfl
     ·dsimp only;rcases s.heap.get? D with _|od
      ·rfl
      ·dsimp only;cases fenceDict? m row od<;>rfl
  | _=>rfl
noncomputable def fzsq(p:Program)(m:Str):Prop:=∀ s,fenceModules? p s=(fzq m s).map fun x=>{ s with heap:=s.heap.update x.1 fun _=>x.2 }
noncomputable def Tq(x:SharedT)(d:Addr×Obj):SharedT:=⟨x.tree.set d.1 fun _=>d.2,x.n,x.life,x.gens,x.drawn,x.toks,x.os⟩
noncomputable def Eq3(p q:Program)(m:Str)(s:SharedT)(t:Thread)(w:World):Option ((SharedT×Thread)×(Addr×Obj)×(Flow×SharedT×Code×Pos)):=
 (impGoT treeTable q w 798 s t).bind fun x=>
  (fzq m x.1.abs).bind fun d=>
   (segRunT treeTable p w x.1.n ((Tq x.1 d).abs.heap.nsMap mainGlobals "__annotations__") 0 3100 (Tq x.1 d) (topStub p)).map fun y=>(x,d,y)
noncomputable def gdq(p:Program)(s s₁:Shared):Bool:=staticsOk (importedModules p.main.body) s.heap s₁.heap&&namesBound p s₁.heap&&gensDone s₁&&laidKept s.heap s₁.heap
noncomputable def bgq(t:Thread):Bool:=match t.atExitBegin with | some []=>true | _=>false
noncomputable def Fq{β:Type}(p q:Program)(m:Str)(s:SharedT)(t:Thread)(g:Shared→β)(v:World→β)(w:World):Prop:=
 (Eq3 p q m s t w).map (fun r=>(bgq r.1.2,(r.1.1.tree.get r.2.1.1).isSome,(Tq r.1.1 r.2.1).abs.heap.isNs mainGlobals&&(Tq r.1.1 r.2.1).abs.gens.size==0,
  gdq p (Tq r.1.1 r.2.1).abs r.2.2.2.1.abs,g r.2.2.2.1.abs))=some (true,true,true,true,v w)
theorem endq{β:Type}{p:Program}{m:Str}{s:SharedT}{g:Shared→β}{v:World→β}{w:World}(hs:s.abs=(start (opening p)).1)(hf:fzsq p m)(h:Fq p (opening p) m s (start (opening p)).2 g v w):(openEnds treeTable p w 7000).map g=some (v w):=by
 obtain ⟨r,e,q⟩:=Option.map_eq_some_iff.mp h;obtain ⟨x,e1,e2⟩:=Option.bind_eq_some_iff.mp e;obtain ⟨d,e3,e4⟩:=Option.bind_eq_some_iff.mp e2;obtain ⟨⟨fl,y,c,ps⟩,e5,rfl⟩:=Option.map_eq_some_iff.mp e4;rw [Prod.mk.injEq,Prod.mk.injEq,Prod.mk.injEq,Prod.mk.injEq] at q;obtain ⟨q1,q2,q3,q4,q5⟩:=q;dsimp only at q1 q2 q3 q4 q5;have i:importEnds treeTable (opening p) w (798+6202) (start (opening p)).1 (start (opening p)).2=some x.1.abs:=by
  rw [← hs];refine imp_go (impGo_of e1) ?_;unfold bgq at q1;unfold importEnds;rcases hh:x.2.atExitBegin with _|_|_
  ·rw [hh] at q1;cases q1
  ·rfl
  ·rw [hh] at q1;cases q1
 obtain ⟨o,ho⟩:=Option.isSome_iff_exists.mp q2;have f:fencedOpening treeTable p w 7000=some (Tq x.1 d).abs:=by
  unfold fencedOpening;rw [i];show fenceModules? p x.1.abs=_;rw [hf,e3];show some _=_;unfold Tq SharedT.abs;rw [absHeap_set ho]
 have t:=topRun_mono (7000-3100) _ _ _ _ (uVd _ _ _ (segRun_of e5));unfold openEnds;rw [f];show (topFrom treeTable p w 7000 (Tq x.1 d).abs).map g=_;unfold topFrom;rw [q3];dsimp only;rw [show (Tq x.1 d).abs.heap.objs.size=x.1.n from absHeap_size _ _ _,t];show (match gdq p (Tq x.1 d).abs y.abs with | true=>some y.abs | false=>none).map g=_;rw [q4];exact congrArg some q5
noncomputable def sreq:Str:=S "_sre"
theorem fenq:fzsq pp sreq:=by
 intro s;have h1:importedModules pp.main.body=[sreq]:=by kernel_rfl
 have h2:pp.main.body.any namesNumpy=false:=by kernel_rfl
 unfold fenceModules?;rw [h1,h2,← uXa];unfold fenceAll?;generalize fenceModule? sreq s=x;cases x<;>rfl
noncomputable def Sq0:SharedT:=⟨.nil,0,{},#[],{},1,(start (opening pp)).1.os⟩
theorem Sq0e:Sq0.abs=(start (opening pp)).1:=by kernel_rfl
noncomputable def LP(w:World):Prop:=Fq pp (opening pp) sreq Sq0 (start (opening pp)).2 (fun s=>(openSeen qv loo (importedModules pp.main.body) Xt true s,Hook.obs hk s)) (fun w=>(openGood qv loo,Hook.val hk w)) w
theorem l00(w:World):LP ((w.withFollow "special-get-raises" false).withFollow "comprehension-iter-twice" false):=by unfold LP Fq Eq3;rw [PySem.W.Fast.te14789777615569096658,PySem.W.Fast.te10110043849684766642];kernel_rfl
theorem l01(w:World):LP ((w.withFollow "special-get-raises" false).withFollow "comprehension-iter-twice" true):=by unfold LP Fq Eq3;rw [PySem.W.Fast.te14789777615569096658,PySem.W.Fast.te10110043849684766642];kernel_rfl
theorem l10(w:World):LP ((w.withFollow "special-get-raises" true).withFollow "comprehension-iter-twice" false):=by unfold LP Fq Eq3;rw [PySem.W.Fast.te14789777615569096658,PySem.W.Fast.te10110043849684766642];kernel_rfl
theorem l11(w:World):LP ((w.withFollow "special-get-raises" true).withFollow "comprehension-iter-twice" true):=by unfold LP Fq Eq3;rw [PySem.W.Fast.te14789777615569096658,PySem.W.Fast.te10110043849684766642];kernel_rfl
theorem left:LeftO pp qv loo Xt (Hook.obs hk) (Hook.val hk) 7000:=fun w=>endq (v:=fun w=>(openGood qv loo,Hook.val hk w)) Sq0e fenq (byRow2 "comprehension-iter-twice" (P:=LP)
 (byRow2 "special-get-raises" (P:=fun v=>LP (v.withFollow "comprehension-iter-twice" false)) l00 l10)
 (byRow2 "special-get-raises" (P:=fun v=>LP (v.withFollow "comprehension-iter-twice" true)) l01 l11) w)
end Mine.Internal
end
section
local macro_rules (kind:=Lean.Parser.Tactic.cases) | x=>Mine.Internal.mc x x[1][0][1]
local macro_rules (kind:=Lean.Parser.Tactic.rwSeq) | x=>Mine.Internal.mw x
section
namespace Mine.Internal
open PySem PySem.W PyProof.Rows PySem.Calls
section
theorem slp{a i:Nat}:i<a+(i+1-a):=Nat.sub_le_iff_le_add'.mp (Nat.le_refl _)
theorem n63{n:Nat}(h:n≤sizeLine):(n:Int)<2 ^ 63:=Int.lt_of_lt_of_le (Int.ofNat_lt.mpr (Nat.lt_of_le_of_lt h (by decide:sizeLine<2 ^ 62))) (by decide)
theorem v8{a n c:Nat}(h:a+8*(n+1)<c):a+8<c:=Nat.lt_of_le_of_lt (Nat.add_le_add_left (Nat.le_add_left 8 (8*n)) a) h
theorem uTn{o:AO}{g:List AV}(h:pL o=some g):o=.list g:=by cases o<;>first | exact nn h | (cases h;rfl)
theorem uUb{o:AO}{g:List AV}(h:pT o=some g):o=.tup g:=by cases o<;>first | exact nn h | (cases h;rfl)
theorem uL9{o:Option AO}{g:List AV}(h:o.bind pL=some g):o=some (.list g):=by obtain ⟨a,rfl,e⟩:=Option.bind_eq_some_iff.mp h;rw [uTn e]
theorem uUc{o:Option AO}{g:List AV}(h:o.bind pT=some g):o=some (.tup g):=by obtain ⟨a,rfl,e⟩:=Option.bind_eq_some_iff.mp h;rw [uUb e]
theorem u00{o:AO}{g:Option AV}(h:pC o=some g):o=.cell g:=by cases o<;>first | exact nn h | (cases h;rfl)
theorem u0v{o:AO}{g:List (Str×AV)}(h:pI o=some g):o=.idict g:=by cases o<;>first | exact nn h | (cases h;rfl)
theorem uUd{o:Option AO}{g:Option AV}(h:o.bind pC=some g):o=some (.cell g):=by obtain ⟨a,rfl,e⟩:=Option.bind_eq_some_iff.mp h;rw [u00 e]
theorem uL4{o:Option AO}{g:List (Str×AV)}(h:o.bind pI=some g):o=some (.idict g):=by obtain ⟨a,rfl,e⟩:=Option.bind_eq_some_iff.mp h;rw [u0v e]
theorem uWt{o:AO}{l:Nat}{p:Option Nat}(h:pLi o=some (l,p)):o=.liter l p:=by cases o<;>first | exact nn h | (cases h;rfl)
theorem u0i{o:AO}{d:String}{p:Nat}(h:pM o=some (d,p)):o=.meth d p:=by cases o<;>first | exact nn h | (cases h;rfl)
theorem uSz{o:Option AO}{l:Nat}{p:Option Nat}(h:o.bind pLi=some (l,p)):o=some (.liter l p):=by obtain ⟨a,rfl,e⟩:=Option.bind_eq_some_iff.mp h;rw [uWt e]
theorem uYa{o:Option AO}{d:String}{p:Nat}(h:o.bind pM=some (d,p)):o=some (.meth d p):=by obtain ⟨a,rfl,e⟩:=Option.bind_eq_some_iff.mp h;rw [u0i e]
theorem uU7{α:Type}{o:Option (Option α)}{v:α}(h:o.bind id=some v):o=some (some v):=by obtain ⟨a,rfl,e⟩:=Option.bind_eq_some_iff.mp h;rw [show a=some v from e]
noncomputable abbrev Own:=List (Addr×Obj)
noncomputable abbrev adr(own:Own):List Addr:=own.map Prod.fst
noncomputable abbrev mkS(l:List Nat):Str:=⟨l.toArray⟩
inductive FA{α β:Type}(R:α→β→Prop):List α→List β→Prop
 | nil:FA R [] []
 | cons {a:α} {b:β} {l:List α} {r:List β}:R a b→FA R l r→FA R (a::l) (b::r)
noncomputable abbrev uBt:=Nat→Tok×List Nat
inductive VR(τ:uBt)(φ:List Addr):AV→Value→Prop
 | none:VR τ φ .none .none
 | bool (b:Bool):VR τ φ (.bool b) (.bool b)
 | int (i:Int) (t:Tok):VR τ φ (.int i) (.int i t)
 | str (s:List Nat) (g:Option Nat) (t:Tok) (hs:s.length≤sizeLine) (hg:∀ k,g=some k→t=(τ k).1∧s=(τ k).2):VR τ φ (.str s g) (.str (mkS s) t)
 | ref {i:Nat} {a:Addr} (h:φ[i]?=some a):VR τ φ (.ref i) (.ref a)
 | st (v:Value):VR τ φ (.st v) v
noncomputable abbrev VRs(τ:uBt)(φ:List Addr)(xs:List AV)(vs:List Value):Prop:=FA (VR τ φ) xs vs
inductive OVR(τ:uBt)(φ:List Addr):Option AV→Option Value→Prop
 | none:OVR τ φ Option.none Option.none
 | some {v:AV} {rv:Value} (h:VR τ φ v rv):OVR τ φ (some v) (some rv)
noncomputable def EntR(τ:uBt)(φ:List Addr)(es:List (List Nat×AV))(kvs:List (Str×Value)):Prop:=
 FA (fun (e:List Nat×AV) (p:Str×Value)=>p.1=mkS e.1∧VR τ φ e.2 p.2) es kvs
noncomputable def uG1(prog:Program)(w:World)(τ:uBt)(φ:List Addr):AO→Obj→Prop
 | .list xs,ob=>∃ n vs,ob={ cls:=.type "list",data:=.seq (List.toArray vs) n }∧VRs τ φ xs vs∧xs.length≤sizeLine
 | .tup xs,ob=>∃ n vs,ob={ cls:=.type "tuple",data:=.seq (List.toArray vs) n }∧VRs τ φ xs vs∧xs.length≤sizeLine
 | .dict es g,ob=>ob.ExactDict∧∃ ds ep kvs,ob.data=.dict ds ep∧KeysOf (PySem.strKind prog w) ds∧Pairs (PySem.strKind prog w) ds.toList kvs∧(kvs.map Prod.fst).Nodup∧EntR τ φ es kvs∧(g=true→ep=es.length)
 | .sset ks,ob=>ob.ExactSet∧∃ es ep t,ob.data=.set es ep t∧ElemsOf (PySem.strKind prog w) es.toList∧(∀ k:Str,ks.contains k.cps.toList=true↔∃ e∈es.toList,(PySem.strKind prog w).is k e.2=true)∧
   es.size<scanBound∧t.fits es.size=true∧es.size=ks.length
 | .inst C d,ob=>∃ a,φ[d]?=some a∧ob=⟨.ref C,some a,.plain,#[]⟩
 | .idict es,ob=>∃ ds n,ob=dictOf ds n∧FA (fun (e:Str×AV) (p:DictEntry)=>(∃ t,p.key=.str e.1 t)∧VR τ φ e.2 p.val) es ds
 | .slots C d vs,ob=>∃ (a:Addr) (sl:Array (Option Value)),φ[d]?=some a∧ob=⟨.ref C,some a,.plain,sl⟩∧∀ (j:Nat) (v:AV),vs[j]?=some (some v)→∃ rv,(sl[j]?).join=some rv∧VR τ φ v rv
 | .cell v,ob=>∃ rv,ob.data=.cell rv∧OVR τ φ v rv
 | .obj,ob=>ob.isFreed=false
 | .liter l (some p),ob=>∃ a,φ[l]?=some a∧ob={ cls:=.type "list_iterator",data:=.fields #[.ref a,.int p 0] }
 | .liter _ none,ob=>ob.isFreed=false
 | .meth id self,ob=>∃ a,φ[self]?=some a∧(ob.cls=.type "builtin_function_or_method"∨ob.cls=.type "method-wrapper")∧ob.data=.fields #[.builtin id,.ref a]
 | .rng a b,ob=>∃ t u v,ob={ cls:=.type "range",data:=.fields #[.int a t,.int b u,.int 1 v] }
 | .dvals d,ob=>∃ a,φ[d]?=some a∧ob.cls=.type "dict_values"∧ob.data=.fields #[.ref a]
section mono
variable {prog:Program}{w:World}{τ:uBt}{φ ψ:List Addr}
theorem uA6{i:Nat}{a:Addr}(p:φ<+:ψ)(h:φ[i]?=some a):ψ[i]?=some a:=by
 obtain ⟨t,rfl⟩:=p;rw [List.getElem?_append_left (List.getElem?_eq_some_iff.mp h).1];exact h
theorem VR.mono{v:Mine.Internal.AV}{rv:Value}(p:φ<+:ψ)(h:VR τ φ v rv):VR τ ψ v rv:=by
 induction h using VR.casesOn with
 | none=>exact .none
 | bool b=>exact .bool b
 | int i t=>exact .int i t
 | str s g t hs hg=>exact .str s g t hs hg
 | ref h=>exact .ref (uA6 p h)
 | st=>exact .st _
theorem uDd{α β:Type}{R S:α→β→Prop}(h:∀ a b,R a b→S a b){l:List α}{r:List β}(q:FA R l r):FA S l r:=by
 induction q with
 | nil=>exact .nil
 | cons x _ ih=>exact .cons (h _ _ x) ih
theorem VRs.mono{xs:List AV}{vs:List Value}(p:φ<+:ψ)(h:VRs τ φ xs vs):VRs τ ψ xs vs:=uDd (fun _ _=>VR.mono p) h
theorem OVR.mono{v:Option AV}{rv:Option Value}(p:φ<+:ψ)(h:OVR τ φ v rv):OVR τ ψ v rv:=by
 induction h using OVR.casesOn with
 | none=>exact .none
 | some h=>exact .some (h.mono p)
theorem EntR.mono{es:List (List Nat×AV)}{kvs:List (Str×Value)}(p:φ<+:ψ)(h:EntR τ φ es kvs):EntR τ ψ es kvs:=uDd (fun _ _ x=>⟨x.1,x.2.mono p⟩) h
theorem uG1.mono{o:AO}{ob:Obj}(p:φ<+:ψ)(h:uG1 prog w τ φ o ob):uG1 prog w τ ψ o ob:=by
 induction o using AO.casesOn with
 | list xs=>obtain ⟨n,vs,c,d,e⟩:=h;exact ⟨n,vs,c,d.mono p,e⟩
 | tup xs=>obtain ⟨n,vs,c,d,e⟩:=h;exact ⟨n,vs,c,d.mono p,e⟩
 | dict es g=>obtain ⟨a,ds,ep,kvs,b,c,d,e,f,k⟩:=h;exact ⟨a,ds,ep,kvs,b,c,d,e,f.mono p,k⟩
 | sset ks=>exact h
 | inst C d=>obtain ⟨a,b,c⟩:=h;exact ⟨a,uA6 p b,c⟩
 | idict es=>obtain ⟨ds,n,b,c⟩:=h;exact ⟨ds,n,b,uDd (fun _ _ x=>⟨x.1,x.2.mono p⟩) c⟩
 | slots C d vs=>obtain ⟨a,sl,z,b,c⟩:=h;exact ⟨a,sl,uA6 p z,b,fun j v e=>let ⟨rv,x,y⟩:=c j v e;⟨rv,x,y.mono p⟩⟩
 | cell v=>obtain ⟨a,b,c⟩:=h;exact ⟨a,b,c.mono p⟩
 | obj=>exact h
 | liter l q=>
  induction q using Option.casesOn with
  | none=>exact h
  | some q=>obtain ⟨a,b,c⟩:=h;exact ⟨a,uA6 p b,c⟩
 | meth id self=>obtain ⟨a,b,c⟩:=h;exact ⟨a,uA6 p b,c⟩
 | rng a b=>exact h
 | dvals d=>obtain ⟨a,b,c⟩:=h;exact ⟨a,uA6 p b,c⟩
theorem uG1.free{o:AO}{ob:Obj}(h:uG1 prog w τ φ o ob):ob.isFreed=false:=by
 obtain ⟨c,d,dt,sl⟩:=ob;induction o using AO.casesOn with
 | list xs=>obtain ⟨n,vs,e,_⟩:=h;cases e;rfl
 | tup xs=>obtain ⟨n,vs,e,_⟩:=h;cases e;rfl
 | dict es g=>obtain ⟨_,ds,ep,kvs,e,_⟩:=h;cases e;rfl
 | sset ks=>obtain ⟨_,ds,ep,kvs,e,_⟩:=h;cases e;rfl
 | inst C d=>obtain ⟨a,_,e⟩:=h;cases e;rfl
 | idict es=>obtain ⟨a,b,e,_⟩:=h;cases e;rfl
 | slots C d vs=>obtain ⟨a,_,_,e,_⟩:=h;cases e;rfl
 | cell v=>obtain ⟨a,e,_⟩:=h;cases e;rfl
 | obj=>exact h
 | liter l q=>
  induction q using Option.casesOn with
  | none=>exact h
  | some q=>obtain ⟨a,_,e⟩:=h;cases e;rfl
 | meth id self=>obtain ⟨a,_,_,e⟩:=h;cases e;rfl
 | rng a b=>obtain ⟨t,u,v,e⟩:=h;cases e;rfl
 | dvals d=>obtain ⟨a,_,_,e⟩:=h;cases e;rfl
end mono
section fa2
variable {α β:Type}{R:α→β→Prop}
theorem uAn{l:List α}{r:List β}(h:FA R l r):l.length=r.length:=by
 induction h with
 | nil=>rfl
 | cons _ _ ih=>exact congrArg (· + 1) ih
theorem uDo{l:List α}{r:List β}(h:FA R l r):∀ {i:Nat} {a:α},l[i]?=some a→∃ b,r[i]?=some b∧R a b:=by
 induction h with
 | nil=>intro i a e;cases e
 | cons x _ ih=>
  intro i a e;induction i using Nat.casesOn with
  | zero=>cases e;exact ⟨_,rfl,x⟩
  | succ i=>exact ih (i:=i) e
theorem uEe:∀ {l:List α} {r:List β},FA R l r→∀ {i:Nat},l[i]?=none→r[i]?=none:=fun h i e=>by
 rw [List.getElem?_eq_none_iff] at e ⊢;rw [← uAn h];exact e
theorem uCv{l l':List α}{r r':List β}(h:FA R l r)(h':FA R l' r'):FA R (l++l') (r++r'):=by
 induction h with
 | nil=>exact h'
 | cons x _ ih=>exact .cons x ih
theorem uJ4{l:List α}{r:List β}(h:FA R l r)(i:Nat){a:α}{b:β}(x:R a b):FA R (l.set i a) (r.set i b):=by
 induction h generalizing i with
 | nil=>exact .nil
 | cons y t ih=>
  induction i using Nat.casesOn with
  | zero=>exact .cons x t
  | succ i=>exact .cons y (ih i)
theorem uLj{l:List α}{r:List β}(h:FA R l r)(n:Nat):FA R (l.take n) (r.take n):=by
 induction h generalizing n with
 | nil=>simp;exact .nil
 | cons y t ih=>induction n using Nat.casesOn with
  | zero=>exact .nil
  | succ n=>exact .cons y (ih n)
theorem uH0{l:List α}{r:List β}(h:FA R l r)(n:Nat):FA R (l.drop n) (r.drop n):=by
 induction h generalizing n with
 | nil=>simp;exact .nil
 | cons y t ih=>induction n using Nat.casesOn with
  | zero=>exact .cons y t
  | succ n=>exact ih n
end fa2
inductive NsR(τ:uBt)(own:Own)(Lc:Addr)(σ:St)(h:Heap):Prop
 | mk (mc:Str→Option Value):h.Ns Lc mc→(∀ x v,σ.L.lookup x=some v→∃ rv,mc x=some rv∧VR τ (adr own) v rv)→NsR τ own Lc σ h
structure Rel(prog:Program)(w:World)(τ:uBt)(h₀:Heap)(Lc:Addr)(X own:Own)(σ:St)(h:Heap):Prop where
 ns:NsR τ own Lc σ h
 keep:∀ b o,h₀.get? b=some o→h.get? b=some o
 above:h₀.objs.size≤Lc
 ownAt:∀ p∈own,h.get? p.1=some p.2∧p.1≠Lc∧h₀.get? p.1=none
 xAt:∀ p∈X,h.get? p.1=some p.2∧p.1≠Lc∧h₀.get? p.1=none
 nd:(adr own).Nodup
 off:∀ p∈own,∀ q∈X,p.1≠q.1
 objs:FA (fun o (p:Addr×Obj)=>uG1 prog w τ (adr own) o p.2) σ.H own
 big:sysModules<h₀.objs.size
 low:∀ p∈own,sysModules<p.1
section rel
variable {prog:Program}{w:World}{τ:uBt}{h₀ h h':Heap}{Lc:Addr}{X own:Own}{σ:St}
inductive AtR(prog:Program)(w:World)(τ:uBt)(own:Own)(h:Heap)(i:Nat)(o:AO):Prop
 | mk (a:Addr) (ob:Obj):own[i]?=some (a,ob)→(adr own)[i]?=some a→h.get? a=some ob→uG1 prog w τ (adr own) o ob→AtR prog w τ own h i o
theorem Rel.at(r:Rel prog w τ h₀ Lc X own σ h){i:Nat}{o:AO}(e:σ.H[i]?=some o):AtR prog w τ own h i o:=by
 obtain ⟨⟨a,ob⟩,h1,h2⟩:=uDo r.objs e;refine ⟨a,ob,h1,?_,(r.ownAt _ (List.mem_of_getElem? h1)).1,h2⟩;rw [List.getElem?_map,h1];rfl
theorem Rel.len(r:Rel prog w τ h₀ Lc X own σ h):own.length=σ.H.length:=(uAn r.objs).symm
theorem Rel.Lc_lt(r:Rel prog w τ h₀ Lc X own σ h):Lc<h.objs.size:=let ⟨_,a,_⟩:=r.ns;a.lt
theorem Rel.base_lt(r:Rel prog w τ h₀ Lc X own σ h):h₀.objs.size≤h.objs.size:=Nat.le_of_lt (Nat.lt_of_le_of_lt r.above r.Lc_lt)
theorem uA8{h₀:Heap}{a:Addr}(e:h₀.objs.size≤a):h₀.get? a=none:=by
 generalize q:h₀.get? a=zz;induction zz using Option.casesOn with
 | none=>rfl
 | some o=>exact absurd (Heap.lt_size q) (Nat.not_lt.mpr e)
inductive FrR(h₀:Heap)(τ:uBt)(own:Own)(Lc:Addr)(σ:St)(h:Heap):Prop
 | mk (mc:Str→Option Value):Fr h₀ Lc h mc→(∀ x v,σ.L.lookup x=some v→∃ rv,mc x=some rv∧VR τ (adr own) v rv)→FrR h₀ τ own Lc σ h
theorem Rel.fr(r:Rel prog w τ h₀ Lc X own σ h):FrR h₀ τ own Lc σ h:=
 let ⟨mc,a,b⟩:=r.ns;⟨mc,⟨a,r.keep,r.above⟩,b⟩
theorem Rel.news(r:Rel prog w τ h₀ Lc X own σ h):News h₀ Lc h (own++X):=fun p hp=>(List.mem_append.mp hp).elim (fun q=>r.ownAt p q) fun q=>r.xAt p q
theorem Rel.grow(r:Rel prog w τ h₀ Lc X own σ h)(k:∀ b o,h.get? b=some o→h'.get? b=some o):Rel prog w τ h₀ Lc X own σ h' where
 ns:=let ⟨mc,a,b⟩:=r.ns;⟨mc,a.keeps k,b⟩
 keep:=fun b o e=>k b o (r.keep b o e)
 above:=r.above
 ownAt:=fun p hp=>⟨k _ _ (r.ownAt p hp).1,(r.ownAt p hp).2⟩
 xAt:=fun p hp=>⟨k _ _ (r.xAt p hp).1,(r.xAt p hp).2⟩
 nd:=r.nd
 off:=r.off
 objs:=r.objs
 big:=r.big
 low:=r.low
theorem uAj(own:Own)(p:Addr×Obj):adr own<+:adr (own++[p]):=by
 rw [adr,adr,List.map_append];exact List.prefix_append _ _
theorem uIe(own:Own)(a:Addr)(ob:Obj):(adr (own++[(a,ob)]))[own.length]?=some a:=by
 rw [adr,List.map_append,List.getElem?_append_right (by rw [List.length_map];exact Nat.le_refl _),List.length_map,Nat.sub_self];rfl
theorem Rel.ext(r:Rel prog w τ h₀ Lc X own σ h){D:Addr}{ob:Obj}{o:AO}(k:∀ b o,h.get? b=some o→h'.get? b=some o)(hD:h'.get? D=some ob)(hz:h.objs.size≤D)
  (hr:uG1 prog w τ (adr (own++[(D,ob)])) o ob):Rel prog w τ h₀ Lc X (own++[(D,ob)]) ⟨σ.L,σ.H++[o]⟩ h':=by
 have pre:=uAj own (D,ob);have hf:h.get? D=none:=uA8 hz;have off1:∀ p∈own,p.1≠D:=fun p hp e=>by have:=(r.ownAt p hp).1;rw [e,hf] at this;cases this
 have off2:∀ p∈X,p.1≠D:=fun p hp e=>by have:=(r.xAt p hp).1;rw [e,hf] at this;cases this
 have offL:D≠Lc:=fun e=>by
  obtain ⟨mc,⟨oL,_,_,hL,_⟩,_⟩:=r.ns;rw [← e,hf] at hL;cases hL
 have hf₀:h₀.get? D=none:=by
  generalize q:h₀.get? D=zz;induction zz using Option.casesOn with
  | none=>rfl
  | some o=>have:=r.keep _ _ q;rw [hf] at this;cases this
 refine ⟨?_,fun b o e=>k b o (r.keep b o e),r.above,fun p hp=>?_,fun p hp=>⟨k _ _ (r.xAt p hp).1,(r.xAt p hp).2⟩,?_,fun p hp q hq=>?_,?_,r.big,fun p hp=>?_⟩
 ·obtain ⟨mc,a,b⟩:=r.ns;exact ⟨mc,a.keeps k,fun x v e=>let ⟨rv,c,d⟩:=b x v e;⟨rv,c,d.mono pre⟩⟩
 ·rcases List.mem_append.mp hp with hp|hp
  ·exact ⟨k _ _ (r.ownAt p hp).1,(r.ownAt p hp).2⟩
  ·rw [List.mem_singleton.mp hp];exact ⟨hD,offL,hf₀⟩
 ·rw [adr,List.map_append];refine List.nodup_append.mpr ⟨r.nd,List.pairwise_singleton _ _,fun a ha b hb e=>?_⟩;obtain ⟨p,hp,rfl⟩:=List.mem_map.mp ha;have hb':b=D:=by simpa using hb
  exact off1 p hp (e.trans hb')
 ·rcases List.mem_append.mp hp with hp|hp
  ·exact r.off p hp q hq
  ·rw [List.mem_singleton.mp hp];exact fun e=>off2 q hq e.symm
 ·exact uCv (uDd (fun _ _ x=>x.mono pre) r.objs) (.cons hr .nil)
 ·rcases List.mem_append.mp hp with hp|hp
  ·exact r.low p hp
  ·rw [List.mem_singleton.mp hp];exact Nat.lt_of_lt_of_le r.big (Nat.le_trans r.base_lt hz)
theorem Rel.push(r:Rel prog w τ h₀ Lc X own σ h){ob:Obj}{o:AO}(hr:uG1 prog w τ (adr (own++[(h.objs.size,ob)])) o ob) :
  Rel prog w τ h₀ Lc X (own++[(h.objs.size,ob)]) ⟨σ.L,σ.H++[o]⟩ (h.push ob):=
 r.ext (fun _ _ e=>Heap.get?_push_of_some _ e) (Heap.get?_push_size _ hr.free) (Nat.le_refl _) hr
theorem uBm(own:Own){i:Nat}{a:Addr}{ob ob':Obj}(e:own[i]?=some (a,ob)):adr (own.set i (a,ob'))=adr own:=by
 rw [adr,List.map_set];have:(own.map Prod.fst)[i]?=some a:=by rw [List.getElem?_map,e];rfl
 exact PySem.W.X.set_same this
theorem Rel.ofNew(r:Rel prog w τ h₀ Lc X own σ h){m:Str→Option Value}{D:Addr}{ob:Obj}{o:AO}(F:Fr h₀ Lc h' m)(N:News h₀ Lc h' ((D,ob)::(own++X)))(hz:h.objs.size≤D)
  (hm:∀ x v,σ.L.lookup x=some v→∃ rv,m x=some rv∧VR τ (adr own) v rv) (hr:uG1 prog w τ (adr (own++[(D,ob)])) o ob):Rel prog w τ h₀ Lc X (own++[(D,ob)]) ⟨σ.L,σ.H++[o]⟩ h':=by
 have pre:=uAj own (D,ob);have hf:h.get? D=none:=uA8 hz;have off1:∀ p∈own,p.1≠D:=fun p hp e=>by have:=(r.ownAt p hp).1;rw [e,hf] at this;cases this
 have off2:∀ p∈X,p.1≠D:=fun p hp e=>by have:=(r.xAt p hp).1;rw [e,hf] at this;cases this
 refine ⟨⟨m,F.ns,fun x v e=>let ⟨rv,c,d⟩:=hm x v e;⟨rv,c,d.mono pre⟩⟩,F.keep,r.above,fun p hp=>?_,fun p hp=>N p (.tail _ (List.mem_append_right _ hp)),?_,fun p hp q hq=>?_,?_,r.big,fun p hp=>?_⟩
 ·rcases List.mem_append.mp hp with hp|hp
  ·exact N p (.tail _ (List.mem_append_left _ hp))
  ·rw [List.mem_singleton.mp hp];exact N _ (.head _)
 ·rw [adr,List.map_append];refine List.nodup_append.mpr ⟨r.nd,List.pairwise_singleton _ _,fun a ha b hb e=>?_⟩;obtain ⟨p,hp,rfl⟩:=List.mem_map.mp ha;have hb':b=D:=by simpa using hb
  exact off1 p hp (e.trans hb')
 ·rcases List.mem_append.mp hp with hp|hp
  ·exact r.off p hp q hq
  ·rw [List.mem_singleton.mp hp];exact fun e=>off2 q hq e.symm
 ·exact uCv (uDd (fun _ _ x=>x.mono pre) r.objs) (.cons hr .nil)
 ·rcases List.mem_append.mp hp with hp|hp
  ·exact r.low p hp
  ·rw [List.mem_singleton.mp hp];exact Nat.lt_of_lt_of_le r.big (Nat.le_trans r.base_lt hz)
theorem Rel.ofSame(r:Rel prog w τ h₀ Lc X own σ h){m:Str→Option Value}(F:Fr h₀ Lc h' m)(N:News h₀ Lc h' (own++X))
  (hm:∀ x v,σ.L.lookup x=some v→∃ rv,m x=some rv∧VR τ (adr own) v rv):Rel prog w τ h₀ Lc X own σ h':=
 ⟨⟨m,F.ns,hm⟩,F.keep,r.above,fun p hp=>N p (List.mem_append_left _ hp),fun p hp=>N p (List.mem_append_right _ hp),r.nd,r.off,r.objs,r.big,r.low⟩
theorem Rel.upd(r:Rel prog w τ h₀ Lc X own σ h){i:Nat}{a:Addr}{ob ob':Obj}{o':AO}(e:own[i]?=some (a,ob))(k:∀ b o,b≠a→h.get? b=some o→h'.get? b=some o)(ha:h'.get? a=some ob')
  (hr:uG1 prog w τ (adr own) o' ob'):Rel prog w τ h₀ Lc X (own.set i (a,ob')) ⟨σ.L,σ.H.set i o'⟩ h':=by
 have hm:=List.mem_of_getElem? e;have e':=uBm own (ob':=ob') e;have ne0:∀ b o,h₀.get? b=some o→b≠a:=fun b o q z=>by rw [z,(r.ownAt _ hm).2.2] at q;cases q
 have key:∀ p∈own.set i (a,ob'),p=(a,ob')∨(p∈own∧p.1≠a):=fun p hp=>by
  obtain ⟨j,hj⟩:=List.getElem?_of_mem hp;rw [List.getElem?_set] at hj;by_cases q:i=j
  ·rw [if_pos q] at hj
   split at hj
   ·exact .inl (Option.some.inj hj).symm
   ·cases hj
  ·rw [if_neg q] at hj;refine .inr ⟨List.mem_of_getElem? hj,fun z=>q ?_⟩;have h1:(adr own)[i]?=some a:=by rw [List.getElem?_map,e];rfl
   have h2:(adr own)[j]?=some a:=by rw [List.getElem?_map,hj,← z];rfl
   obtain ⟨l1,g1⟩:=List.getElem?_eq_some_iff.mp h1;obtain ⟨l2,g2⟩:=List.getElem?_eq_some_iff.mp h2;exact (List.getElem_inj r.nd).mp (g1.trans g2.symm)
 refine ⟨?_,fun b o q=>k b o (ne0 b o q) (r.keep b o q),r.above,fun p hp=>?_,fun p hp=>?_,by rw [e'];exact r.nd,fun p hp q hq=>?_,?_,r.big,fun p hp=>?_⟩
 ·obtain ⟨mc,b,c⟩:=r.ns;refine ⟨mc,b.at' fun o q=>k _ _ (Ne.symm (r.ownAt _ hm).2.1) q,?_⟩;rw [e'];exact c
 ·rcases key p hp with rfl|⟨hp,hn⟩
  ·exact ⟨ha,(r.ownAt _ hm).2⟩
  ·exact ⟨k _ _ hn (r.ownAt p hp).1,(r.ownAt p hp).2⟩
 ·exact ⟨k _ _ (fun z=>r.off _ hm p hp z.symm) (r.xAt p hp).1,(r.xAt p hp).2⟩
 ·rcases key p hp with rfl|⟨hp,_⟩
  ·exact r.off _ hm q hq
  ·exact r.off p hp q hq
 ·rw [e'];exact uJ4 r.objs i hr
 ·rcases key p hp with rfl|⟨hp,_⟩
  ·exact r.low (a,ob) hm
  ·exact r.low p hp
theorem Rel.loc(r:Rel prog w τ h₀ Lc X own σ h){L':List (Str×AV)}{mc':Str→Option Value}(k:∀ b o,b≠Lc→h.get? b=some o→h'.get? b=some o)(hn:h'.Ns Lc mc')
  (hl:∀ x v,L'.lookup x=some v→∃ rv,mc' x=some rv∧VR τ (adr own) v rv):Rel prog w τ h₀ Lc X own ⟨L',σ.H⟩ h' where
 ns:=⟨mc',hn,hl⟩
 keep:=fun b o e=>k b o (fun z=>by rw [z,uA8 r.above] at e;cases e) (r.keep b o e)
 above:=r.above
 ownAt:=fun p hp=>⟨k _ _ (r.ownAt p hp).2.1 (r.ownAt p hp).1,(r.ownAt p hp).2⟩
 xAt:=fun p hp=>⟨k _ _ (r.xAt p hp).2.1 (r.xAt p hp).1,(r.xAt p hp).2⟩
 nd:=r.nd
 off:=r.off
 objs:=r.objs
 big:=r.big
 low:=r.low
theorem Rel.xupd{a:Addr}{ob ob':Obj}(r:Rel prog w τ h₀ Lc ((a,ob)::X) own σ h)(hX:∀ p∈X,p.1≠a)(k:∀ b o,b≠a→h.get? b=some o→h'.get? b=some o)(ha:h'.get? a=some ob'):Rel prog w τ h₀ Lc ((a,ob')::X) own σ h':=by
 have hm:=r.xAt (a,ob) (.head _);refine ⟨?_,fun b o q=>k b o (fun z=>by rw [z,hm.2.2] at q;cases q) (r.keep b o q),r.above,fun p hp=>?_,fun p hp=>?_,r.nd,fun p hp q hq=>?_,r.objs,r.big,r.low⟩
 ·obtain ⟨mc,b,c⟩:=r.ns;exact ⟨mc,b.at' fun o q=>k _ _ (Ne.symm hm.2.1) q,c⟩
 ·exact ⟨k _ _ (fun z=>r.off p hp (a,ob) (.head _) z) (r.ownAt p hp).1,(r.ownAt p hp).2⟩
 ·rcases List.mem_cons.mp hp with rfl|hp
  ·exact ⟨ha,hm.2⟩
  ·exact ⟨k _ _ (hX p hp) (r.xAt p (.tail _ hp)).1,(r.xAt p (.tail _ hp)).2⟩
 ·rcases List.mem_cons.mp hq with rfl|hq
  ·exact r.off p hp (a,ob) (.head _)
  ·exact r.off p hp q (.tail _ hq)
theorem Rel.xnew(r:Rel prog w τ h₀ Lc X own σ h){D:Addr}{ob:Obj}(k:∀ b o,h.get? b=some o→h'.get? b=some o)(hD:h'.get? D=some ob)(hf:h.get? D=none) :
  Rel prog w τ h₀ Lc ((D,ob)::X) own σ h'∧(∀ p∈X,p.1≠D):=by
 have off1:∀ p∈own,p.1≠D:=fun p hp e=>by have:=(r.ownAt p hp).1;rw [e,hf] at this;cases this
 have off2:∀ p∈X,p.1≠D:=fun p hp e=>by have:=(r.xAt p hp).1;rw [e,hf] at this;cases this
 have offL:D≠Lc:=fun e=>by
  obtain ⟨mc,⟨oL,_,_,hL,_⟩,_⟩:=r.ns;rw [← e,hf] at hL;cases hL
 have hf₀:h₀.get? D=none:=by
  generalize q:h₀.get? D=zz;induction zz using Option.casesOn with
  | none=>rfl
  | some o=>have:=r.keep _ _ q;rw [hf] at this;cases this
 have g:=r.grow k;refine ⟨⟨g.ns,g.keep,g.above,g.ownAt,fun p hp=>?_,g.nd,fun p hp q hq=>?_,g.objs,g.big,g.low⟩,off2⟩
 ·rcases List.mem_cons.mp hp with rfl|hp
  ·exact ⟨hD,offL,hf₀⟩
  ·exact g.xAt p hp
 ·rcases List.mem_cons.mp hq with rfl|hq
  ·exact off1 p hp
  ·exact r.off p hp q hq
theorem Rel.xdrop(r:Rel prog w τ h₀ Lc X own σ h){X':Own}(hs:∀ p∈X',p∈X):Rel prog w τ h₀ Lc X' own σ h:=
 ⟨r.ns,r.keep,r.above,r.ownAt,fun p hp=>r.xAt p (hs p hp),r.nd,fun p hp q hq=>r.off p hp q (hs q hq),r.objs,r.big,r.low⟩
end rel
end
section
set_option genInjectivity false in
structure Cx where
 prog:Program
 w:World
 K:Frag
 p:Program
 loose:List Str
 mg:Str→Option Value
 mb:Str→Option Value
 base:Heap
 P:uBb
 τ:uBt
 cyc:Addr
structure Gm where
 h₀:Heap
 A₀:Around
 fenv:Env
 Lf:Addr
 outer:List Env
structure Bk where
 Lc:Addr
 X:Own
noncomputable abbrev uA5(C:Cx)(G:Gm)(B:Bk)(own:Own)(σ:St)(h:Heap):Prop:=Rel C.prog C.w C.τ G.h₀ B.Lc B.X own σ h
inductive ThL(C:Cx)(G:Gm)(B:Bk)(own:Own)(σ:St)(a:Addr)(h:Heap):Prop
 | mk g₂ m t vs:Fr G.h₀ G.Lf g₂ m→(∀ x v,σ.L.lookup x=some v→∃ rv,m x=some rv∧VR C.τ (adr own) v rv)→g₂.UpToSlots h→RaisedS C.base g₂ (G.fenv::G.outer) a (.ref C.cyc) t vs (own++B.X) h→(adr own).Nodup→(∀ p∈own,∀ q∈B.X,p.1≠q.1)→FA (fun o (p:Addr×Obj)=>uG1 C.prog C.w C.τ (adr own) o p.2) σ.H own→(∀ p∈own,sysModules<p.1)→ThL C G B own σ a h
noncomputable def Thrown(C:Cx)(G:Gm)(B:Bk)(own:Own)(σ:St)(x:AX)(e:Value)(h:Heap):Prop:=∃ a,e=.ref a∧match x with
 | .stop=>∃ hb,uA5 C G B own σ hb∧Heap.MadeExcOf hb h a (.type "StopIteration") []
 | .cyc=>∃ hb vs,uA5 C G B own σ hb∧Heap.MadeExcOf hb h a (.ref C.cyc) vs
 | .cycL=>B.Lc=G.Lf→ThL C G B own σ a h
noncomputable def Good(C:Cx)(G:Gm)(B:Bk)(own:Own)(σ:St)(s:Shared){α β:Type}(m:M α)(R:List Addr→α→β→Prop)(Q:β→Shared→Prop)(E:Value→Shared→Prop):Prop:=
 match m σ with
 | none=>False
 | some (.ok a,σ')=>∀ own' h' tk' b,adr own<+:adr own'→uA5 C G B own' σ' h'→R (adr own') a b→Q b { s with heap:=h',toks:=tk' }
 | some (.exc x,σ')=>∀ own' h' tk' e,adr own<+:adr own'→Thrown C G B own' σ' x e h'→E e { s with heap:=h',toks:=tk' }
structure Ref(C:Cx)(G:Gm)(B:Bk)(A:Around)(own:Own)(σ:St)(s:Shared){α β:Type}(m:M α)(t:Sem β)(R:List Addr→α→β→Prop):Prop where
 go:∀ Q E,Good C G B own σ s m R Q E→wpAny (model C.prog C.w) A t Q E s
section
variable {C:Cx}{G:Gm}{B:Bk}{A:Around}{own:Own}{σ:St}{s:Shared}{α β γ δ:Type}
theorem Ref.fail{m:M α}{t:Sem β}{R:List Addr→α→β→Prop}(h:m σ=none):Ref C G B A own σ s m t R:=⟨fun Q E g=>by
 unfold Good at g;rw [h] at g;exact g.elim⟩
theorem Good.ok{m:M α}{R:List Addr→α→β→Prop}{Q:β→Shared→Prop}{E:Value→Shared→Prop}{a:α}{σ':St}(g:Good C G B own σ s m R Q E)(h:m σ=some (.ok a,σ'))
  {own':Own} {h':Heap} {tk':Nat} {b:β} (p:adr own<+:adr own') (r:uA5 C G B own' σ' h') (x:R (adr own') a b):Q b { s with heap:=h',toks:=tk' }:=by
 unfold Good at g;rw [h] at g;exact g _ _ _ _ p r x
theorem Good.exc{m:M α}{R:List Addr→α→β→Prop}{Q:β→Shared→Prop}{E:Value→Shared→Prop}{x:AX}{σ':St}(g:Good C G B own σ s m R Q E)(h:m σ=some (.exc x,σ'))
  {own':Own} {h':Heap} {tk':Nat} {e:Value} (p:adr own<+:adr own') (y:Thrown C G B own' σ' x e h'):E e { s with heap:=h',toks:=tk' }:=by
 unfold Good at g;rw [h] at g;exact g _ _ _ _ p y
theorem Ref.of{m:M α}{t:Sem β}{R:List Addr→α→β→Prop}{a:α}{σ':St}(h:m σ=some (.ok a,σ'))
  (k:∀ (Q:β→Shared→Prop) (E:Value→Shared→Prop),(∀ own' h' tk' b,adr own<+:adr own'→uA5 C G B own' σ' h'→R (adr own') a b→Q b { s with heap:=h',toks:=tk' })→wpAny (model C.prog C.w) A t Q E s) :
  Ref C G B A own σ s m t R:=⟨fun Q E g=>k Q E fun _ _ _ _ p r x=>g.ok h p r x⟩
end
structure GmOk(C:Cx)(G:Gm):Prop where
 K:C.K.In G.h₀
 T:TopRead C.p C.loose C.mg C.mb G.h₀
 fl:G.fenv.frame=some G.Lf
 fk:G.fenv.scope.kind=.function
 lf:G.h₀.objs.size≤G.Lf
structure uD1(G:Gm)(B:Bk)(F:FE)(env:Env)(φ:List Addr):Prop where
 kind:env.scope.kind=.function
 loc:env.locals=B.Lc
 glob:env.globals=mainGlobals
 bi:env.builtins=builtinsNs
 frame:env.frame=some G.Lf
 kinds:∀ x,env.kindOf x=F.kind x∨(F.kind x=some .free∧env.kindOf x=some .cell)
 cells:∀ x i,F.cells.lookup x=some i→∃ c,env.cells.lookup x=some c∧φ[i]?=some c
 names:uCw F.scope=true
theorem uD1.mono{G:Gm}{B:Bk}{F:FE}{env:Env}{φ ψ:List Addr}(x:uD1 G B F env φ)(p:φ<+:ψ):uD1 G B F env ψ:=
 ⟨x.kind,x.loc,x.glob,x.bi,x.frame,x.kinds,fun y i e=>let ⟨c,a,b⟩:=x.cells y i e;⟨c,a,uA6 p b⟩,x.names⟩
theorem uBz{β:Type}{x:Str}:∀ {l:List (Str×β)} {b:β},l.lookup x=some b→(x,b)∈l:=by
 intro zz;induction zz with
 | nil=>
  intro _ h;cases h
 | cons zq l ih=>
  obtain ⟨y,c⟩:=zq;intro b h;rw [List.lookup_cons] at h;generalize e:(x==y)=zz;induction zz using Bool.casesOn with
  | true=>rw [e] at h;cases h;rw [eq_of_beq e];exact .head _
  | false=>rw [e] at h;exact .tail _ (ih h)
theorem uD1.name{G:Gm}{B:Bk}{F:FE}{env:Env}{φ:List Addr}(x:uD1 G B F env φ){n:Str}{k:NameKind}(h:F.kind n=some k) :
  (n==Str.ofString "__debug__")=false∧(n==Str.ofString "__classdict__")=false:=by
 have q:=List.all_eq_true.mp (Bool.and_eq_true_iff.mp x.names).1 _ (uBz h);simpa using q
theorem uD1.same{G:Gm}{B:Bk}{F:FE}{env:Env}{φ:List Addr}(x:uD1 G B F env φ){n:Str}{k:NameKind}(h:F.kind n=some k)(hn:k≠.free):env.kindOf n=some k:=by
 rcases x.kinds n with q|⟨q,_⟩
 ·rw [q,h]
 ·rw [h] at q;exact absurd (Option.some.inj q) hn
structure PKok(C:Cx):Prop where
 glob:∀ x v,C.P.glob.lookup x=some v→∃ rv,nsIn C.K mainGlobals x=some (some rv)∧VR C.τ [] v rv
 bi:∀ x v,C.P.glob.lookup x=none→C.P.bi.lookup x=some v→nsIn C.K mainGlobals x=some none∧x≠Str.ofString "__name__"∧∃ rv,bootBuiltins x=some rv∧v=.st rv
section names
variable {C:Cx}{G:Gm}{B:Bk}{A:Around}{own:Own}{σ:St}{s:Shared}{F:FE}{env:Env}
theorem Rel.cell{prog:Program}{w:World}{τ:uBt}{h₀ h:Heap}{Lc:Addr}{X own:Own}{σ:St}(r:Rel prog w τ h₀ Lc X own σ h){i:Nat}{c:Addr}{v:AV}(e:σ.H[i]?=some (.cell (some v)))(hc:(adr own)[i]?=some c) :
  ∃ rv,h.IsCell c (some rv)∧VR τ (adr own) v rv:=by
 obtain ⟨a,ob,h1,h2,h3,rv,h4,h5⟩:=r.at e;rw [hc] at h2;cases h2;cases h5 with
 | some h5=>exact ⟨_,⟨ob,h3,h4⟩,h5⟩
theorem uQc(PK:PKok C)(GK:GmOk C G)(e:uD1 G B F env (adr own))(r:uA5 C G B own σ s.heap){x:Str}{pos:Pos} :
  Ref C G B A own σ s (loadName C.P F x) (eval (.Name x pos) env) (VR C.τ):=by
 have stay:∀ (Q:Value→Shared→Prop) (E:Value→Shared→Prop) (v:AV) (rv:Value),VR C.τ (adr own) v rv→(∀ own' h' tk' b,adr own<+:adr own'→uA5 C G B own' σ h'→VR C.τ (adr own') v b→Q b { s with heap:=h',toks:=tk' })→Q rv s:=
  fun Q E v rv hv k=>k own s.heap s.toks rv (List.prefix_refl _) r hv
 generalize hk:F.kind x=zz;induction zz using Option.casesOn with
 | none=>exact Ref.fail (by unfold loadName;rw [hk])
 | some k=>
  have nm:=e.name hk;induction k using PySem.NameKind.casesOn with
  | «local»=>
   have hl:env.kindOf x=some .local:=e.same hk (by decide);generalize hv:σ.L.lookup x=zz;induction zz using Option.casesOn with
   | none=>exact Ref.fail (by unfold loadName;rw [hk];dsimp only;rw [hv];rfl)
   | some v=>
    obtain ⟨mc,hn,hm⟩:=r.ns;obtain ⟨rv,h1,h2⟩:=hm x v hv;exact Ref.of (a:=v) (σ':=σ) (by unfold loadName;rw [hk];dsimp only;rw [hv];rfl) fun Q E q=>wpAny_Name (wpAny_loadName_local e.kind hl (e.loc▸hn) h1 (stay Q E v rv h2 q)) nm.1
  | cell=>
   have hl:env.kindOf x=some .cell:=e.same hk (by decide);generalize hc:F.cells.lookup x=zz;induction zz using Option.casesOn with
   | none=>exact Ref.fail (by unfold loadName;rw [hk];exact obn hc)
   | some i=>
    rcases ho':(σ.H[i]?.bind pC).bind id with _|v
    ·exact Ref.fail (by unfold loadName;rw [hk];exact ob hc (obn ho'))
    ·have ho:=uUd (uU7 ho');obtain ⟨c,c1,c2⟩:=e.cells x i hc;obtain ⟨rv,r1,r2⟩:=r.cell ho c2;exact Ref.of (a:=v) (σ':=σ) (by unfold loadName;rw [hk];exact ob hc (ob ho' rfl)) fun Q E q=>wpAny_Name (wpAny_loadName_cell e.kind hl c1 r1 (stay Q E v rv r2 q)) nm.1
  | free=>
   generalize hc:F.cells.lookup x=zz;induction zz using Option.casesOn with
   | none=>exact Ref.fail (by unfold loadName;rw [hk];exact obn hc)
   | some i=>
    rcases ho':(σ.H[i]?.bind pC).bind id with _|v
    ·exact Ref.fail (by unfold loadName;rw [hk];exact ob hc (obn ho'))
    ·have ho:=uUd (uU7 ho');obtain ⟨c,c1,c2⟩:=e.cells x i hc;obtain ⟨rv,r1,r2⟩:=r.cell ho c2;refine Ref.of (a:=v) (σ':=σ) (by unfold loadName;rw [hk];exact ob hc (ob ho' rfl)) fun Q E q=>?_;rcases e.kinds x with hl|⟨_,hl⟩
     ·rw [hk] at hl;exact wpAny_Name (wpAny_loadName_free e.kind hl c1 r1 (stay Q E v rv r2 q) nm.2) nm.1
     ·exact wpAny_Name (wpAny_loadName_cell e.kind hl c1 r1 (stay Q E v rv r2 q)) nm.1
  | globalExplicit=>exact Ref.fail (by unfold loadName;rw [hk])
  | globalImplicit=>
   have hl:env.kindOf x=some .globalImplicit:=e.same hk (by decide);have hg:s.heap.Ns env.globals C.mg:=e.glob▸GK.T.g.keeps r.keep;generalize hv:C.P.glob.lookup x=zz;induction zz using Option.casesOn with
   | some v=>
    obtain ⟨rv,h1,h2⟩:=PK.glob x v hv;exact Ref.of (a:=v) (σ':=σ) (by unfold loadName;rw [hk];rw [hv]) fun Q E q=>Name_function_global e.kind hl (loadGlobal_global hg (mg_of GK.K GK.T.g h1) (stay Q E v rv (h2.mono (List.nil_prefix)) q)) nm.1
   | none=>
    generalize hb:C.P.bi.lookup x=zz;induction zz using Option.casesOn with
    | none=>exact Ref.fail (by unfold loadName;rw [hk];dsimp only;rw [hv];dsimp only;rw [hb];rfl)
    | some v=>
     obtain ⟨h1,h2,rv,h3,rfl⟩:=PK.bi x v hv hb;exact Ref.of (a:=.st rv) (σ':=σ) (by unfold loadName;rw [hk];dsimp only;rw [hv];dsimp only;rw [hb];rfl) fun Q E q=>
      Name_function_global e.kind hl (loadGlobal_builtin hg (mg_none_of GK.K GK.T.g h1) (e.bi▸GK.T.b.keeps r.keep) ((GK.T.builtins x h2).trans h3) (stay Q E _ rv (.st rv) q)) nm.1
theorem uGn{x y:Str}{v:AV}:∀ {l:List (Str×AV)},(uD0 x v l).lookup y=if y=x then some v else l.lookup y:=by
 intro zz;induction zz with
 | nil=>
  show List.lookup y [(x,v)]=_;rw [List.lookup_cons];by_cases h:y=x
  ·subst h;simp
  ·rw [if_neg h,beq_false_of_ne h]
 | cons zq l ih=>
  obtain ⟨z,u⟩:=zq;rw [uC4];by_cases hx:x=z
  ·subst hx;rw [if_pos (beq_self_eq_true _),List.lookup_cons,List.lookup_cons];by_cases h:y=x
   ·subst h;simp
   ·rw [if_neg h,beq_false_of_ne h]
  ·rw [if_neg (by simpa using hx),List.lookup_cons,List.lookup_cons,ih];by_cases h:y=z
   ·subst h;simp [show ¬ y=x from fun q=>hx q.symm]
   ·rw [beq_false_of_ne h]
theorem uEo(e:uD1 G B F env (adr own))(r:uA5 C G B own σ s.heap){x:Str}{v:AV}{rv:Value}(hv:VR C.τ (adr own) v rv) :
  Ref C G B A own σ s (storeName F x v) (PySem.storeName env x rv) (fun _ _ _=>True):=by
 generalize hk:F.kind x=zz;induction zz using Option.casesOn with
 | none=>exact Ref.fail (by unfold storeName;rw [hk])
 | some k=>
  induction k using PySem.NameKind.casesOn with
  | «local»=>
   have hl:env.kindOf x=some .local:=e.same hk (by decide);obtain ⟨mc,hn,hm⟩:=r.ns;refine Ref.of (a:=()) (σ':={ σ with L:=uD0 x v σ.L }) (by unfold storeName;rw [hk]) fun Q E q=>wpAny_storeName_local hl (e.loc▸hn) (fun h' hn' hs=>?_) (by rw [e.kind];rfl);refine q own h' _ () (List.prefix_refl _) (r.loc (fun b o hb z=>(hs.2 b (e.loc▸hb)).trans z) (e.loc▸hn') fun y u hy=>?_) trivial;rw [uGn] at hy;by_cases h:y=x
   ·replace hy:=(if_pos h).symm.trans hy;cases hy;exact ⟨rv,by rw [if_pos h],hv⟩
   ·rw [if_neg h] at hy;obtain ⟨ru,a,b⟩:=hm y u hy;exact ⟨ru,by rw [if_neg h];exact a,b⟩
  | cell=>
   have hl:env.kindOf x=some .cell:=e.same hk (by decide);generalize hc:F.cells.lookup x=zz;induction zz using Option.casesOn with
   | none=>exact Ref.fail (by unfold storeName;rw [hk];exact obn hc)
   | some i=>
    rcases ho':σ.H[i]?.bind pC with _|u
    ·exact Ref.fail (by unfold storeName;rw [hk];exact ob hc (obn ho'))
    ·have ho:=uUd ho';obtain ⟨c,c1,c2⟩:=e.cells x i hc;obtain ⟨a,ob',h1,h2,h3,ru,h4,h5⟩:=r.at ho;rw [c2] at h2;cases h2;refine Ref.of (a:=()) (σ':={ σ with H:=σ.H.set i (.cell (some v)) }) (by unfold storeName;rw [hk];exact ob hc (ob ho' rfl)) fun Q E q=>
      wpAny_storeName_cell e.kind hl c1 ⟨ob',h3,h4⟩ fun h' hv' hs=>?_
     obtain ⟨ob',z1,z2⟩:=hv';have r':=r.upd h1 (o':=.cell (some v)) (fun b o hb z=>(hs.2 b hb).trans z) z1 ⟨_,z2,.some hv⟩;have pe:=uBm own (ob':=ob') h1;exact q _ h' s.toks () (by rw [pe];exact List.prefix_refl _) r' trivial
  | free=>exact Ref.fail (by unfold storeName;rw [hk])
  | globalExplicit=>exact Ref.fail (by unfold storeName;rw [hk])
  | globalImplicit=>exact Ref.fail (by unfold storeName;rw [hk])
theorem uBs(e:uD1 G B F env (adr own))(r:uA5 C G B own σ s.heap){x:Str}{pos:Pos}{v:AV}{rv:Value}(hv:VR C.τ (adr own) v rv) :
  Ref C G B A own σ s (storeName F x v) (assign (.Name x pos) env rv) (fun _ _ _=>True):=⟨fun Q E g=>wpAny_assign_Name ((uEo e r hv).go Q E g)⟩
end names
end
end Mine.Internal
end
section
namespace Mine.Internal
open PySem PySem.W PyProof.Rows PySem.Calls PySem.SeqAt
section
theorem uBa{n:Nat}(h:n≤lz):n≤sizeLine:=Nat.le_trans h (by decide)
section ops
variable {C:Cx}{G:Gm}{B:Bk}{A:Around}{own:Own}{σ:St}{s:Shared}
theorem Ref.still{α β:Type}{m:M α}{t:Sem β}{R:List Addr→α→β→Prop}{a:α}(r:uA5 C G B own σ s.heap)(h:m σ=some (.ok a,σ))(b:Nat→β)(x:∀ tk,R (adr own) a (b tk))
  (k:∀ (Q:β→Shared→Prop) (E:Value→Shared→Prop),(∀ tk tk',Q (b tk) { s with toks:=tk' })→wpAny (model C.prog C.w) A t Q E s):Ref C G B A own σ s m t R:=
 Ref.of h fun Q E q=>k Q E fun tk tk'=>q own s.heap tk' (b tk) (List.prefix_refl _) r (x tk)
theorem Ref.int{m:M AV}{t:Sem Value}{k:Int}(r:uA5 C G B own σ s.heap)(h:m σ=some (.ok (.int k),σ))
  (q:∀ (Q:Value→Shared→Prop) (E:Value→Shared→Prop),(∀ t tk,Q (.int k t) { s with toks:=tk })→wpAny (model C.prog C.w) A t Q E s):Ref C G B A own σ s m t (VR C.τ):=
 Ref.still r h (fun tk=>.int k tk) (fun tk=>.int k tk) q
theorem Ref.bool{m:M Bool}{t:Sem Value}{k:Bool}(r:uA5 C G B own σ s.heap)(h:m σ=some (.ok k,σ))
  (q:∀ (Q:Value→Shared→Prop) (E:Value→Shared→Prop),(∀ tk,Q (.bool k) { s with toks:=tk })→wpAny (model C.prog C.w) A t Q E s):Ref C G B A own σ s m t (fun _ b v=>v=.bool b):=
 Ref.still r h (fun _=>.bool k) (fun _=>rfl) fun Q E z=>q Q E (z 0)
theorem uCx{x:AV}{i:Nat}{σ:St}{o:Option AO}(e:σ.H[i]?=o):isIn x (.ref i) σ=isInO x σ o:=congrArg (isInO x σ) e
theorem uBe{y:AV}{i:Nat}{σ:St}{o:Option AO}(e:σ.H[i]?=o):Mine.Internal.getItem (.ref i) y σ=uDz y σ o:=congrArg (uDz y σ) e
theorem uB2{y z:AV}{i:Nat}{σ:St}{o:Option AO}(e:σ.H[i]?=o):Mine.Internal.setItem (.ref i) y z σ=uEf i y z σ o:=congrArg (uEf i y z σ) e
theorem uCy{y:AV}{i:Nat}{σ:St}{o:Option AO}(e:σ.H[i]?=o):Mine.Internal.delItem (.ref i) y σ=uFr i y σ o:=congrArg (uFr i y σ) e
theorem uAr{P:uBb}{x:Str}{i:Nat}{σ:St}{o:Option AO}(e:σ.H[i]?=o):Mine.Internal.getAttr P (.ref i) x σ=uDe P i x σ o:=congrArg (uDe P i x σ) e
theorem uBd{P:uBb}{x:Str}{v:AV}{i:Nat}{σ:St}{o:Option AO}(e:σ.H[i]?=o):Mine.Internal.setAttr P (.ref i) x v σ=uEm P i x v σ o:=congrArg (uEm P i x v σ) e
theorem uAq{P:uBb}{x:Str}{i:Nat}{σ:St}{o:Option AO}(e:σ.H[i]?=o):Mine.Internal.getMethod P (.ref i) x σ=getMethodO P (.ref i) x σ o:=congrArg (getMethodO P (.ref i) x σ) e
inductive SeqR(nm:String)(τ:uBt)(own:Own)(h:Heap)(i:Nat)(a:Addr)(xs:List AV):Prop
 | mk (vs:List Value) (n:Nat):h.get? a=some { cls:=.type nm,data:=.seq (List.toArray vs) n }→VRs τ (adr own) xs vs→xs.length≤sizeLine→own[i]?=some (a,{ cls:=.type nm,data:=.seq (List.toArray vs) n })→SeqR nm τ own h i a xs
theorem uAv{prog:Program}{w:World}{τ:uBt}{h₀ h:Heap}{Lc:Addr}{X own:Own}{σ:St}(r:Rel prog w τ h₀ Lc X own σ h){i:Nat}{a:Addr}{xs:List AV}(e:σ.H[i]?=some (.list xs))(ha:(adr own)[i]?=some a) :
  SeqR "list" τ own h i a xs:=by
 obtain ⟨b,ob,h1,h2,h3,n,vs,rfl,h7,h8⟩:=r.at e;rw [ha] at h2;cases h2;exact ⟨vs,n,h3,h7,h8,h1⟩
theorem uD3{prog:Program}{w:World}{τ:uBt}{h₀ h:Heap}{Lc:Addr}{X own:Own}{σ:St}(r:Rel prog w τ h₀ Lc X own σ h){i:Nat}{a:Addr}{xs:List AV}(e:σ.H[i]?=some (.tup xs))(ha:(adr own)[i]?=some a) :
  SeqR "tuple" τ own h i a xs:=by
 obtain ⟨b,ob,h1,h2,h3,n,vs,rfl,h7,h8⟩:=r.at e;rw [ha] at h2;cases h2;exact ⟨vs,n,h3,h7,h8,h1⟩
theorem uAm {h:Heap} {a:Addr} {vs:List Value} {n:Nat} (e:h.get? a=some { cls:=.type "list",data:=.seq (List.toArray vs) n }):h.IsList a (List.toArray vs):=⟨_,e,rfl,n,rfl⟩
theorem uBl {h:Heap} {a:Addr} {vs:List Value} {n:Nat} (e:h.get? a=some { cls:=.type "tuple",data:=.seq (List.toArray vs) n }):h.IsTuple a (List.toArray vs):=⟨_,e,rfl,n,rfl⟩
theorem uFq {h:Heap} {a:Addr} {vs:List Value} {n:Nat} (e:h.get? a=some { cls:=.type "tuple",data:=.seq (List.toArray vs) n }):IsTup h a (List.toArray vs):=⟨_,e,rfl,n,rfl⟩
theorem uBq(l:List Nat):(mkS l).length=l.length:=List.size_toArray
theorem uE4(a b:List Nat):mkS a++mkS b=mkS (a++b):=by
 show Str.mk (a.toArray++b.toArray)=Str.mk (a++b).toArray;rw [List.append_toArray]
theorem uE2{a b:List Nat}(h:mkS a=mkS b):a=b:=by
 have:=congrArg (fun x:Str=>x.cps.toList) h;simpa using this
theorem uUz(a b:List Nat):(mkS a==mkS b)=decide (a=b):=by
 by_cases h:a=b
 ·subst h;simp
 ·rw [decide_eq_false h];exact beq_false_of_ne fun e=>h (uE2 e)
theorem uLm(x:Str):mkS (tl x)=x:=by
 obtain ⟨c⟩:=x;rfl
theorem uJh{h:Heap}:h.get? h.objs.size=none:=uA8 (Nat.le_refl _)
theorem uBx{h:Heap}(r:uA5 C G B own σ h)(a:Addr)(ob:Obj):VR C.τ (adr (own++[(a,ob)])) (.ref σ.H.length) (.ref a):=by
 refine .ref ?_;rw [← r.len];exact uIe own a ob
theorem uIc{τ:uBt}{φ:List Addr}{x:AV}{v:Value}(h:VR τ φ x v):∀ n,VRs τ φ (List.replicate n x) (List.replicate n v):=by
 intro zz;induction zz with
 | zero=>
  exact .nil
 | succ n ih=>
  exact .cons h (ih)
theorem uM4(v:Value):∀ (n:Nat) (acc:Array Value),List.foldl (fun x1 x2=>x1++x2) acc (List.replicate n #[v])=acc++(List.replicate n v).toArray:=by
 intro zz;induction zz with
 | zero=>
  intro acc;simp
 | succ n ih=>
  intro acc;rw [List.replicate_succ,List.foldl_cons,ih];apply Array.ext';simp [List.replicate_succ]
theorem uNz{op:Operator}{a b:Int}{t u:Tok}(r:uA5 C G B own σ s.heap):Ref C G B A own σ s (uFl op (.int a) (.int b)) (binaryOp op (.int a t) (.int b u)) (VR C.τ):=by
 have key:∀ c,intOp op a b=some c→uFl op (.int a) (.int b) σ=some (.ok (.int c),σ):=fun c e=>by
  show (match intOp op a b with | some c=>M.pure (AV.int c) | none=>M.fail) σ=_;rw [e];rfl
 have bad:intOp op a b=none→uFl op (.int a) (.int b) σ=none:=fun e=>by
  show (match intOp op a b with | some c=>M.pure (AV.int c) | none=>M.fail) σ=_;rw [e];rfl
 induction op using PySem.Operator.casesOn with
 | Add=>exact Ref.int r (key _ rfl) fun Q E h=>by with_reducible exact add_int (h _ _)
 | Sub=>exact Ref.int r (key _ rfl) fun Q E h=>by with_reducible exact PyProof.Rows.sub_int (h _ _)
 | BitOr=>exact Ref.int r (key _ rfl) fun Q E h=>by with_reducible exact or_int (h _ _)
 | BitAnd=>exact Ref.int r (key _ rfl) fun Q E h=>by with_reducible exact and_int (h _ _)
 | FloorDiv=>
  by_cases hb:0<b∧b<2 ^ 62
  ·refine Ref.int r (key (Int.fdiv a b) (if_pos hb)) fun Q E h=>?_
   with_reducible refine floordiv_int (by lia) (h _ _) (.inl ?_)
   unfold Builtin.divisionGoesByPylong;have:b.natAbs.log2<62:=by
    rw [Nat.log2_lt (by lia)];have:b.natAbs<2 ^ 62:=by lia
    exact this
   have hz:(b==0)=false:=by simp;lia
   have h3:decide (b.natAbs.log2 / 30+1 > 300)=false:=decide_eq_false (by lia);simp only [hz,Bool.false_eq_true,if_false,h3,Bool.false_and]
  ·exact Ref.fail (bad (if_neg hb))
 | Mod=>
  by_cases hb:0<b
  ·exact Ref.int r (key (Int.fmod a b) (if_pos hb)) fun Q E h=>by with_reducible exact mod_int' (by lia) (h _ _)
  ·exact Ref.fail (bad (if_neg hb))
 | Pow=>
  by_cases hb:(0≤b∧b<64)∧(0≤a∧a<64)
  ·exact Ref.int r (key (a ^ b.toNat) (if_pos hb)) fun Q E h=>by with_reducible exact pow_int_small hb.1.1 (by lia) (by lia) (h _ _)
  ·exact Ref.fail (bad (if_neg hb))
 | LShift=>
  by_cases hb:(0≤b∧b<64)∧(0≤a∧a<64)
  ·exact Ref.int r (key (a*2 ^ b.toNat) (if_pos hb)) fun Q E h=>by with_reducible exact lshift_int_small hb.1.1 (by lia) (by lia) (h _ _)
  ·exact Ref.fail (bad (if_neg hb))
 | _=>exact Ref.fail (bad rfl)
theorem uQl{i j:Nat}{a b:Addr}(r:uA5 C G B own σ s.heap)(ha:(adr own)[i]?=some a)(hb:(adr own)[j]?=some b):Ref C G B A own σ s (catL i j) (binaryOp .Add (.ref a) (.ref b)) (VR C.τ):=by
 rcases e1:σ.H[i]?.bind pL with _|xs
 ·exact Ref.fail (obn e1)
 rcases e2:σ.H[j]?.bind pL with _|ys
 ·exact Ref.fail (ob e1 (obn e2))
 by_cases hl:(xs++ys).length≤lz
 ·obtain ⟨vs,n1,l1,v1,z1,_⟩:=uAv r (uL9 e1) ha;obtain ⟨ws,n2,l2,v2,z2,_⟩:=uAv r (uL9 e2) hb;refine Ref.of (a:=.ref σ.H.length) (σ':=⟨σ.L,σ.H++[.list (xs++ys)]⟩) (by exact ob e1 (ob e2 (if_pos hl))) fun Q E q=>?_;obtain ⟨mc,F,hF⟩:=r.fr;have hz:(List.toArray vs).size+(List.toArray ws).size≤sizeLine:=by
   rw [List.size_toArray,List.size_toArray,← uAn v1,← uAn v2,← List.length_append];exact uBa hl
  with_reducible refine add_arrays F r.news (uAm l1) (uAm l2) (fun h' F' N'=>?_) hz
  exact q _ h' s.toks _ (uAj own _) (r.ofNew F' N' (Nat.le_refl _) hF ⟨0,vs++ws,rfl,VRs.mono (uAj _ _) (uCv v1 v2),uBa hl⟩) (uBx r _ _)
 ·exact Ref.fail (ob e1 (ob e2 (if_neg hl)))
set_option tactic.hygienic true in
theorem uPq{i:Nat}{n:Int}{t:Tok}{a:Addr}(r:uA5 C G B own σ s.heap)(ha:(adr own)[i]?=some a):Ref C G B A own σ s (repL i n) (binaryOp .Mult (.ref a) (.int n t)) (VR C.τ):=by
 rcases e1:σ.H[i]?.bind pL with _|_|⟨x,_|⟨y,ys⟩⟩
 ·exact Ref.fail (obn e1)
 ·exact Ref.fail (ob e1 rfl)
 ·by_cases hn:0≤n∧n≤64
  case neg=>exact Ref.fail (ob e1 (if_neg hn))
  obtain ⟨vs,k,l1,v1,z1,_⟩:=uAv r (uL9 e1) ha;cases v1 with
  | cons hv hv'=>
   cases hv';rename_i v _;refine Ref.of (a:=.ref σ.H.length) (σ':=⟨σ.L,σ.H++[.list (List.replicate n.toNat x)]⟩) (by exact ob e1 (if_pos hn)) fun Q E q=>?_;obtain ⟨mc,F,hF⟩:=r.fr
   with_reducible refine mul_list F r.news l1 (by lia) (by lia) (by simp only [List.size_toArray,List.length_singleton];lia) fun h' F' N'=>?_
   have e3:List.foldl (fun x1 x2=>x1++x2) #[] (List.replicate (if (List.toArray [v]).isEmpty=true then 0 else n.toNat) (List.toArray [v]))=(List.replicate n.toNat v).toArray:=by
    rw [if_neg (by simp)];have:=uM4 v n.toNat #[];simpa using this
   rw [e3] at N';exact q _ h' s.toks _ (uAj own _) (r.ofNew F' N' (Nat.le_refl _) hF ⟨0,_,rfl,VRs.mono (uAj _ _) (uIc hv _),by rw [List.length_replicate];exact Nat.le_trans (by lia:n.toNat≤64) (by decide)⟩) (uBx r _ _)
 ·exact Ref.fail (ob e1 rfl)
theorem uQq{a b:List Nat}{t u:Tok}(r:uA5 C G B own σ s.heap):Ref C G B A own σ s (strV (a++b)) (binaryOp .Add (.str (mkS a) t) (.str (mkS b) u)) (VR C.τ):=by
 by_cases hl:(a++b).length≤lz
 ·refine Ref.still (a:=.str (a++b) none) r (by unfold strV;rw [if_pos hl];rfl) (fun tk=>.str (mkS (a++b)) tk) (fun tk=>.str _ _ _ (uBa hl) (fun _ e=>nomatch e)) fun Q E q=>?_
  with_reducible refine add_str (fun t' tk=>?_) ?_
  ·rw [uE4];exact q t' tk
  ·rw [uBq,uBq,← List.length_append];exact uBa hl
 ·exact Ref.fail (by unfold strV;rw [if_neg hl];rfl)
theorem uOw{op:Operator}{x y:AV}{u v:Value}(r:uA5 C G B own σ s.heap)(hx:VR C.τ (adr own) x u)(hy:VR C.τ (adr own) y v):Ref C G B A own σ s (uFl op x y) (binaryOp op u v) (VR C.τ):=by
 induction hx using VR.casesOn with
 | none=>exact Ref.fail rfl
 | bool=>exact Ref.fail rfl
 | st=>exact Ref.fail rfl
 | int a t=>
  induction hy using VR.casesOn with
  | int b t'=>exact uNz r
  | _=>exact Ref.fail rfl
 | str a g t ha hg=>
  induction hy using VR.casesOn with
  | str b g' t' hb hg'=>
   induction op using PySem.Operator.casesOn with
   | Add=>exact uQq r
   | _=>exact Ref.fail rfl
  | _=>exact Ref.fail rfl
 | @ref i a ha=>
  induction hy using VR.casesOn with
  | int n t=>
   induction op using PySem.Operator.casesOn with
   | Mult=>exact uPq r ha
   | _=>exact Ref.fail rfl
  | @ref j b hb=>
   induction op using PySem.Operator.casesOn with
   | Add=>exact uQl r ha hb
   | _=>exact Ref.fail rfl
  | _=>exact Ref.fail rfl
end ops
end
section
theorem uJj{f:AV→AV→Option Bool}(hf:∀ x b,f x x=some b→b=true):∀ (xs:List AV) (b:Bool),goEq f xs xs=some b→b=true:=by
 intro xs;induction xs with
 | nil=>intro b h;cases h;rfl
 | cons x xs ih=>
  intro b h;obtain ⟨a,h1,h⟩:=Option.bind_eq_some_iff.mp h;obtain ⟨c,h2,rfl⟩:=Option.map_eq_some_iff.mp h;rw [hf x a h1,ih c h2];rfl
theorem uC6(x:AV)(b:Bool)(h:leafEq x x=some b):b=true:=by
 induction x using AV.casesOn with
 | int a=>exact (Option.some.inj h).symm.trans (decide_eq_true rfl)
 | str a g=>exact (Option.some.inj h).symm.trans (decide_eq_true rfl)
 | bool a=>exact (Option.some.inj h).symm.trans (decide_eq_true rfl)
 | _=>exact nn h
theorem uPh{f:AV→AV→Option Bool}(hf:∀ x b,f x x=some b→b=true){o:Option AO}{b:Bool}(h:eqO f o o=some b):b=true:=by
 induction o using Option.casesOn with
 | none=>exact nn h
 | some o=>
  induction o using AO.casesOn with
  | list xs=>exact uJj hf xs b ((if_pos rfl).symm.trans h)
  | tup xs=>exact uJj hf xs b ((if_pos rfl).symm.trans h)
  | _=>exact nn h
theorem uQg:∀ (n:Nat) (H:List AO) (x:AV) (b:Bool),eqA n H x x=some b→b=true:=by
 intro zz;induction zz with
 | zero=>
  intro _ x b h;exact uC6 x b h
 | succ n ih=>
  intro H x b h;induction x using AV.casesOn with
  | ref i=>exact uPh (ih H) h
  | none=>exact uC6 .none b h
  | bool c=>exact uC6 (.bool c) b h
  | int c=>exact uC6 (.int c) b h
  | str c g=>exact uC6 (.str c g) b h
  | st c=>exact uC6 (.st c) b h
noncomputable def goF(f:AV→AV→Option Bool)(xs ys:List AV)(j:Nat):Bool:=(xs[j]?.bind fun x=>ys[j]?.bind fun y=>f x y).getD false
theorem uJ1{f:AV→AV→Option Bool}{xs ys:List AV}{b:Bool}(h:goEq f xs ys=some b):xs.length=ys.length∧(∀ (j:Nat) (x y:AV),xs[j]?=some x→ys[j]?=some y→∃ c,f x y=some c)∧
  b=(List.range xs.length).all (goF f xs ys):=by
 induction xs generalizing ys b with
 | nil=>
  induction ys using List.casesOn with
  | nil=>cases h;exact ⟨rfl,fun _ _ _ e=>nn e,rfl⟩
  | cons=>cases h
 | cons x xs ih=>
  induction ys using List.casesOn with
  | nil=>cases h
  | cons y ys=>
  obtain ⟨a,h1,h⟩:=Option.bind_eq_some_iff.mp h;obtain ⟨c,h2,rfl⟩:=Option.map_eq_some_iff.mp h;obtain ⟨g1,g2,g3⟩:=ih h2;refine ⟨congrArg Nat.succ g1,fun j u v e1 e2=>?_,?_⟩
  ·induction j using Nat.casesOn with
   | zero=>cases e1;cases e2;exact ⟨a,h1⟩
   | succ j=>exact g2 j u v e1 e2
  ·rw [List.length_cons,List.range_succ_eq_map,List.all_cons,List.all_map,g3];exact congrArg (· && _) (congrArg (Option.getD · false) h1).symm
section cmp
variable {C:Cx}{G:Gm}{B:Bk}{A:Around}{own:Own}{σ:St}{s:Shared}
theorem uF0{x:AV}{i:Int}(h:asI x=some i):x=.int i:=by cases x<;>first | exact nn h | (cases h;rfl)
theorem uYc{x:AV}{l:List Nat}(h:asS x=some l) : ∃ g,x=.str l g:=by cases x<;>first | exact nn h | (cases h;exact ⟨_,rfl⟩)
theorem uX3{x:AV}{b:Bool}(h:asB x=some b):x=.bool b:=by cases x<;>first | exact nn h | (cases h;rfl)
theorem VR.int'{τ:uBt}{φ:List Addr}{i:Int}{u:Value}(h:VR τ φ (.int i) u) : ∃ t,u=.int i t:=by cases h;exact ⟨_,rfl⟩
theorem VR.bool'{τ:uBt}{φ:List Addr}{b:Bool}{u:Value}(h:VR τ φ (.bool b) u):u=.bool b:=by cases h;rfl
theorem VR.str'{τ:uBt}{φ:List Addr}{s:List Nat}{g:Option Nat}{u:Value}(h:VR τ φ (.str s g) u) : ∃ t,u=.str (mkS s) t:=by cases h;exact ⟨_,rfl⟩
theorem uD8{τ:uBt}{φ:List Addr}{x y:AV}{u v:Value}{b:Bool}(h:leafEq x y=some b)(hx:VR τ φ x u)(hy:VR τ φ y v):EqAt A s u v b∧RcAt A s u v b∧RcNeAt A s u v (!b):=by
 induction hx using VR.casesOn with
 | int a t=>
  obtain ⟨c,e,rfl⟩:=Option.map_eq_some_iff.mp h;obtain rfl:=uF0 e;obtain ⟨t',rfl⟩:=hy.int';exact ⟨EqAt.int_int a t c t',RcAt.int_int a t c t',RcNeAt.int_int a t c t'⟩
 | str a g t hs hg=>
  obtain ⟨c,e,rfl⟩:=Option.map_eq_some_iff.mp h;obtain ⟨g',rfl⟩:=uYc e;obtain ⟨t',rfl⟩:=hy.str';rw [← uUz];exact ⟨EqAt.str_str _ t _ t',RcAt.str_str _ t _ t',RcNeAt.str_str _ t _ t'⟩
 | bool a=>
  obtain ⟨c,e,rfl⟩:=Option.map_eq_some_iff.mp h;obtain rfl:=uX3 e;obtain rfl:=hy.bool';have e:decide (a=c)=(a==c):=by cases a<;>cases c<;>rfl
  rw [e];exact ⟨EqAt.bool_bool a c,RcAt.bool_bool a c,RcNeAt.bool_bool a c⟩
 | _=>exact nn h
theorem uWp(r:uA5 C G B own σ s.heap):∀ (n:Nat) (A:Around) (x y:AV) (u v:Value) (b:Bool),A.units+n<cLine→eqA n σ.H x y=some b→VR C.τ (adr own) x u→VR C.τ (adr own) y v→
  EqAt A s u v b∧RcAt A s u v b∧RcNeAt A s u v (!b):=by
 intro zz;induction zz with
 | zero=>
  intro A x y u v b _ h hx hy;exact uD8 h hx hy
 | succ n ih=>
  intro A x y u v b hu h hx hy;have hu':A.units<cLine:=by lia
  induction hx using VR.casesOn with
  | @ref i a ha=>
   induction hy using VR.casesOn with
   | @ref j c hc=>
    have pair:RcAt A s (.ref a) (.ref c) b∧RcNeAt A s (.ref a) (.ref c) (!b):=by
     obtain ⟨o,e1,h⟩:=Option.bind_eq_some_iff.mp h;obtain ⟨o',e2,h⟩:=Option.bind_eq_some_iff.mp h;have sz:∀ {xs ys:List AV} {vs ws:List Value},VRs C.τ (adr own) xs vs→VRs C.τ (adr own) ys ws→xs.length=ys.length→(List.toArray vs).size=(List.toArray ws).size:=fun v1 v2 hl=>(uAn v1).symm.trans (hl.trans (uAn v2));have he:∀ {xs ys:List AV} {vs ws:List Value},VRs C.τ (adr own) xs vs→VRs C.τ (adr own) ys ws→goEq (eqA n σ.H) xs ys=some b→∀ j (h1:j<(List.toArray vs).size) (h2:j<(List.toArray ws).size),EqAt A.in1 s (List.toArray vs)[j] (List.toArray ws)[j] (goF (eqA n σ.H) xs ys j):=by
      intro xs ys vs ws v1 v2 h j h1 h2;obtain ⟨g1,g2,g3⟩:=uJ1 h;have k1:j<xs.length:=(uAn v1).symm▸h1;have k2:j<ys.length:=(uAn v2).symm▸h2;obtain ⟨p,p1,p2⟩:=uDo v1 (List.getElem?_eq_getElem k1);obtain ⟨q,q1,q2⟩:=uDo v2 (List.getElem?_eq_getElem k2);obtain ⟨d,hd⟩:=g2 j _ _ (List.getElem?_eq_getElem k1) (List.getElem?_eq_getElem k2);have e3:(List.toArray vs)[j]=p:=Option.some.inj ((List.getElem?_eq_getElem h1).symm.trans p1);have e4:(List.toArray ws)[j]=q:=Option.some.inj ((List.getElem?_eq_getElem h2).symm.trans q1);have e5:goF (eqA n σ.H) xs ys j=d:=by
       unfold goF;rw [List.getElem?_eq_getElem k1,List.getElem?_eq_getElem k2];exact congrArg (Option.getD · false) hd
      rw [e3,e4,e5];exact (ih A.in1 _ _ _ _ d (by show A.units+1+n<cLine;lia) hd p2 q2).1
     induction o using AO.casesOn with
     | list xs=>
      obtain ⟨ys,e,h⟩:=Option.bind_eq_some_iff.mp h;obtain rfl:=uTn e;obtain ⟨vs,n1,l1,v1,_,_⟩:=uAv r e1 ha;obtain ⟨ws,n2,l2,v2,_,_⟩:=uAv r e2 hc;by_cases hl:xs.length=ys.length
      ·have h:=(if_pos hl).symm.trans h;have w1:=RcAt.lists (uAm l1) (uAm l2) (sz v1 v2 hl) hu' (he v1 v2 h);have w2:=RcNeAt.lists (uAm l1) (uAm l2) (sz v1 v2 hl) hu' (he v1 v2 h);rw [List.size_toArray,← uAn v1,← (uJ1 h).2.2] at w1 w2;exact ⟨w1,w2⟩
      ·cases (if_neg hl).symm.trans h;have hsz:((List.toArray vs).size != (List.toArray ws).size)=true:=by simp;rw [← uAn v1,← uAn v2];exact hl
       exact ⟨RcAt.lists_lengths (uAm l1) (uAm l2) hsz hu',RcNeAt.lists_lengths (uAm l1) (uAm l2) hsz hu'⟩
     | tup xs=>
      obtain ⟨ys,e,h⟩:=Option.bind_eq_some_iff.mp h;obtain rfl:=uUb e;obtain ⟨vs,n1,l1,v1,_,_⟩:=uD3 r e1 ha;obtain ⟨ws,n2,l2,v2,_,_⟩:=uD3 r e2 hc;by_cases hl:xs.length=ys.length
      ·have h:=(if_pos hl).symm.trans h;have w1:=RcAt.tuples (uBl l1) (uBl l2) hu' (he v1 v2 h);have w2:=RcNeAt.tuples (uBl l1) (uBl l2) hu' (he v1 v2 h);rw [sz v1 v2 hl,Nat.min_self,beq_self_eq_true,Bool.and_true,List.size_toArray,← uAn v2,← hl,← (uJ1 h).2.2] at w1 w2;exact ⟨w1,w2⟩
      ·exact nn ((if_neg hl).symm.trans h)
     | _=>exact nn h
    refine ⟨?_,pair⟩;by_cases hac:a=c
    ·subst hac;have hij:i=j:=by
      obtain ⟨l1,g1⟩:=List.getElem?_eq_some_iff.mp ha;obtain ⟨l2,g2⟩:=List.getElem?_eq_some_iff.mp hc;exact (List.getElem_inj r.nd).mp (g1.trans g2.symm)
     subst hij;rw [uQg _ _ _ _ h];exact EqAt.same _
    ·exact EqAt.of_refs hac pair.1
   | _=>exact nn h
  | none=>exact uD8 (x:=.none) (y:=y) h .none hy
  | bool c=>exact uD8 (x:=.bool c) (y:=y) h (.bool c) hy
  | int c t=>exact uD8 (x:=.int c) (y:=y) h (.int c t) hy
  | str c g t h1 h2=>exact uD8 (x:=.str c g) (y:=y) h (.str c g t h1 h2) hy
  | st=>exact uD8 (x:=.st _) (y:=y) h (.st _) hy
noncomputable abbrev BR(_:List Addr)(b:Bool)(v:Value):Prop:=v=.bool b
noncomputable def eI(a:Int):Value→Bool
 | .int b _=>decide (b=a)
 | _=>false
noncomputable def eS(a:List Nat):Value→Bool
 | .str b _=>decide (b=mkS a)
 | _=>false
theorem uSu{τ:uBt}{φ:List Addr}{f:AV→Option Bool}{e:Value→Bool}{x:AV}{u:Value}(hf:∀ y v b,f y=some b→VR τ φ y v→leafEq y x=some b∧e v=b)(hx:VR τ φ x u)(A:Around)(s:Shared){xs:List AV}{vs:List Value}(h:VRs τ φ xs vs) :
  ∀ {b:Bool},anyO f xs=some b→(∀ y∈vs,EqAt A s y u (e y))∧vs.any e=b:=by
 induction h with
 | nil=>intro b h;cases h;exact ⟨fun y hy=>(nomatch hy),rfl⟩
 | @cons z v xs vs hz hr ih=>
  intro b h;obtain ⟨a,h1,h⟩:=Option.bind_eq_some_iff.mp h;obtain ⟨c,h2,rfl⟩:=Option.map_eq_some_iff.mp h;obtain ⟨e1,e2⟩:=ih h2;obtain ⟨k1,k2⟩:=hf z v a h1 hz;refine ⟨fun y hy=>?_,by rw [List.any_cons,e2,k2]⟩;rcases List.mem_cons.mp hy with rfl|hy
  ·rw [k2];exact (uD8 k1 hz hx).1
  ·exact e1 y hy
theorem uW8{a:Int}{y:AV}{b:Bool}(h:isI a y=some b) : ∃ c,y=.int c∧decide (c=a)=b:=by
 induction y using AV.casesOn with
 | int c=>exact ⟨c,rfl,Option.some.inj h⟩
 | _=>exact nn h
theorem uYf{a:List Nat}{y:AV}{b:Bool}(h:isS a y=some b) : ∃ c g,y=.str c g∧decide (c=a)=b:=by
 induction y using AV.casesOn with
 | str c g=>exact ⟨c,g,rfl,Option.some.inj h⟩
 | _=>exact nn h
theorem uSq{τ:uBt}{φ:List Addr}{x:AV}{u:Value}{xs:List AV}{vs:List Value}{b:Bool}(hx:VR τ φ x u)(hv:VRs τ φ xs vs)(h:memA x xs=some b)(A:Around)(s:Shared) :
  ∃ e:Value→Bool,(∀ y∈vs,EqAt A s y u (e y))∧vs.any e=b:=by
 unfold memA at h;induction x using AV.casesOn with
 | int a=>
  refine ⟨eI a,uSu (fun y v b h1 h2=>?_) hx A s hv h⟩;obtain ⟨c,rfl,rfl⟩:=uW8 h1;obtain ⟨t,rfl⟩:=h2.int';exact ⟨rfl,rfl⟩
 | str a g=>
  refine ⟨eS a,uSu (fun y v b h1 h2=>?_) hx A s hv h⟩;obtain ⟨c,g,rfl,rfl⟩:=uYf h1;obtain ⟨t,rfl⟩:=h2.str';exact ⟨rfl,decide_eq_decide.mpr ⟨uE2,congrArg mkS⟩⟩
 | _=>cases h
theorem uC7(vs:List Value)(e:Value→Bool):(List.toArray vs).any e=vs.any e:=by simp
theorem uH1{prog:Program}{w:World}(x:Str)(t:Tok):(PySem.strKind prog w).is x (.str x t)=true:=strKind_is prog w x t
theorem uC3{h:Heap}{a:Addr}{ob:Obj}{prog:Program}{w:World}{τ:uBt}{φ:List Addr}{es:List (List Nat×AV)}(e:h.get? a=some ob){g:Bool}(x:uG1 prog w τ φ (.dict es g) ob) :
  ∃ kvs,h.DictOf (PySem.strKind prog w) a kvs∧EntR τ φ es kvs:=by
 obtain ⟨x1,ds,ep,kvs,x2,x3,x4,x5,x6,x7⟩:=x;exact ⟨kvs,⟨ob,ds,ep,e,x1,x2,x3,x4,x5⟩,x6⟩
theorem uDw{τ:uBt}{φ:List Addr}{k:List Nat}{es:List (List Nat×AV)}{kvs:List (Str×Value)}(h:EntR τ φ es kvs):OVR τ φ (es.lookup k) (valueAt kvs (mkS k)):=by
 induction h with
 | nil=>exact .none
 | @cons e p es kvs h hr ih=>
  obtain ⟨ek,ev⟩:=e;obtain ⟨pk,pv⟩:=p;obtain ⟨h1,h2⟩:=h;have h1:pk=mkS ek:=h1;subst h1;unfold valueAt at ih ⊢;rw [List.lookup_cons,List.find?_cons];by_cases q:k=ek
  ·subst q;rw [beq_self_eq_true,decide_eq_true rfl];exact .some h2
  ·rw [beq_false_of_ne q,decide_eq_false fun z=>q (uE2 z).symm];exact ih
theorem uH6{prog:Program}{w:World}{τ:uBt}{h₀ h:Heap}{Lc:Addr}{X own:Own}{σ:St}(r:Rel prog w τ h₀ Lc X own σ h){p:Addr×Obj}(hp:p∈own):(p.1==sysModules)=false:=beq_false_of_ne fun e=>by
 have:=r.low p hp;rw [e] at this;exact absurd this (Nat.lt_irrefl _)
noncomputable abbrev InG(C:Cx)(G:Gm)(B:Bk)(A:Around)(own:Own)(σ:St)(s:Shared)(x y:AV)(u v:Value):Prop:=
  Ref C G B A own σ s (isIn x y) (compareOp .In u v) BR∧Ref C G B A own σ s (M.bind (isIn x y) fun r=>M.pure (!r)) (compareOp .NotIn u v) BR
theorem uGd(r:uA5 C G B own σ s.heap){x y:AV}{u v:Value}(b:Bool)(h:isIn x y σ=some (.ok b,σ))(q1:∀ (Q:Value→Shared→Prop) (E:Value→Shared→Prop),(∀ tk,Q (.bool b) { s with toks:=tk })→wpAny (model C.prog C.w) A (compareOp .In u v) Q E s)
   (q2:∀ (Q:Value→Shared→Prop) (E:Value→Shared→Prop),(∀ tk,Q (.bool (!b)) { s with toks:=tk })→wpAny (model C.prog C.w) A (compareOp .NotIn u v) Q E s):InG C G B A own σ s x y u v:=
  ⟨Ref.bool r h q1,Ref.bool r (k:=!b) (by unfold M.bind;rw [h];rfl) q2⟩
theorem uEh{x y:AV}{u v:Value}(h:isIn x y σ=none):InG C G B A own σ s x y u v:=⟨Ref.fail h,Ref.fail (by unfold M.bind;rw [h])⟩
theorem uS0(hsm:True)(r:uA5 C G B own σ s.heap){x y:AV}{u v:Value}(hx:VR C.τ (adr own) x u)(hy:VR C.τ (adr own) y v):InG C G B A own σ s x y u v:=by
 induction hy using VR.casesOn with
 | @ref i a ha=>
  generalize e1:σ.H[i]?=zz;induction zz using Option.casesOn with
  | none=>exact uEh (uCx e1)
  | some o=>
   induction o using AO.casesOn with
   | list xs=>
    generalize hm:memA x xs=zz;induction zz using Option.casesOn with
    | none=>exact uEh ((uCx e1).trans (congrArg (Option.map fun r=>(Res.ok r,σ)) hm))
    | some b=>
     obtain ⟨vs,n,l1,v1,_,_⟩:=uAv r e1 ha;obtain ⟨e,k1,k2⟩:=uSq hx v1 hm A.in1 s;have k3:∀ y,y∈List.toArray vs→EqAt A.in1 s y u (e y):=fun y hy=>k1 y (by simpa using hy);refine uGd r b ((uCx e1).trans (congrArg (Option.map fun r=>(Res.ok r,σ)) hm)) (fun Q E q=>?_) fun Q E q=>?_
     ·with_reducible refine in_listAt e (uAm l1) k3 ?_
      rw [uC7,k2];exact q _
     ·with_reducible refine notIn_listAt e (uAm l1) k3 ?_
      rw [uC7,k2];exact q _
   | tup xs=>
    generalize hm:memA x xs=zz;induction zz using Option.casesOn with
    | none=>exact uEh ((uCx e1).trans (congrArg (Option.map fun r=>(Res.ok r,σ)) hm))
    | some b=>
     obtain ⟨vs,n,l1,v1,_,_⟩:=uD3 r e1 ha;obtain ⟨e,k1,k2⟩:=uSq hx v1 hm A.in1 s;have k3:∀ y,y∈List.toArray vs→EqAt A.in1 s y u (e y):=fun y hy=>k1 y (by simpa using hy);refine uGd r b ((uCx e1).trans (congrArg (Option.map fun r=>(Res.ok r,σ)) hm)) (fun Q E q=>?_) fun Q E q=>?_
     ·with_reducible refine in_tupleAt e (uBl l1) k3 ?_
      rw [uC7,k2];exact q _
     ·with_reducible refine notIn_tupleAt e (uBl l1) k3 ?_
      rw [uC7,k2];exact q _
   | sset ks=>
    induction hx using VR.casesOn with
    | str z g t hs hg=>
     obtain ⟨b,ob,h1,h2,h3,x1,es,ep,tb,x2,x3,x4,x5,x6,x7⟩:=r.at e1;rw [ha] at h2;cases h2;have hS:s.heap.SetOf (PySem.strKind C.prog C.w) a (fun k=>ks.contains k.cps.toList) ks.length:=⟨ob,es,ep,tb,h3,x1,x2,x3,x4,x5,x6,x7⟩
     have hk:(fun k:Str=>ks.contains k.cps.toList) (mkS z)=ks.contains z:=by simp
     refine uGd r (ks.contains z) (uCx e1) (fun Q E q=>?_) fun Q E q=>?_
     ·with_reducible refine wpAny_inSet_of (uH1 (mkS z) t) rfl hS ?_
      exact hk▸q _
     ·with_reducible refine wpAny_notInSet_of (uH1 (mkS z) t) rfl hS ?_
      exact hk▸q _
    | _=>exact uEh (uCx e1)
   | dict es gg=>
    induction hx using VR.casesOn with
    | str z g t hs hg=>
     obtain ⟨b,ob,h1,h2,h3,x1⟩:=r.at e1;rw [ha] at h2;cases h2;obtain ⟨kvs,hd,hent⟩:=uC3 h3 x1;have hn:=uH6 r (List.mem_of_getElem? h1);have k:=uDw (k:=z) hent;have k2:(valueAt kvs (mkS z)).isSome=(es.lookup z).isSome:=by
      generalize es.lookup z=p at k;generalize valueAt kvs (mkS z)=q at k;cases k<;>rfl
     refine uGd r (es.lookup z).isSome (uCx e1) (fun Q E q=>?_) fun Q E q=>?_
     ·with_reducible refine wpAny_in_of (uH1 (mkS z) t) hn hd.mapOf ?_
      rw [k2];exact q _
     ·with_reducible refine wpAny_notIn_of (uH1 (mkS z) t) hn hd.mapOf ?_
      rw [k2];exact q _
    | _=>exact uEh (uCx e1)
   | _=>exact uEh (uCx e1)
 | str y g t hs hg=>
  induction hx using VR.casesOn with
  | str z g' t' hs' hg'=>
   by_cases hz:z.length=1
   ·match z,hz with
    | [c],_=>
     have k1:(!(Builtin.Str.occurrences (mkS y) ⟨#[c]⟩ 0 (mkS y).length 1).isEmpty)=subL [c] y:=by
      rw [PySem.StrLaws.found_one];show decide (c∈y.toArray.toList)=y.contains c;rw [List.toList_toArray,List.contains_eq_mem]
     refine uGd r (subL [c] y) (by unfold isIn;exact if_pos rfl) (fun Q E q=>?_) fun Q E q=>?_
     ·with_reducible refine PyProof.Rows.in_str ?_
      show Q (.bool (!(Builtin.Str.occurrences (mkS y) ⟨#[c]⟩ 0 (mkS y).length 1).isEmpty)) s;rw [k1];exact q s.toks
     ·with_reducible refine PyProof.Rows.notIn_str ?_
      show Q (.bool (!(!(Builtin.Str.occurrences (mkS y) ⟨#[c]⟩ 0 (mkS y).length 1).isEmpty))) s;rw [k1];exact q s.toks
   ·exact uEh (by unfold isIn;dsimp only;rw [if_neg hz])
  | _=>exact uEh rfl
 | _=>exact uEh rfl
end cmp
end
section
noncomputable def TokOk(τ:uBt):Prop:=∀ k,(τ k).1≠0∧∀ l,((τ k).1=(τ l).1↔(τ k).2=(τ l).2)
theorem uRp{p q:Str}{t:Tok}(h:t≠0):isSame (.str p t) (.str q t)=pure true:=by
 show (if (t==0||t==0)=true then _ else if (t==t)=true then pure true else _:Sem Bool)=_;have:(t==0)=false:=beq_false_of_ne h;rw [this,beq_self_eq_true];rfl
section ops
variable {C:Cx}{G:Gm}{B:Bk}{A:Around}{own:Own}{σ:St}{s:Shared}
theorem uHu{u v:Value}{b:Bool}{Q:Value→Shared→Prop}{E:Value→Shared→Prop}(hp:plainIs u v=true)(hb:(u==v)=b):(Q (.bool b) s→wpAny (model C.prog C.w) A (compareOp .Is u v) Q E s)∧(Q (.bool !b) s→wpAny (model C.prog C.w) A (compareOp .IsNot u v) Q E s):=by
 subst hb;exact ⟨wpAny_is_plain hp,wpAny_isNot_plain hp⟩
set_option tactic.hygienic true in
theorem uXe(hT:TokOk C.τ){x y:AV}{u v:Value}{φ:List Addr}{b:Bool}(hx:VR C.τ φ x u)(hy:VR C.τ φ y v)(h:isA x y=some b)(Q:Value→Shared→Prop)(E:Value→Shared→Prop) :
  (Q (.bool b) s→wpAny (model C.prog C.w) A (compareOp .Is u v) Q E s)∧(Q (.bool !b) s→wpAny (model C.prog C.w) A (compareOp .IsNot u v) Q E s):=by
 induction hx using VR.casesOn with
 | none=>
  induction hy using VR.casesOn with
  | none=>cases h;exact uHu rfl rfl
  | ref=>cases h;exact uHu rfl rfl
  | str=>cases h;exact uHu rfl rfl
  | _=>cases h
 | str=>
  induction hy using VR.casesOn with
  | none=>cases h;exact uHu rfl rfl
  | ref=>cases h;exact uHu rfl rfl
  | str s2 g2 t2 h2 hg2=>
   rename_i s1 g1 t1 h1 hg1;induction g1 using Option.casesOn with
   | none=>cases g2<;>cases h
   | some k1=>
    induction g2 using Option.casesOn with
    | none=>cases h
    | some k2=>
     cases h;obtain ⟨rfl,rfl⟩:=hg1 k1 rfl;obtain ⟨rfl,rfl⟩:=hg2 k2 rfl;have e:isSame (.str (mkS (C.τ k1).2) (C.τ k1).1) (.str (mkS (C.τ k2).2) (C.τ k2).1)=pure (decide ((C.τ k1).2=(C.τ k2).2)):=by
      by_cases q:(C.τ k1).2=(C.τ k2).2
      ·rw [(((hT k1).2 k2).mpr q),decide_eq_true q];exact uRp (hT k2).1
      ·rw [decide_eq_false q];refine PySem.isSame_str_other _ _ _ _ ?_ (beq_false_of_ne fun z=>q (((hT k1).2 k2).mp z)) (beq_false_of_ne fun z=>q (uE2 z));rw [beq_false_of_ne (hT k1).1,beq_false_of_ne (hT k2).1];rfl
     refine ⟨fun q=>?_,fun q=>?_⟩
     ·show wpAny _ _ (do return .bool (← isSame _ _)) Q E s;rw [e];exact wpAny_bind (wpAny_pure (wpAny_pure q))
     ·show wpAny _ _ (do return .bool (!(← isSame _ _))) Q E s;rw [e];exact wpAny_bind (wpAny_pure (wpAny_pure q))
  | _=>cases h
 | @ref i a ha=>
  induction hy using VR.casesOn with
  | none=>cases h;exact uHu rfl rfl
  | str=>cases h;exact uHu rfl rfl
  | @ref j c hc=>
   have h:(if i=j then some true else none)=some b:=h;by_cases e:i=j
   ·subst e;rw [if_pos rfl] at h;cases h;rw [ha] at hc;cases hc;exact ⟨fun q=>by with_reducible exact wpAny_is_ref_self q,fun q=>by (with_reducible refine wpAny_isNot_ref_self ?_);exact q⟩
   ·rw [if_neg e] at h;cases h
  | _=>cases h
 | bool c=>
  induction hy using VR.casesOn with
  | bool d=>
   cases h;have e:(Value.bool c==Value.bool d)=decide (c=d):=by cases c<;>cases d<;>rfl
   exact uHu rfl e
  | _=>cases h
 | int=>cases h
 | @st w1=>
  induction hy using VR.casesOn with
  | @st w2=>
   induction w1 using Value.casesOn with
   | type x=>
    induction w2 using Value.casesOn with
    | type y=>
     have e:(Value.type x==Value.type y)=decide (x=y):=by
      by_cases q:x=y
      ·subst q;simp
      ·have:Value.type x≠Value.type y:=fun z=>q (by injection z);rw [beq_false_of_ne this,decide_eq_false q]
     exact uHu rfl (e.trans (Option.some.inj h))
    | _=>exact nn h
   | _=>exact nn h
  | _=>cases h
theorem uNc(hT:TokOk C.τ)(hsm:True)(hu:A.units+8<cLine)(r:uA5 C G B own σ s.heap){op:CmpOp}{x y:AV}{u v:Value}(hx:VR C.τ (adr own) x u)(hy:VR C.τ (adr own) y v) :
  Ref C G B A own σ s (uB7 op x y) (compareOp op u v) BR:=by
 cases op with
 | Eq=>
  generalize h:eqA 8 σ.H x y=zz;induction zz using Option.casesOn with
  | none=>exact Ref.fail (by unfold uB7;dsimp only;rw [h];rfl)
  | some b=>exact Ref.bool r (by unfold uB7;dsimp only;rw [h];rfl) fun Q E q=>by with_reducible refine PySem.EqBoolInt.of_rc (uWp r 8 A _ _ _ _ b hu h hx hy).2.1 (q s.toks)
 | NotEq=>
  generalize h:eqA 8 σ.H x y=zz;induction zz using Option.casesOn with
  | none=>exact Ref.fail (by unfold uB7;dsimp only;rw [h];rfl)
  | some b=>exact Ref.bool (k:=!b) r (by unfold uB7;dsimp only;rw [h];rfl) fun Q E q=>by with_reducible refine PySem.EqBoolInt.of_rcne (uWp r 8 A _ _ _ _ b hu h hx hy).2.2 (q s.toks)
 | Lt=>
  generalize h:ltA x y=zz;induction zz using Option.casesOn with
  | none=>exact Ref.fail (by unfold uB7 ofO;dsimp only;rw [h];rfl)
  | some b=>
   obtain ⟨i,e1,h'⟩:=Option.bind_eq_some_iff.mp h;obtain ⟨j,e2,rfl⟩:=Option.map_eq_some_iff.mp h';obtain rfl:=uF0 e1;obtain rfl:=uF0 e2;obtain ⟨t,rfl⟩:=hx.int';obtain ⟨t',rfl⟩:=hy.int';exact Ref.bool (k:=decide (i<j)) r rfl fun Q E q=>by with_reducible exact PyProof.Rows.lt_int (q s.toks)
 | GtE=>
  generalize h:geA x y=zz;induction zz using Option.casesOn with
  | none=>exact Ref.fail (by unfold uB7 ofO;dsimp only;rw [h];rfl)
  | some b=>
   obtain ⟨i,e1,h'⟩:=Option.bind_eq_some_iff.mp h;obtain ⟨j,e2,rfl⟩:=Option.map_eq_some_iff.mp h';obtain rfl:=uF0 e1;obtain rfl:=uF0 e2;obtain ⟨t,rfl⟩:=hx.int';obtain ⟨t',rfl⟩:=hy.int';exact Ref.bool (k:=decide (j≤i)) r rfl fun Q E q=>by with_reducible exact PyProof.Rows.ge_int (q s.toks)
 | Is=>
  generalize h:isA x y=zz;induction zz using Option.casesOn with
  | none=>exact Ref.fail (by unfold uB7 ofO;dsimp only;rw [h];rfl)
  | some b=>exact Ref.bool r (by unfold uB7 ofO;dsimp only;rw [h];rfl) fun Q E q=>(uXe hT hx hy h Q E).1 (q s.toks)
 | IsNot=>
  generalize h:isA x y=zz;induction zz using Option.casesOn with
  | none=>exact Ref.fail (by unfold uB7 ofO;dsimp only;rw [h];rfl)
  | some b=>exact Ref.bool (k:=!b) r (by unfold uB7 ofO;dsimp only;rw [h];rfl) fun Q E q=>(uXe hT hx hy h Q E).2 (q s.toks)
 | In=>exact (uS0 hsm r hx hy).1
 | NotIn=>exact (uS0 hsm r hx hy).2
 | _=>exact Ref.fail rfl
theorem Ref.tbool{m:M Bool}{t:Sem Bool}{k:Bool}(r:uA5 C G B own σ s.heap)(h:m σ=some (.ok k,σ))
  (q:∀ (Q:Bool→Shared→Prop) (E:Value→Shared→Prop),(∀ tk,Q k { s with toks:=tk })→wpAny (model C.prog C.w) A t Q E s):Ref C G B A own σ s m t (fun _ b c=>c=b):=
 Ref.still r h (fun _=>k) (fun _=>rfl) fun Q E z=>q Q E (z 0)
theorem uEw(r:uA5 C G B own σ s.heap){x:AV}{u:Value}(hx:VR C.τ (adr own) x u):Ref C G B A own σ s (Mine.Internal.truthy x) (PySem.truthy u) (fun _ b c=>c=b):=by
 induction hx using VR.casesOn with
 | none=>exact Ref.tbool (k:=false) r rfl fun Q E q=>by with_reducible exact truthy_none (q s.toks)
 | bool b=>exact Ref.tbool (k:=b) r rfl fun Q E q=>by with_reducible exact wpAny_truthy_bool (q s.toks)
 | int i t=>
  refine Ref.tbool (k:=decide (i≠0)) r rfl fun Q E q=>?_
  with_reducible refine PyProof.Rows.truthy_int ?_
  have:(i != 0)=decide (i≠0):=by by_cases h:i=0<;>simp [h]
  rw [this];exact q s.toks
 | str l g t hl hg=>
  refine Ref.tbool (k:=decide (l≠[])) r rfl fun Q E q=>?_
  with_reducible refine PySem.P.truthy_str ?_ ?_
  ·rw [uBq];have:sizeLine<2 ^ 62:=by decide
   lia
  ·have:(((mkS l).length:Int) != 0)=decide (l≠[]):=by
    rw [uBq];induction l using List.casesOn with
    | nil=>rfl
    | cons a l=>simp;lia
   rw [this];exact q _
 | st=>exact Ref.fail rfl
 | @ref i a ha=>
  generalize e1:σ.H[i]?=zz;induction zz using Option.casesOn with
  | none=>exact Ref.fail (by unfold Mine.Internal.truthy uE5;dsimp only;rw [e1];rfl)
  | some o=>
   induction o using AO.casesOn with
   | list xs=>
    obtain ⟨vs,n,l1,v1,z1,_⟩:=uAv r e1 ha;refine Ref.tbool (k:=decide (xs≠[])) r (by unfold Mine.Internal.truthy uE5;dsimp only;rw [e1];rfl) fun Q E q=>?_;have L:=uAn v1
    with_reducible refine wpAny_truthy_list (uAm l1) ?_ ?_
    ·rw [List.size_toArray,← L];have:sizeLine<2 ^ 62:=by decide
     lia
    ·have:(!(List.toArray vs).isEmpty)=decide (xs≠[]):=by
      cases v1<;>simp
     rw [this];exact q _
   | tup xs=>
    obtain ⟨vs,n,l1,v1,z1,_⟩:=uD3 r e1 ha;refine Ref.tbool (k:=decide (xs≠[])) r (by unfold Mine.Internal.truthy uE5;dsimp only;rw [e1];rfl) fun Q E q=>?_;have L:=uAn v1
    with_reducible refine truthy_tuple (uFq l1) ?_ ?_
    ·rw [List.size_toArray,← L];have:sizeLine<2 ^ 62:=by decide
     lia
    ·have:(!(List.toArray vs).isEmpty)=decide (xs≠[]):=by
      cases v1<;>simp
     rw [this];exact q _
   | _=>exact Ref.fail (by unfold Mine.Internal.truthy uE5;dsimp only;rw [e1];rfl)
theorem uV7(r:uA5 C G B own σ s.heap){x:AV}{u:Value}(hx:VR C.τ (adr own) x u):Ref C G B A own σ s (match x with | .int i=>M.pure (.int (-i)) | _=>M.fail) (unaryOp .USub u) (VR C.τ):=by
 induction hx using VR.casesOn with
 | int a t=>exact Ref.int r (k:=-a) rfl fun Q E h=>by with_reducible exact PyProof.Rows.neg_int (h _ _)
 | _=>exact Ref.fail rfl
theorem uTa(r:uA5 C G B own σ s.heap){x:AV}{u:Value}(hx:VR C.τ (adr own) x u):Ref C G B A own σ s (match x with | .int i=>M.pure (.int (Builtin.bitNot i)) | _=>M.fail) (unaryOp .Invert u) (VR C.τ):=by
 induction hx using VR.casesOn with
 | int a t=>exact Ref.int r (k:=Builtin.bitNot a) rfl fun Q E h=>by with_reducible exact PyProof.Rows.invert_int (h _ _)
 | _=>exact Ref.fail rfl
end ops
end
section
section items
variable {C:Cx}{G:Gm}{B:Bk}{A:Around}{own:Own}{σ:St}{s:Shared}
theorem uF9{k:Int}{n j:Nat}(h:seqIndex? k n=some j)(hn:n≤sizeLine):j<n∧-(2 ^ 63)≤k∧k<2 ^ 63∧((0≤k∧k.toNat=j)∨(k<0∧-(n:Int)≤k∧(k+n).toNat=j)):=by
 unfold seqIndex? at h;by_cases k0:k<0
 ·rw [if_pos k0] at h;dsimp only at h;by_cases q:(decide (0≤k+(n:Int))&&decide (k+(n:Int)<n))=true
  ·rw [if_pos q] at h;rw [Bool.and_eq_true,decide_eq_true_eq,decide_eq_true_eq] at q;have l : -(n:Int)≤k:=Int.neg_le_of_neg_le (by have:=Int.sub_nonneg.mp (show 0≤(n:Int) - -k by rw [Int.sub_neg,Int.add_comm];exact q.1);exact this);exact Option.some.inj h▸⟨(Int.toNat_lt q.1).mpr q.2,Int.le_trans (Int.neg_le_neg (Int.le_of_lt (n63 hn))) l,Int.lt_trans k0 (by decide),.inr ⟨k0,l,rfl⟩⟩
  ·rw [if_neg q] at h;exact nn h
 ·rw [if_neg k0] at h;dsimp only at h;by_cases q:(decide (0≤k)&&decide (k<n))=true
  ·rw [if_pos q] at h;rw [Bool.and_eq_true,decide_eq_true_eq,decide_eq_true_eq] at q;exact Option.some.inj h▸⟨(Int.toNat_lt q.1).mpr q.2,Int.le_trans (by decide) q.1,Int.lt_trans q.2 (n63 hn),.inl ⟨q.1,rfl⟩⟩
  ·rw [if_neg q] at h;exact nn h
theorem uJe{τ:uBt}{φ:List Addr}{xs:List AV}{vs:List Value}(h:VRs τ φ xs vs){j:Nat}{x:AV}(e:xs[j]?=some x) : ∃ v,(List.toArray vs)[j]?=some v∧VR τ φ x v:=by
 obtain ⟨v,a,b⟩:=uDo h e;exact ⟨v,by simpa using a,b⟩
theorem uLk {u:Value} {T id:String} (hT:s.TypeIs u T) (hl:typeLookup (.type T) "__getitem__" = pure (some (.builtin id))) (hne:u≠.builtin "sys.modules#opaque") {Q:Bool→Shared→Prop} {E:Value→Shared→Prop} (h:Q false s) :
  wpAny (model C.prog C.w) A (getitemInPython u) Q E s:=by
 rw [getitemInPython_of_ne hne];exact wpAny_bind (wpAny_specialOf hT hl (wpAny_pure h))
theorem uN7{slice:Expr}(h:∀ a b p,slice≠.Slice a b none p)(u v:Value):subscripted slice false u v=operate [u,v] (PySem.getItem u v):=by
 induction slice using PySem.Expr.casesOn with
 | Slice a b c p=>
  induction c using Option.casesOn with
  | none=>exact absurd rfl (h _ _ _)
  | some c=>rfl
 | _=>rfl
theorem uLl {slice base:Expr} {u v:Value} {T id:String} (hs:∀ a b p,slice≠.Slice a b none p) (hT:s.TypeIs u T) (hl:typeLookup (.type T) "__getitem__" = pure (some (.builtin id))) (hne:u≠.builtin "sys.modules#opaque")
  {Q:Value→Shared→Prop} {E:Value→Shared→Prop} (h:wpAny (model C.prog C.w) A (PySem.getItem u v) Q E s) :
  wpAny (model C.prog C.w) A (do let r ← subscripted slice (← getitemInPython u) u v;letTemporaryGo base u r;pure r) Q E s:=by
 refine wpAny_bind (uLk hT hl hne ?_);rw [uN7 hs];exact wpAny_bind (wpAny_operating (wpAny_mono h (fun r s' q=>wpAny_bind (wpAny_letTemporaryGo (wpAny_pure q))) fun _ _ e=>e))
set_option tactic.hygienic true in
theorem uJq{slice base:Expr}(hs:∀ a b p,slice≠.Slice a b none p)(r:uA5 C G B own σ s.heap){x y:AV}{u v:Value}(hx:VR C.τ (adr own) x u)(hy:VR C.τ (adr own) y v) :
  Ref C G B A own σ s (Mine.Internal.getItem x y) (do let r ← subscripted slice (← getitemInPython u) u v;letTemporaryGo base u r;pure r) (VR C.τ):=by
 induction hx using VR.casesOn with
 | str l g t hl hg=>
  induction hy using VR.casesOn with
  | int k t'=>
   generalize h:nthS l k=zz;induction zz using Option.casesOn with
   | none=>exact Ref.fail (by unfold Mine.Internal.getItem;dsimp only;rw [h];rfl)
   | some z=>
    unfold nthS at h;generalize h1:seqIndex? k l.length=zz;induction zz using Option.casesOn with
    | none=>rw [h1] at h;cases h
    | some j=>
     rw [h1] at h;dsimp only at h;refine Classical.byContradiction fun hn=>?_;obtain ⟨j1,j2,j3,_⟩:=uF9 h1 hl;refine hn ?_;clear hn;rw [List.getElem?_eq_getElem j1] at h;cases h;refine Ref.still (a:=.str [l[j]] none) r (by unfold Mine.Internal.getItem nthS;dsimp only;rw [h1];dsimp only;rw [List.getElem?_eq_getElem j1];rfl) (fun tk=>.str (mkS [l[j]]) tk) (fun tk=>.str _ _ _ (by show 1≤sizeLine;decide) (fun _ e=>nomatch e)) fun Q E q=>?_;refine uLl hs (typeIs_str s _ t) PySem.F.slot_str_getitem.lookup (fun e=>nomatch e) ?_;refine PyProof.Rows.getItem_str (c:=l[j]) ?_ ?_ (q s.toks (s.toks+1))
     ·rw [decide_eq_false (by lia),decide_eq_false (by lia)];rfl
     ·rw [uBq,h1];show l.toArray[j]?=_;rw [List.getElem?_toArray,List.getElem?_eq_getElem j1]
  | _=>exact Ref.fail rfl
 | @ref i a ha=>
  generalize e1:σ.H[i]?=zz;induction zz using Option.casesOn with
  | none=>exact Ref.fail (uBe e1)
  | some o=>
   induction o using AO.casesOn with
   | list xs=>
    induction hy using VR.casesOn with
    | int k t'=>
     generalize h:nth xs k=zz;induction zz using Option.casesOn with
     | none=>exact Ref.fail ((uBe e1).trans (congrArg (Option.map fun v=>(Res.ok v,σ)) h))
     | some z=>
      obtain ⟨vs,n,l1,v1,z1,_⟩:=uAv r e1 ha;have L:=uAn v1;have h':=h;unfold nth at h';generalize h1:seqIndex? k xs.length=zz;induction zz using Option.casesOn with
      | none=>rw [h1] at h';cases h'
      | some j=>
       rw [h1] at h';dsimp only at h';obtain ⟨j1,j2,j3,j4⟩:=uF9 h1 z1;obtain ⟨w,w1,w2⟩:=uJe v1 h';refine Ref.still (a:=z) r ((uBe e1).trans (congrArg (Option.map fun v=>(Res.ok v,σ)) h)) (fun _=>w) (fun _=>w2) fun Q E q=>?_;refine uLl hs (uAm l1).typeIs PySem.slot_list_getitem.lookup (fun e=>nomatch e) ?_;rcases j4 with ⟨k1,k2⟩|⟨k1,k2,k3⟩
       ·exact wpAny_getItem_list (uAm l1) k1 j3 (by rw [k2];exact w1) (q s.toks s.toks)
       ·refine wpAny_getItem_list_neg (uAm l1) k1 ?_ j2 ?_ (q s.toks s.toks)
        ·rw [List.size_toArray,← L];exact k2
        ·rw [List.size_toArray,← L,k3];exact w1
    | _=>exact Ref.fail (uBe e1)
   | tup xs=>
    induction hy using VR.casesOn with
    | int k t'=>
     generalize h:nth xs k=zz;induction zz using Option.casesOn with
     | none=>exact Ref.fail ((uBe e1).trans (congrArg (Option.map fun v=>(Res.ok v,σ)) h))
     | some z=>
      obtain ⟨vs,n,l1,v1,z1,_⟩:=uD3 r e1 ha;have L:=uAn v1;have h':=h;unfold nth at h';generalize h1:seqIndex? k xs.length=zz;induction zz using Option.casesOn with
      | none=>rw [h1] at h';cases h'
      | some j=>
       rw [h1] at h';dsimp only at h';obtain ⟨j1,j2,j3,j4⟩:=uF9 h1 z1;obtain ⟨w,w1,w2⟩:=uJe v1 h';refine Ref.still (a:=z) r ((uBe e1).trans (congrArg (Option.map fun v=>(Res.ok v,σ)) h)) (fun _=>w) (fun _=>w2) fun Q E q=>?_;refine uLl hs (uFq l1).typeIs PySem.F.slot_tuple_getitem.lookup (fun e=>nomatch e) ?_;refine PyProof.Rows.getItem_tuple (uFq l1) j2 j3 (j:=j) ?_ w1 (q s.toks s.toks);rw [List.size_toArray,← L];exact h1
    | _=>exact Ref.fail (uBe e1)
   | dict es gg=>
    induction hy using VR.casesOn with
    | str k g t hs' hg=>
     generalize h:es.lookup k=zz;induction zz using Option.casesOn with
     | none=>exact Ref.fail ((uBe e1).trans (congrArg (Option.map fun v=>(Res.ok v,σ)) h))
     | some z=>
      refine Classical.byContradiction fun hn=>?_;obtain ⟨b,ob,h1,h2,h3,x1⟩:=r.at e1;refine hn ?_;clear hn;rw [ha] at h2;cases h2;obtain ⟨kvs,hd,hent⟩:=uC3 h3 x1;have k1:=uDw (k:=k) hent;rw [h] at k1;generalize hv:valueAt kvs (mkS k)=w at k1;cases k1 with
      | some k1=>
       rename_i w;refine Ref.still (a:=z) r ((uBe e1).trans (congrArg (Option.map fun v=>(Res.ok v,σ)) h)) (fun _=>w) (fun _=>k1) fun Q E q=>?_;refine uLl hs hd.mapOf.typeIs PySem.slot_dict_getitem.lookup (fun e=>nomatch e) ?_;exact wpAny_getItem_of (uH1 (mkS k) t) hd.mapOf hv (q s.toks (s.toks+1))
    | _=>exact Ref.fail (uBe e1)
   | _=>exact Ref.fail (uBe e1)
 | _=>exact Ref.fail rfl
theorem uSj(i:Int)(n:Nat):bnd i n≤n:=by
 unfold bnd;split
 ·exact Nat.min_le_right _ _
 ·exact Nat.sub_le _ _
theorem uKz(i:Int)(n:Nat):max 0 (min (if i<0 then i+n else i) (n:Int))=(bnd i n:Int):=by
 unfold bnd;rcases Int.lt_or_le i 0 with h|h
 ·rw [if_pos h,if_neg (Int.not_le.mpr h),Int.min_eq_left (Int.le_trans (Int.add_le_add_right (Int.le_of_lt h) n) (Int.le_of_eq (Int.zero_add (n:Int))))];rw [← Int.toNat_sub,Int.ofNat_toNat,Int.toNat_of_nonneg (Int.neg_nonneg_of_nonpos (Int.le_of_lt h)),Int.sub_neg,Int.add_comm,Int.max_comm]
 ·rw [if_neg (Int.not_lt.mpr h),if_pos h];rcases Nat.le_total i.toNat n with q|q
  ·rw [Nat.min_eq_left q,Int.min_eq_left (Int.toNat_le.mp q),Int.max_eq_right h,Int.toNat_of_nonneg h]
  ·rw [Nat.min_eq_right q,Int.min_eq_right ((Int.le_toNat h).mp q),Int.max_eq_right (Int.natCast_nonneg n)]
noncomputable def lob(lo:Option Int)(n:Nat):Nat:=match lo with | some i=>bnd i n | none=>0
noncomputable def hib(hi:Option Int)(n:Nat):Nat:=match hi with | some i=>bnd i n | none=>n
theorem strIdx(lo hi:Option Int)(n:Nat):Builtin.Str.strSliceIndices lo hi 1 n=(List.range (hib hi n-lob lo n)).map (lob lo n + ·):=by
 rw [← sliceRange_one];unfold Builtin.Str.strSliceIndices;simp only [show (1:Int) > 0 by decide,if_true];cases lo<;>cases hi<;>simp only [uKz,lob,hib]<;>rfl
theorem listIdx(lo hi:Option Int)(n:Nat):sliceRange (sliceBounds lo hi none n).1 (sliceBounds lo hi none n).2.1 (sliceBounds lo hi none n).2.2=(List.range (hib hi n-lob lo n)).map (lob lo n + ·):=by
 rw [← sliceRange_one];simp only [sliceBounds,Option.getD_none,show (1:Int) > 0 by decide,if_true];cases lo<;>cases hi<;>simp only [uKz,lob,hib]<;>rfl
theorem uIq{α:Type}(xs:List α)(lo hi:Option Int):cut xs lo hi=(xs.drop (lob lo xs.length)).take (hib hi xs.length-lob lo xs.length):=by
 unfold cut;rw [← List.drop_take];cases lo<;>cases hi<;>rfl
theorem uEb(vs:List Value)(lo hi:Option Int):slicePick (List.toArray vs) lo hi none=(cut vs lo hi).toArray:=by
 unfold slicePick;rw [listIdx,pick_run,List.size_toArray,uIq]
theorem uOr{τ:uBt}{φ:List Addr}{xs:List AV}{vs:List Value}(h:VRs τ φ xs vs)(lo hi:Option Int):VRs τ φ (cut xs lo hi) (cut vs lo hi):=by
 rw [uIq,uIq,← uAn h];exact uLj (uH0 h _) _
theorem uGk{α:Type}(xs:List α)(lo hi:Option Int):(cut xs lo hi).length≤xs.length:=cutl xs _ _
theorem uNe{τ:uBt}{φ:List Addr}{x:AV}{v:Value}{o:Option Int}(h:VR τ φ x v)(e:uB6 x=some o) : ∃ p:Option (Int×Tok),v=partValue p∧p.map (·.1)=o∧IsPart v o:=by
 induction h using VR.casesOn with
 | none=>cases e;exact ⟨none,rfl,rfl,.none⟩
 | int i t=>cases e;exact ⟨some (i,t),rfl,rfl,.int i t⟩
 | _=>cases e
noncomputable def ScrAt(C:Cx)(h:Heap):Prop:=∃ vs:List Value,h.IsList C.P.scr.1 vs.toArray∧IntsAre vs C.P.scr.2∧vs.length≤sizeLine
theorem uP4{τ:uBt}{φ:List Addr}{vs:List Value}{ns:List Int}(h:IntsAre vs ns):VRs τ φ (ns.map AV.int) vs:=by
 induction h with
 | nil=>exact .nil
 | cons n t _ ih=>exact .cons (.int n t) ih
theorem uIz(hS:ScrAt C s.heap){base:Expr}{ea eb:Option Expr}{p pos:Pos}(r:uA5 C G B own σ s.heap){x y z:AV}{u lv hv:Value}{lo hi:Option Int}(hx:VR C.τ (adr own) x u)(hl:VR C.τ (adr own) y lv)(hh:VR C.τ (adr own) z hv)
  (el:uB6 y=some lo) (eh:uB6 z=some hi) :
  ∀ (Q:Value→Shared→Prop) (E:Value→Shared→Prop),Good C G B own σ s (uBh C.P x lo hi) (VR C.τ) Q E→
   wpAny (model C.prog C.w) A (newFields "slice" [lv,hv,.none]) (fun i s'=>wpAny (model C.prog C.w) A (PySem.standAt pos>>=fun _=>do let r ← subscripted (.Slice ea eb none p) (← getitemInPython u) u i;letTemporaryGo base u r;pure r) Q E s') E s:=by
 refine Classical.byContradiction fun hn=>?_;obtain ⟨pl,el1,el2,el3⟩:=uNe hl el;refine hn ?_;clear hn;refine Classical.byContradiction fun hn=>?_;obtain ⟨ph,eh1,eh2,eh3⟩:=uNe hh eh;refine hn ?_;clear hn;have r2:uA5 C G B own σ (s.heap.push { cls:=.type "slice",data:=.fields #[lv,hv,.none] }):=r.grow fun _ _ e=>Heap.get?_push_of_some _ e;have step:∀ {T id:String} {Q:Value→Shared→Prop} {E:Value→Shared→Prop} (hT:Shared.TypeIs { s with heap:=s.heap.push { cls:=.type "slice",data:=.fields #[lv,hv,.none] } } u T) (hlk:typeLookup (.type T) "__getitem__" = pure (some (.builtin id))) (hne:u≠.builtin "sys.modules#opaque"),
   wpAny (model C.prog C.w) A (PySem.getItem u (.ref s.heap.objs.size)) Q E { s with heap:=s.heap.push { cls:=.type "slice",data:=.fields #[lv,hv,.none] } }→
   wpAny (model C.prog C.w) A (newFields "slice" [lv,hv,.none]) (fun i s'=>wpAny (model C.prog C.w) A (PySem.standAt pos>>=fun _=>do let r ← subscripted (.Slice ea eb none p) (← getitemInPython u) u i;letTemporaryGo base u r;pure r) Q E s') E s:=by
  intro T id Q E hT hlk hne h;refine wpAny_newObj_type ?_;refine wpAny_bind (wpAny_standAt ?_);refine wpAny_bind (uLk hT hlk hne ?_);exact wpAny_bind (wpAny_operating (wpAny_mono h (fun r s' q=>wpAny_bind (wpAny_letTemporaryGo (wpAny_pure q))) fun _ _ e=>e))
 intro Q₀ E₀ gd;have bad:uBh C.P x lo hi σ=none→∀ {P:Prop},P:=fun h=>by
  unfold Good at gd;rw [h] at gd;exact gd.elim
 cases hx with
 | str l g t hs hg=>
  have key:∀ (Q:Value→Shared→Prop) (h':Heap) (tk:Nat),(∀ b tk',VR C.τ (adr own) (.str (cut l lo hi) none) b→Q b { s with heap:=h',toks:=tk' })→(sliceMade (mkS l) t pl ph none).post Q { s with heap:=h',toks:=tk }:=by
   intro Q h' tk q;have e0:slicePicked (mkS l) pl ph none=(List.range (hib hi l.length-lob lo l.length)).map (lob lo l.length + ·):=by
    unfold slicePicked;rw [el2,eh2,uBq];exact strIdx lo hi l.length
   have hc:(cut l lo hi).length≤sizeLine:=Nat.le_trans (uGk ..) hs;have e1:(slicePicked (mkS l) pl ph none).filterMap ((mkS l).cps[·]?)=cut l lo hi:=by
    rw [e0,uIq];have:=pick_run l.toArray (lob lo l.length) (hib hi l.length-lob lo l.length);simpa using this
   unfold sliceMade
   split
   ·rename_i hq;have e2:cut l lo hi=l:=by
     simp only [Bool.and_eq_true,beq_iff_eq] at hq;have q2:=hq.2;rw [e0,uBq,List.length_map,List.length_range] at q2;rw [uIq];have:lob lo l.length≤l.length:=by induction lo using Option.casesOn with
      | none=>exact Nat.zero_le _
      | some i=>exact uSj i _
     have:hib hi l.length≤l.length:=by induction hi using Option.casesOn with
      | none=>exact Nat.le_refl _
      | some i=>exact uSj i _
     have h0:lob lo l.length=0∨l.length=0:=by lia
     rcases h0 with h0|h0
     ·rw [h0,List.drop_zero];exact List.take_of_length_le (by lia)
     ·have:l=[]:=List.eq_nil_of_length_eq_zero h0;subst this;simp
    exact q _ tk (by rw [e2];exact .str _ _ _ hs (fun _ e=>nomatch e))
   ·rw [e1];exact ⟨by show (cut l lo hi).toArray.size≤sizeLine;rw [List.size_toArray];exact hc,q _ _ (.str _ _ _ hc (fun _ e=>nomatch e))⟩
  have q:∀ own' h' tk' b,adr own<+:adr own'→uA5 C G B own' σ h'→VR C.τ (adr own') (.str (cut l lo hi) none) b→Q₀ b { s with heap:=h',toks:=tk' }:=fun own' h' tk' b p r' x=>gd.ok (σ':=σ) rfl p r' x;refine step (typeIs_str _ _ t) PySem.F.slot_str_getitem.lookup (fun e=>nomatch e) ?_;refine wpAny_getItem_str_slice (l:=pl) (u:=ph) (st:=none) ⟨_,Heap.get?_push_size _ rfl,rfl,by rw [el1,eh1];rfl⟩ rfl ?_;exact key Q₀ _ s.toks fun b tk' hb=>q own _ tk' b (List.prefix_refl _) r2 hb
 | @ref i a ha=>
  rcases e1':σ.H[i]?.bind pL with _|xs
  ·exact bad (obn e1')
  have e1:=uL9 e1';obtain ⟨vs,n,l1,v1,z1,_⟩:=uAv r2 e1 ha;have L:=uAn v1;have q:∀ own' h' tk' b,adr own<+:adr own'→uA5 C G B own' ⟨σ.L,σ.H++[.list (cut xs lo hi)]⟩ h'→VR C.τ (adr own') (.ref σ.H.length) b→Q₀ b { s with heap:=h',toks:=tk' }:=fun own' h' tk' b p r' x=>gd.ok (by exact ob e1' rfl) p r' x;refine step (uAm l1).typeIs PySem.slot_list_getitem.lookup (fun e=>nomatch e) ?_;refine wpAny_getItem_list_slice (uAm l1) (Heap.IsSliceOf.new ..) el3 eh3 .none (by simp) ?_ (by rw [List.size_toArray,← L];exact z1);rw [uEb];exact q _ _ s.toks _ (uAj own _) (r2.push ⟨0,cut vs lo hi,rfl,(uOr v1 lo hi).mono (uAj _ _),Nat.le_trans (uGk ..) z1⟩) (uBx r2 _ _)
 | st=>
  induction u using PySem.Value.casesOn with
  | ref a=>
   by_cases ha:a=C.P.scr.1
   ·subst ha;refine Classical.byContradiction fun hn=>?_;obtain ⟨vs,⟨ob,l1,l2,n,l3⟩,iv,z1⟩:=hS;refine hn ?_;clear hn;have v1:VRs C.τ (adr own) (C.P.scr.2.map AV.int) vs:=uP4 iv;have L:=uAn v1;have hl:(s.heap.push { cls:=.type "slice",data:=.fields #[lv,hv,.none] }).IsList C.P.scr.1 vs.toArray:=⟨ob,Heap.get?_push_of_some _ l1,l2,n,l3⟩
    have q:∀ own' h' tk' b,adr own<+:adr own'→uA5 C G B own' ⟨σ.L,σ.H++[.list (cut (C.P.scr.2.map AV.int) lo hi)]⟩ h'→VR C.τ (adr own') (.ref σ.H.length) b→Q₀ b { s with heap:=h',toks:=tk' }:=fun own' h' tk' b p r' x=>gd.ok (by unfold uBh;dsimp only;rw [if_pos rfl]) p r' x;refine step hl.typeIs PySem.slot_list_getitem.lookup (fun e=>nomatch e) ?_;refine wpAny_getItem_list_slice hl (Heap.IsSliceOf.new ..) el3 eh3 .none (by simp) ?_ (by rw [List.size_toArray];exact z1);rw [uEb];exact q _ _ s.toks _ (uAj own _) (r2.push ⟨0,cut vs lo hi,rfl,(uOr v1 lo hi).mono (uAj _ _),Nat.le_trans (uGk ..) (by rw [L];exact z1)⟩) (uBx r2 _ _)
   ·exact bad (by unfold uBh;dsimp only;rw [if_neg ha])
  | _=>exact bad rfl
 | _=>exact bad rfl
theorem uLt{k:List Nat}{pv rv:Value}{kvs:List (Str×Value)}(hn:mkS k∉kvs.map Prod.fst):stored ((mkS k,pv)::kvs) (mkS k) rv=(mkS k,rv)::kvs:=by
 unfold stored;rw [if_pos (by simp),List.map_cons,if_pos rfl]
 congr 1
 refine (List.map_congr_left fun p hp=>?_).trans (List.map_id' _);rw [if_neg fun (z:p.1=mkS k)=>hn (z▸(List.mem_map_of_mem hp:p.1∈kvs.map Prod.fst))]
theorem uJ8{k ek:List Nat}{pv rv:Value}{kvs:List (Str×Value)}(q2:mkS ek≠mkS k):stored ((mkS ek,pv)::kvs) (mkS k) rv=(mkS ek,pv)::stored kvs (mkS k) rv:=by
 unfold stored;rw [List.any_cons,decide_eq_false q2,Bool.false_or]
 split
 ·rw [List.map_cons,if_neg q2]
 ·rfl
theorem uWj{τ:uBt}{φ:List Addr}{k:List Nat}{v:AV}{rv:Value}(hv:VR τ φ v rv){es:List (List Nat×AV)}{kvs:List (Str×Value)}(h:EntR τ φ es kvs):(kvs.map Prod.fst).Nodup→EntR τ φ (setD k v es) (stored kvs (mkS k) rv):=by
 induction h with
 | nil=>exact fun _=>.cons ⟨rfl,hv⟩ .nil
 | @cons e p es kvs h hr ih=>
  intro hn;obtain ⟨ek,ev⟩:=e;obtain ⟨pk,pv⟩:=p;obtain ⟨h1,h2⟩:=h;have h1:pk=mkS ek:=h1;subst h1;rw [List.map_cons,List.nodup_cons] at hn;rw [uF3];by_cases q:k=ek
  ·subst q;rw [if_pos (beq_self_eq_true _),uLt hn.1];exact .cons ⟨rfl,hv⟩ hr
  ·rw [if_neg (by simpa using q),uJ8 fun z=>q (uE2 z).symm];exact .cons ⟨rfl,h2⟩ (ih hn.2)
theorem uS9{τ:uBt}{φ:List Addr}{k:List Nat}{es:List (List Nat×AV)}{kvs:List (Str×Value)}(h:EntR τ φ es kvs):EntR τ φ (es.filter fun e=>!(e.1==k)) (without kvs (mkS k)):=by
 induction h with
 | nil=>exact .nil
 | @cons e p es kvs h hr ih=>
  obtain ⟨ek,ev⟩:=e;obtain ⟨pk,pv⟩:=p;obtain ⟨h1,h2⟩:=h;have h1:pk=mkS ek:=h1;subst h1;unfold without at ih ⊢;rw [List.filter_cons,List.filter_cons];by_cases q:ek=k
  ·subst q;rw [if_neg (by simp),if_neg (by simp)];exact ih
  ·have q2:mkS ek≠mkS k:=fun z=>q (uE2 z);rw [if_pos (by simpa using q),if_pos (by simpa using q2)];exact .cons ⟨rfl,h2⟩ ih
theorem uOh{h:Heap}{a:Addr}{prog:Program}{w:World}{τ:uBt}{φ:List Addr}{es:List (List Nat×AV)}{kvs:List (Str×Value)}(hd:h.DictOf (PySem.strKind prog w) a kvs)(he:EntR τ φ es kvs) :
  ∃ ob,h.get? a=some ob∧uG1 prog w τ φ (.dict es false) ob:=by
 refine Classical.byContradiction fun hn=>?_;obtain ⟨ob,ds,ep,h1,h2,h3,h4,h5,h6⟩:=hd;refine hn ?_;clear hn;exact ⟨ob,h1,h2,ds,ep,kvs,h3,h4,h5,h6,he,fun e=>nomatch e⟩
theorem uKj{h:Heap}{a:Addr}{prog:Program}{w:World}{τ:uBt}{φ:List Addr}{es:List (List Nat×AV)}{kvs:List (Str×Value)}{ep:Nat}{g:Bool}(hd:h.DictAt (PySem.strKind prog w) a kvs ep)(he:EntR τ φ es kvs)(hep:g=true→ep=es.length) :
  ∃ ob,h.get? a=some ob∧uG1 prog w τ φ (.dict es g) ob:=by
 refine Classical.byContradiction fun hn=>?_;obtain ⟨ob,ds,h1,h2,h3,h4,h5,h6⟩:=hd;refine hn ?_;clear hn;exact ⟨ob,h1,h2,ds,ep,kvs,h3,h4,h5,h6,he,hep⟩
theorem uC0{h:Heap}{a:Addr}{ob:Obj}{prog:Program}{w:World}{τ:uBt}{φ:List Addr}{es:List (List Nat×AV)}{g:Bool}(e:h.get? a=some ob)(x:uG1 prog w τ φ (.dict es g) ob) :
  ∃ kvs ep,h.DictAt (PySem.strKind prog w) a kvs ep∧EntR τ φ es kvs∧(g=true→ep=es.length):=by
 refine Classical.byContradiction fun hn=>?_;obtain ⟨x1,ds,ep,kvs,x2,x3,x4,x5,x6,x7⟩:=x;refine hn ?_;clear hn;exact ⟨kvs,ep,⟨ob,ds,e,x1,x2,x3,x4,x5⟩,x6,x7⟩
theorem uCh{τ:uBt}{φ:List Addr}{es:List (List Nat×AV)}{kvs:List (Str×Value)}(h:EntR τ φ es kvs):kvs.length=es.length:=(uAn h).symm
theorem uRu(r:uA5 C G B own σ s.heap){i:Nat}{a:Addr}{ob:Obj}{es:List (List Nat×AV)}{kvs:List (Str×Value)}{h':Heap}(h1:own[i]?=some (a,ob))(hs:Heap.SameBut a s.heap h')(hd:h'.DictOf (PySem.strKind C.prog C.w) a kvs)(he:EntR C.τ (adr own) es kvs) :
  ∃ own',adr own<+:adr own'∧uA5 C G B own' ⟨σ.L,σ.H.set i (.dict es false)⟩ h':=by
 obtain ⟨ob',z1,z2⟩:=uOh hd he;exact ⟨own.set i (a,ob'),by rw [uBm own (ob':=ob') h1];exact List.prefix_refl _,r.upd h1 (fun b o hb z=>(hs.2 b hb).trans z) z1 z2⟩
theorem uMd(r:uA5 C G B own σ s.heap){i:Nat}{a:Addr}{ob:Obj}{es:List (List Nat×AV)}{kvs:List (Str×Value)}{h':Heap}{ep:Nat}{g:Bool}(h1:own[i]?=some (a,ob))(hs:Heap.SameBut a s.heap h')(hd:h'.DictAt (PySem.strKind C.prog C.w) a kvs ep)(he:EntR C.τ (adr own) es kvs)(hep:g=true→ep=es.length) :
  ∃ own',adr own<+:adr own'∧uA5 C G B own' ⟨σ.L,σ.H.set i (.dict es g)⟩ h':=by
 obtain ⟨ob',z1,z2⟩:=uKj hd he hep;exact ⟨own.set i (a,ob'),by rw [uBm own (ob':=ob') h1];exact List.prefix_refl _,r.upd h1 (fun b o hb z=>(hs.2 b hb).trans z) z1 z2⟩
section ep
variable {prog:Program}{w:World}{E:Value→Shared→Prop}
theorem uL0{d:Addr}{kvs:List (Str×Value)}{ep:Nat}{k:Str}{key v:Value}{Q:Unit→Shared→Prop}(hkey:(PySem.strKind prog w).is k key=true)(hm:s.heap.DictAt (PySem.strKind prog w) d kvs ep)
  (hQ:∀ h',h'.DictAt (PySem.strKind prog w) d (stored kvs k v) (if kvs.any (fun kv=>kv.1=k) then ep else ep+1)→Heap.SameBut d s.heap h'→Q () { s with heap:=h',toks:=s.toks+1 })
  (hsz:kvs.length≤sizeLine):wpAny (model prog w) A (PySem.setItem (.ref d) key v) Q E s:=by
 obtain ⟨o,es,ho,hc,hd,hk,hp,hn⟩:=hm;have hOf:s.heap.DictOf (PySem.strKind prog w) d kvs:=⟨o,es,ep,ho,hc,hd,hk,hp,hn⟩
 have hes:es.size≤sizeLine:=by
  have e1:=hp.length;have e2:es.toList.length=es.size:=by rfl
  lia
 unfold PySem.setItem
 try with_reducible refine wpAny_holding ?_
 refine wpAny_bind (wpAny_sequenceKey hOf.typeIs (by decide) ?_);refine wpAny_bind (wpAny_callSpecial?_slot (name:=Str.ofString "__setitem__") hOf.typeIs slot_dict_setitem
  (wpAny_call_entry slot_dict_setitem hOf.typeIs entry_dict_setitem ?_ (args_dict_setitem _ _ _)))
 show wpAny _ _ (Builtin.Dict.notOrdered "__setitem__" ⟨[.ref d,key,v],[]⟩>>=_) _ _ s;refine wpAny_bind (wpAny_notOrdered_dict hOf.typeIs ?_);show wpAny _ _ (dictSet d key v>>=_) _ _ s;refine wpAny_bind ?_;unfold dictSet
 try with_reducible refine wpAny_holding ?_
 refine wpAny_bind ((PySem.strKind prog w).pyHash hkey ?_);unfold dictSetHashed
 try with_reducible refine wpAny_holding ?_
 refine wpAny_bind (wpAny_dictFind_of (s:={ s with toks:=s.toks+1 }) hkey ho hd hk ?_);have hidx:(es.findIdx? fun e=>(PySem.strKind prog w).is k e.key)=kvs.findIdx? fun kv=>decide (kv.1=k):=by
  rw [← hp.findIdx k];obtain ⟨l⟩:=es;simp
 cases hi:es.findIdx? fun e=>(PySem.strKind prog w).is k e.key with
 | some i=>
  have hany:=any_of_findIdx_some (hidx▸hi);refine wpAny_bind (wpAny_rule (wpAny_bind (wpAny_updateDict (s:={ s with toks:=s.toks+1 }) ho hd (wpAny_point (wpAny_pure ⟨_,rfl,wpAny_pure (hQ _ ?_ (Heap.SameBut.update ..))⟩)))));rw [if_pos hany,stored,if_pos hany];refine ⟨_,_,Heap.get?_update_self _ ho (Obj.isFreed_of_dict (Obj.data_mapDict hd _)),hc.mapDict _,Obj.data_mapDict hd _,hk.modify _ _,?_,?_⟩
  ·have hl:(es.toList.findIdx? fun e=>(PySem.strKind prog w).is k e.key)=some i:=by rw [← hi];obtain ⟨l⟩:=es;simp
   have:=hp.modify hn hl v;obtain ⟨l⟩:=es;simpa using this
  ·rw [keys_map_store];exact hn
 | none=>
  have hnot:k∉kvs.map (·.1):=not_mem_of_findIdx_none (hidx▸hi);have hany:¬ (kvs.any fun kv=>decide (kv.1=k))=true:=by
   rw [List.any_eq_true];rintro ⟨kv,hkv,he⟩;exact hnot (List.mem_map.mpr ⟨kv,hkv,of_decide_eq_true he⟩)
  refine wpAny_bind (wpAny_rule (wpAny_updateDictKeys (hz:=hes) (s:={ s with toks:=s.toks+1 }) ho hd (wpAny_pure ⟨_,rfl,wpAny_pure (hQ _ ?_ (Heap.SameBut.update ..))⟩)));rw [if_neg hany,stored,if_neg hany];refine ⟨_,_,Heap.get?_update_self _ ho (Obj.isFreed_of_dict (Obj.data_mapDictKeys hd _)),hc.mapDictKeys _,Obj.data_mapDictKeys hd _,hk.push hkey _,?_,?_⟩
  ·have:=hp.append hkey ((PySem.strKind prog w).hash k) v;obtain ⟨l⟩:=es;simpa using this
  ·rw [List.map_append,List.nodup_append];refine ⟨hn,by simp,?_⟩;intro a ha b hb;simp only [List.map_cons,List.map_nil,List.mem_singleton] at hb;subst hb;exact fun e=>hnot (e▸ha)
end ep
theorem uJo(r:uA5 C G B own σ s.heap){x y z:AV}{u v w:Value}(hx:VR C.τ (adr own) x u)(hy:VR C.τ (adr own) y v)(hz:VR C.τ (adr own) z w) :
  Ref C G B A own σ s (Mine.Internal.setItem x y z) (PySem.setItem u v w) (fun _ _ _=>True):=by
 induction hx using VR.casesOn with
 | @ref i a ha=>
  generalize e1:σ.H[i]?=zz;induction zz using Option.casesOn with
  | none=>exact Ref.fail (uB2 e1)
  | some o=>
   induction o using AO.casesOn with
   | list xs=>
    induction hy using VR.casesOn with
    | int k t'=>
     by_cases hk:0≤k∧k.toNat<xs.length
     ·refine Classical.byContradiction fun hn=>?_;obtain ⟨vs,n,l1,v1,z1,h1⟩:=uAv r e1 ha;refine hn ?_;clear hn;have L:=uAn v1;refine Ref.of (a:=()) (σ':=⟨σ.L,σ.H.set i (.list (xs.set k.toNat z))⟩) ((uB2 e1).trans (if_pos hk)) fun Q E q=>?_;have hsz:sizeLine<2 ^ 62:=by decide
      have q1:=PySem.IsL.update (n:=n) l1 (·.setIfInBounds k.toNat w);have e2:(List.toArray vs).setIfInBounds k.toNat w=(vs.set k.toNat w).toArray:=by
       apply Array.toList_inj.mp;simp
      have q2:(s.heap.update a (Obj.mapSeq (·.setIfInBounds k.toNat w))).get? a=some (listOf (vs.set k.toNat w).toArray n):=by
       rw [← e2];have q3:=q1;rw [Array.size_setIfInBounds,if_pos (by simp)] at q3;exact q3
      with_reducible refine ki_setAt (n:=n) l1 hk.1 (by lia) (by rw [List.size_toArray];lia) ?_
      have r':=r.upd h1 (o':=.list (xs.set k.toNat z)) (fun b o hb y=>((Heap.SameBut.update ..).2 b hb).trans y) q2 ⟨n,vs.set k.toNat w,rfl,uJ4 v1 _ hz,by rw [List.length_set];exact z1⟩;exact q _ _ s.toks () (by rw [uBm own h1];exact List.prefix_refl _) r' trivial
     ·exact Ref.fail ((uB2 e1).trans (if_neg hk))
    | _=>exact Ref.fail (uB2 e1)
   | dict es gg=>
    induction hy using VR.casesOn with
    | str k g t hs' hg=>
     by_cases hk:es.length<900
     ·obtain ⟨b,ob,h1,h2,h3,x1⟩:=r.at e1;rw [ha] at h2;cases h2;obtain ⟨kvs,ep,hd,hent,hep⟩:=uC0 h3 x1;have hn:(kvs.map Prod.fst).Nodup:=by obtain ⟨_,_,_,_,_,_,_,hn⟩:=hd;exact hn
      refine Ref.of (a:=()) (σ':=⟨σ.L,σ.H.set i (.dict (setD k z es) gg)⟩) ((uB2 e1).trans (if_pos hk)) fun Q E q=>?_;have hsz:kvs.length≤sizeLine:=by rw [uCh hent];exact Nat.le_trans (Nat.le_of_lt hk) (by decide)
      with_reducible refine uL0 (uH1 (mkS k) t) hd (fun h' hd' hs=>?_) hsz
      have hent':=uWj (k:=k) hz hent hn;have hlen:gg=true→(if kvs.any (fun kv=>kv.1=mkS k) then ep else ep+1)=(setD k z es).length:=fun g=>by
       rw [← uCh hent',stored];have e2:=hep g;have e3:=uCh hent
       split
       ·rw [List.length_map];lia
       ·rw [List.length_append];simp;lia
      obtain ⟨own',p,r'⟩:=uMd r h1 hs hd' hent' hlen;exact q own' h' _ () p r' trivial
     ·exact Ref.fail ((uB2 e1).trans (if_neg hk))
    | _=>exact Ref.fail (uB2 e1)
   | _=>exact Ref.fail (uB2 e1)
 | _=>exact Ref.fail rfl
theorem uJz(r:uA5 C G B own σ s.heap){x y:AV}{u v:Value}(hx:VR C.τ (adr own) x u)(hy:VR C.τ (adr own) y v) :
  Ref C G B A own σ s (Mine.Internal.delItem x y) (PySem.delItem u v) (fun _ _ _=>True):=by
 induction hx using VR.casesOn with
 | @ref i a ha=>
  generalize e1:σ.H[i]?=zz;induction zz using Option.casesOn with
  | none=>exact Ref.fail (uCy e1)
  | some o=>
   induction o using AO.casesOn with
   | dict es gg=>
    induction hy using VR.casesOn with
    | str k g t hs' hg=>
     by_cases hk:(es.lookup k).isSome∧es.length≤lz
     ·obtain ⟨b,ob,h1,h2,h3,x1⟩:=r.at e1;rw [ha] at h2;cases h2;obtain ⟨kvs,hd,hent⟩:=uC3 h3 x1;have k1:=uDw (k:=k) hent;have k2:(valueAt kvs (mkS k)).isSome=true:=by
       rw [← hk.1];generalize es.lookup k=p at k1;generalize valueAt kvs (mkS k)=q at k1;cases k1<;>rfl
      refine Ref.of (a:=()) (σ':=⟨σ.L,σ.H.set i (.dict (es.filter fun e=>!(e.1==k)) false)⟩) ((uCy e1).trans (if_pos hk)) fun Q E q=>?_;refine wpAny_delItem_slot hd.typeIs (by decide) PySem.F.slot_dict_delitem (call_meetsIn PySem.F.slot_dict_delitem hd.typeIs PySem.F.entry_dict_delitem (PySem.F.args_dict_delitem_2 _ _) (meets_dict_delitem_pairs (PySem.strKind C.prog C.w) a (uH1 (mkS k) t)) ⟨kvs,hd,?_,k2,fun h' hmm hs=>?_⟩)
      ·rw [uCh hent];exact uBa hk.2
      ·obtain ⟨own',p,r'⟩:=uRu r h1 hs hmm (uS9 hent);exact q own' h' _ () p r' trivial
     ·exact Ref.fail ((uCy e1).trans (if_neg hk))
    | _=>exact Ref.fail (uCy e1)
   | _=>exact Ref.fail (uCy e1)
 | _=>exact Ref.fail rfl
end items
end
section
theorem uPv:typeOf (.builtin "list.append")=pure (.type "method_descriptor"):=by show builtinType _=_;rw [builtinType_eq_fast];kernel_rfl
theorem uN4:typeLookup (.type "list") (Str.ofString "append")=pure (some (.builtin "list.append")):=by rw [typeLookup_type,builtinLookup_eq_fast];kernel_rfl
theorem uKp:typeLookup (.type "method_descriptor") (Str.ofString "__get__")=pure (some (.builtin "method_descriptor.__get__")):=by rw [typeLookup_type,builtinLookup_eq_fast];kernel_rfl
theorem uLe:typeLookup (.type "method_descriptor") (Str.ofString "__set__")=pure none:=by rw [typeLookup_type,builtinLookup_eq_fast];kernel_rfl
theorem uK2:typeLookup (.type "method_descriptor") (Str.ofString "__delete__")=pure none:=by rw [typeLookup_type,builtinLookup_eq_fast];kernel_rfl
theorem uDu:Slot "method_descriptor" "__get__" "method_descriptor.__get__":=
 .of (owner:="method_descriptor") (n:="__get__") (by rw [typeLookup_type,builtinLookup_eq_fast];kernel_rfl) (by decide +kernel) (by decide +kernel) (by decide +kernel)
  (by first | exact .inl (by decide +kernel) | exact .inr (by decide +kernel)) (by rw [isSubtype_type];kernel_rfl)
theorem uGe:entryFor table "method_descriptor.__get__" = some Builtin.«method_descriptor.__get__»:=entryFor_of_tree (by kernel_rfl)
theorem uHb(a b c:Value):argsOk "method_descriptor.__get__" ⟨[a,b,c],[]⟩:=by unfold argsOk;kernel_rfl
section
variable {prog:Program}{w:World}{A:Around}{E:Value→Shared→Prop}{a:Addr}
theorem uTj {hp:Heap} {g:Array GenState} {d:Drawn} {tk:Nat} {os:OsState} {xs:Array Value} {k:Nat} {Q:Fin→Shared→Prop} {u:Tok} (hx:hp.get? a=some { cls:=.type "list",data:=.seq xs k })
  (h:Q (.done (.ret (.ref hp.objs.size))) ⟨hp.push { cls:=.type "builtin_function_or_method",data:=.fields #[.builtin "list.append",.ref a] },g,d,tk,os⟩) :
  wpAny (model prog w) A (Builtin.«object.__getattribute__» ⟨[.ref a,.str (Str.ofString "append") u],[]⟩) Q E ⟨hp,g,d,tk,os⟩:=by
 have hT:(⟨hp,g,d,tk,os⟩:Shared).TypeIs (.ref a) "list":=⟨_,hx,rfl⟩
 have hT5:(⟨hp,g,d,tk,os⟩:Shared).TypeIs (.builtin "list.append") "method_descriptor":=uPv;have f1:=uN4;have f2:=uKp;have f3:=uLe;have f4:=uK2;unfold Builtin.«object.__getattribute__»
 repeat (any_goals (first | assumption | wp_step))
 refine codeAny_call_builtin uDu.plain uGe (uDu.check _ _ _ _ _ _ _ _ hT5 (uHb _ _ _) ?_);unfold Builtin.«method_descriptor.__get__»;refine wpAny_bind (wpAny_of_eq (a:=(.builtin "list.append",some (.ref a),some (.type "list"))) (by first | rfl | kernel_rfl) ?_);dsimp only;refine KFB.if_not (by decide +kernel) ?_;refine wpAny_bind (wpAny_bind ?_);refine wpAny_of_eq (a:=(Str.ofString "append",.type "list")) (by first | kernel_rfl | rfl) ?_;dsimp only;refine wpAny_bind (wpAny_isInstance hT (show isSubtype (.type "list") (.type "list")=pure true by rw [isSubtype_type];kernel_rfl) ?_);refine KFB.if_not rfl (wpAny_pure ?_);exact wpAny_bind (wpAny_newObj_type (wpAny_pure (wpAny_pure h)))
theorem uJy {s:Shared} {xs:Array Value} {k:Nat} {Q:Value→Shared→Prop} {expr:Bool} (hx:s.heap.get? a=some { cls:=.type "list",data:=.seq xs k })
  (h:Q (.ref s.heap.objs.size) { s with heap:=s.heap.push { cls:=.type "builtin_function_or_method",data:=.fields #[.builtin "list.append",.ref a] },toks:=s.toks+1 }) :
  wpAny (model prog w) A (PySem.getAttr (.ref a) (Str.ofString "append") expr) Q E s:=by
 obtain ⟨hp,g,d,tk,os⟩:=s;have hT:∀ tk',(⟨hp,g,d,tk',os⟩:Shared).TypeIs (.ref a) "list":=fun _=>⟨_,hx,rfl⟩
 have f3:=PySem.F.slot_list_getattribute.lookup;have f4:=PySem.F.slot_list_getattribute.bind (.ref a);have hx0:(expr&&onTheHeap (Value.builtin "list.__getattribute__"))=false:=by cases expr<;>rfl
 unfold PySem.getAttr getAttrBy
 repeat (any_goals (first | assumption | exact hT _ | ((with_reducible show wpAny _ _ (call (Value.builtin "list.__getattribute__") _ _) _ _ _);refine wpAny_call_entry PySem.F.slot_list_getattribute (hT _) am_entry_list_getattribute (uTj hx ⟨_,rfl,?_⟩) (PySem.F.args_list_getattribute_2 _ _)) | wp_step))
end
end
section
theorem uPf:typeOf (.builtin "list_iterator.__next__")=pure (.type "wrapper_descriptor"):=by show builtinType _=_;rw [builtinType_eq_fast];kernel_rfl
theorem uO9:typeLookup (.type "list_iterator") (Str.ofString "__next__")=pure (some (.builtin "list_iterator.__next__")):=by rw [typeLookup_type,builtinLookup_eq_fast];kernel_rfl
theorem uQ2:typeLookup (.type "wrapper_descriptor") (Str.ofString "__get__")=pure (some (.builtin "wrapper_descriptor.__get__")):=by rw [typeLookup_type,builtinLookup_eq_fast];kernel_rfl
theorem uPw:typeLookup (.type "wrapper_descriptor") (Str.ofString "__set__")=pure none:=by rw [typeLookup_type,builtinLookup_eq_fast];kernel_rfl
theorem uPn:typeLookup (.type "wrapper_descriptor") (Str.ofString "__delete__")=pure none:=by rw [typeLookup_type,builtinLookup_eq_fast];kernel_rfl
theorem uHc:Slot "wrapper_descriptor" "__get__" "wrapper_descriptor.__get__":=
 .of (owner:="wrapper_descriptor") (n:="__get__") (by rw [typeLookup_type,builtinLookup_eq_fast];kernel_rfl) (by decide +kernel) (by decide +kernel) (by decide +kernel)
  (by first | exact .inl (by decide +kernel) | exact .inr (by decide +kernel)) (by rw [isSubtype_type];kernel_rfl)
theorem uKe:entryFor table "wrapper_descriptor.__get__" = some Builtin.«wrapper_descriptor.__get__»:=entryFor_of_tree (by kernel_rfl)
theorem uL3(a b c:Value):argsOk "wrapper_descriptor.__get__" ⟨[a,b,c],[]⟩:=by unfold argsOk;kernel_rfl
theorem uEx:Slot "list_iterator" "__getattribute__" "object.__getattribute__":=
 .of (owner:="object") (n:="__getattribute__") (by rw [typeLookup_type,builtinLookup_eq_fast];kernel_rfl) (by decide +kernel) (by decide +kernel) (by decide +kernel)
  (by first | exact .inl (by decide +kernel) | exact .inr (by decide +kernel)) (by rw [isSubtype_type];kernel_rfl)
theorem uJ0:entryFor table "object.__getattribute__" = some Builtin.«object.__getattribute__»:=entryFor_of_tree (by kernel_rfl)
theorem uLv(a b:Value):argsOk "object.__getattribute__" ⟨[a,b],[]⟩:=by unfold argsOk;kernel_rfl
section
variable {prog:Program}{w:World}{A:Around}{E:Value→Shared→Prop}{a:Addr}
theorem uRa {hp:Heap} {g:Array GenState} {d:Drawn} {tk:Nat} {os:OsState} {xs:Array Value} {Q:Fin→Shared→Prop} {u:Tok} (hx:hp.get? a=some { cls:=.type "list_iterator",data:=.fields xs })
  (h:Q (.done (.ret (.ref hp.objs.size))) ⟨hp.push { cls:=.type "method-wrapper",data:=.fields #[.builtin "list_iterator.__next__",.ref a] },g,d,tk,os⟩) :
  wpAny (model prog w) A (Builtin.«object.__getattribute__» ⟨[.ref a,.str (Str.ofString "__next__") u],[]⟩) Q E ⟨hp,g,d,tk,os⟩:=by
 have hT:(⟨hp,g,d,tk,os⟩:Shared).TypeIs (.ref a) "list_iterator":=⟨_,hx,rfl⟩
 have hT5:(⟨hp,g,d,tk,os⟩:Shared).TypeIs (.builtin "list_iterator.__next__") "wrapper_descriptor":=uPf;have f1:=uO9;have f2:=uQ2;have f3:=uPw;have f4:=uPn;unfold Builtin.«object.__getattribute__»
 repeat (any_goals (first | assumption | wp_step))
 refine codeAny_call_builtin uHc.plain uKe (uHc.check _ _ _ _ _ _ _ _ hT5 (uL3 _ _ _) ?_);unfold Builtin.«wrapper_descriptor.__get__»;refine wpAny_bind (wpAny_of_eq (a:=(.builtin "list_iterator.__next__",some (.ref a),some (.type "list_iterator"))) (by first | rfl | kernel_rfl) ?_);dsimp only;refine wpAny_bind (wpAny_bind ?_);refine wpAny_of_eq (a:=(Str.ofString "__next__",.type "list_iterator")) (by first | kernel_rfl | rfl) ?_;dsimp only;refine wpAny_bind (wpAny_isInstance hT (show isSubtype (.type "list_iterator") (.type "list_iterator")=pure true by rw [isSubtype_type];kernel_rfl) ?_);refine KFB.if_not rfl (wpAny_pure ?_);exact wpAny_bind (wpAny_newObj_type (wpAny_pure (wpAny_pure h)))
theorem uKh {s:Shared} {xs:Array Value} {Q:Value→Shared→Prop} {expr:Bool} (hx:s.heap.get? a=some { cls:=.type "list_iterator",data:=.fields xs })
  (h:Q (.ref s.heap.objs.size) { s with heap:=s.heap.push { cls:=.type "method-wrapper",data:=.fields #[.builtin "list_iterator.__next__",.ref a] },toks:=s.toks+1 }) :
  wpAny (model prog w) A (PySem.getAttr (.ref a) (Str.ofString "__next__") expr) Q E s:=by
 obtain ⟨hp,g,d,tk,os⟩:=s;have hT:∀ tk',(⟨hp,g,d,tk',os⟩:Shared).TypeIs (.ref a) "list_iterator":=fun _=>⟨_,hx,rfl⟩
 have f3:=uEx.lookup;have f4:=uEx.bind (.ref a);have hx0:(expr&&onTheHeap (Value.builtin "object.__getattribute__"))=false:=by cases expr<;>rfl
 unfold PySem.getAttr getAttrBy
 repeat (any_goals (first | assumption | exact hT _ | ((with_reducible show wpAny _ _ (call (Value.builtin "object.__getattribute__") _ _) _ _ _);refine wpAny_call_entry uEx (hT _) uJ0 (uRa hx ⟨_,rfl,?_⟩) (uLv _ _)) | wp_step))
end
end
section
theorem uNh:typeOf (.builtin "list.__getitem__")=pure (.type "method_descriptor"):=by show builtinType _=_;rw [builtinType_eq_fast];kernel_rfl
theorem uG6:typeLookup (.type "list") (Str.ofString "__getitem__")=pure (some (.builtin "list.__getitem__")):=by rw [typeLookup_type,builtinLookup_eq_fast];kernel_rfl
section
variable {prog:Program}{w:World}{A:Around}{E:Value→Shared→Prop}{a:Addr}
theorem uZl:(kfb_private% "ownerAndName") "list.__getitem__" = ("list","__getitem__"):=by first | decide +kernel | kernel_rfl
theorem uM9 {hp:Heap} {g:Array GenState} {d:Drawn} {tk:Nat} {os:OsState} {xs:Array Value} {k:Nat} {Q:Fin→Shared→Prop} {u:Tok} (hx:hp.get? a=some { cls:=.type "list",data:=.seq xs k })
  (h:Q (.done (.ret (.ref hp.objs.size))) ⟨hp.push { cls:=.type "builtin_function_or_method",data:=.fields #[.builtin "list.__getitem__",.ref a] },g,d,tk,os⟩) :
  wpAny (model prog w) A (Builtin.«object.__getattribute__» ⟨[.ref a,.str (Str.ofString "__getitem__") u],[]⟩) Q E ⟨hp,g,d,tk,os⟩:=by
 have hT:(⟨hp,g,d,tk,os⟩:Shared).TypeIs (.ref a) "list":=⟨_,hx,rfl⟩
 have hT5:(⟨hp,g,d,tk,os⟩:Shared).TypeIs (.builtin "list.__getitem__") "method_descriptor":=uNh;have f1:=uG6;have f2:=uKp;have f3:=uLe;have f4:=uK2;unfold Builtin.«object.__getattribute__»
 repeat (any_goals (first | assumption | wp_step))
 refine codeAny_call_builtin uDu.plain uGe (uDu.check _ _ _ _ _ _ _ _ hT5 (uHb _ _ _) ?_);unfold Builtin.«method_descriptor.__get__»;refine wpAny_bind (wpAny_of_eq (a:=(.builtin "list.__getitem__",some (.ref a),some (.type "list"))) (by first | rfl | kernel_rfl) ?_);dsimp only;refine KFB.if_not (by decide +kernel) ?_;refine wpAny_bind (wpAny_bind ?_);refine wpAny_of_eq (a:=(Str.ofString "__getitem__",.type "list")) (by first | kernel_rfl | rfl) ?_;dsimp only;refine wpAny_bind (wpAny_isInstance hT (show isSubtype (.type "list") (.type "list")=pure true by rw [isSubtype_type];kernel_rfl) ?_);refine KFB.if_not rfl (wpAny_pure ?_);exact wpAny_bind (wpAny_newObj_type (wpAny_pure (wpAny_pure h)))
theorem uIr {s:Shared} {xs:Array Value} {k:Nat} {Q:Value→Shared→Prop} {u:Tok} (hx:s.heap.get? a=some { cls:=.type "list",data:=.seq xs k })
  (h:Q (.bool true) { s with heap:=s.heap.push { cls:=.type "builtin_function_or_method",data:=.fields #[.builtin "list.__getitem__",.ref a] } }) :
  wpAny (model prog w) A (PySem.call (.builtin "hasattr") [.ref a,.str (Str.ofString "__getitem__") u]) Q E s:=by
 refine call_function_entry (by decide +kernel) (by decide +kernel) (entryFor_of_tree (by kernel_rfl):entryFor table "hasattr" = some Builtin.«hasattr») (by unfold argsOk;kernel_rfl) ?_;obtain ⟨hp,g,d,tk,os⟩:=s;have hT:∀ tk',(⟨hp,g,d,tk',os⟩:Shared).TypeIs (.ref a) "list":=fun _=>⟨_,hx,rfl⟩
 have f1:=uG6;have f3:=PySem.F.slot_list_getattribute.lookup;have f4:=PySem.F.slot_list_getattribute.bind (.ref a);unfold Builtin.«hasattr»;refine wpAny_bind (wpAny_of_eq (a:=[Value.ref a,.str (Str.ofString "__getitem__") u]) (by first | rfl | kernel_rfl) ?_);dsimp only;refine wpAny_bind (wpAny_of_eq (a:=()) (by first | rfl | kernel_rfl) ?_);refine KFB.if_not (by rfl) ?_;refine wpAny_bind (wpAny_typeOf (hT _) ?_);dsimp only;refine wpAny_bind (wpAny_of_eq (a:=some (Str.ofString "__getitem__")) (by first | rfl | kernel_rfl) ?_);dsimp only;refine wpAny_bind (wpAny_of_eq f1 ?_);dsimp only;refine wpAny_bind (wpAny_of_eq f3 ?_);refine KFB.if_not (by rw [show (withoutEnding? "list.__getitem__" "#data").isSome=false by decide +kernel];rfl) ?_;have hsub:isSubtype (.type "list") (.type "module")=pure false:=by rw [isSubtype_type];kernel_rfl
 refine wpAny_bind ?_;refine wpAny_bind (wpAny_of_eq (a:=some (Str.ofString "__getitem__")) (by first | rfl | kernel_rfl) ?_);dsimp only;refine wpAny_bind (wpAny_isInstance (hT _) hsub ?_);refine KFB.if_so rfl (wpAny_pure ?_);refine KFB.if_not rfl ?_;have hx0:(false&&onTheHeap (Value.builtin "list.__getattribute__"))=false:=rfl;have f5:=am_list_getattr_none;unfold getAttrBy? getAttrBy
 repeat (any_goals (first | assumption | exact hT _ | ((with_reducible show wpAny _ _ (call (Value.builtin "list.__getattribute__") _ _) _ _ _);refine wpAny_call_entry PySem.F.slot_list_getattribute (hT _) am_entry_list_getattribute (uM9 hx ⟨_,rfl,?_⟩) (PySem.F.args_list_getattribute_2 _ _)) | wp_step))
 exact ⟨_,rfl,h⟩
end
end
section
inductive SlotK(K:Frag)(D:Addr)(x:Str)(i:Nat):Prop
 | mk:plainGet K D (Str.ofString "")=true→isClsIn K D=true→findIn K (.ref D) (Str.ofString "__setattr__")=some (some (.builtin "object.__setattr__"))→plainOver K D=true→i<1000→
  ∀ p:Addr,findIn K (.ref D) x=some (some (.ref p))→specialIn K (.ref p) (Str.ofString "__get__")=some (some (.builtin "member_descriptor.__get__"))→takesIn K (.ref p)=some true→slotIn K p D=some i→takerIn K D x=some (some (.ref p))→typeIn K (.ref p)=some (.type "member_descriptor")→SlotK K D x i
structure PKat(C:Cx):Prop where
 attr:∀ D l,C.P.attr.lookup D=some l→plainGet C.K D (Str.ofString "")=true∧hasDictIn C.K D=true∧findIn C.K (.ref D) (Str.ofString "__setattr__")=some (some (.builtin "object.__setattr__"))∧plainOver C.K D=true∧
  ∀ x,l.contains x=true→findIn C.K (.ref D) x=some none∧takerIn C.K D x=some none
 meth:∀ D l x f,C.P.meth.lookup D=some l→l.lookup x=some f→plainGet C.K D (Str.ofString "")=true∧findIn C.K (.ref D) x=some (some (.ref f))∧isFn C.K (.ref f)=true
 slot:∀ D l x i,C.P.slot.lookup D=some l→l.lookup x=some i→SlotK C.K D x i
section attrs
variable {C:Cx}{G:Gm}{B:Bk}{A:Around}{own:Own}{σ:St}{s:Shared}
noncomputable abbrev dRel(τ:uBt)(φ:List Addr)(e:Str×AV)(p:DictEntry):Prop:=(∃ t,p.key=.str e.1 t)∧VR τ φ e.2 p.val
theorem uSr{x y:Str}{t:Tok}{e:DictEntry}(h:e.key=.str x t):e.key.isStr y=(x==y):=by
 rw [h];rfl
theorem uVm{τ:uBt}{φ:List Addr}{x:Str}:∀ {es:List (Str×AV)} {ds:List DictEntry},FA (dRel τ φ) es ds→ds.any (·.refKey)=false∧OVR τ φ (es.lookup x) ((ds.find? (·.key.isStr x)).map (·.val)):=by
 intro es ds h;induction h with
 | nil=>exact ⟨rfl,.none⟩
 | @cons e p es ds r hr ih=>
  obtain ⟨i1,i2⟩:=ih;obtain ⟨⟨t,h1⟩,h2⟩:=r;obtain ⟨ek,ev⟩:=e;refine ⟨?_,?_⟩
  ·rw [List.any_cons,i1,Bool.or_false];unfold DictEntry.refKey;rw [h1]
  ·rw [List.lookup_cons,List.find?_cons,uSr h1];by_cases q:x=ek
   ·subst q;rw [beq_self_eq_true];exact .some h2
   ·rw [beq_false_of_ne q,beq_false_of_ne (Ne.symm q)];exact i2
theorem uHs{τ:uBt}{φ:List Addr}{x:Str}{es:List (Str×AV)}{ds:List DictEntry}(h:FA (dRel τ φ) es ds) : ∃ o,getL x ds=some o∧OVR τ φ (es.lookup x) o:=by
 obtain ⟨i1,i2⟩:=uVm (x:=x) h;unfold getL;generalize q:ds.find? (·.key.isStr x)=zz;induction zz using Option.casesOn with
 | none=>rw [q] at i2;exact ⟨none,by rw [i1];rfl,i2⟩
 | some e=>rw [q] at i2;exact ⟨some e.val,rfl,i2⟩
theorem uTx{τ:uBt}{φ:List Addr}{x:Str}{v:AV}{rv:Value}{hs:Int}{t:Tok}(hv:VR τ φ v rv):∀ {es:List (Str×AV)} {ds:List DictEntry},FA (dRel τ φ) es ds→FA (dRel τ φ) (uD0 x v es) (putL x hs (.str x t) rv ds):=by
 intro es ds h;induction h with
 | nil=>exact .cons ⟨⟨t,rfl⟩,hv⟩ .nil
 | @cons e p es ds r hr ih=>
  obtain ⟨⟨u,h1⟩,h2⟩:=r;obtain ⟨ek,ev⟩:=e;unfold putL;rw [uC4];rw [uSr h1];by_cases q:x=ek
  ·subst q;rw [beq_self_eq_true,if_pos rfl,if_pos rfl];exact .cons ⟨⟨u,h1⟩,hv⟩ hr
  ·rw [beq_false_of_ne q,beq_false_of_ne (Ne.symm q),if_neg (by decide),if_neg (by decide)];exact .cons ⟨⟨u,h1⟩,h2⟩ ih
theorem uRd{x:Str}{v:AV}:∀ (es:List (Str×AV)),(uD0 x v es).length≤es.length+1:=by
 intro zz;induction zz with
 | nil=>
  exact Nat.le_refl _
 | cons zq es ih=>
  obtain ⟨y,u⟩:=zq;rw [uC4];by_cases q:(x==y)=true
  ·rw [if_pos q];exact Nat.le_succ _
  ·rw [if_neg q];exact Nat.succ_le_succ ih
theorem uK1{a:Addr}{ob ob':Obj}{own:Own}{i:Nat}{X:Own}(h:own[i]?=some (a,ob))(hn:(adr own).Nodup)(hx:∀ p∈own,∀ q∈X,p.1≠q.1):Upd a ob ob' (own++X) (own.set i (a,ob')++X):=by
 induction own generalizing i with
 | nil=>cases h
 | cons p own ih=>
 induction i using Nat.casesOn with
 | zero=>
  cases h;refine .head fun q hq=>?_;rw [adr,List.map_cons,List.nodup_cons] at hn;rcases List.mem_append.mp hq with hq|hq
  ·have hm:q.1∈List.map Prod.fst own:=List.mem_map_of_mem hq;exact fun e=>hn.1 (by rw [← e];exact hm)
  ·exact fun e=>hx _ (.head _) q hq e.symm
 | succ i=>
  rw [adr,List.map_cons,List.nodup_cons] at hn;refine .tail ?_ (ih (by simpa using h) hn.2 fun p hp=>hx p (.tail _ hp));intro e;have hm:(a,ob)∈own:=List.mem_of_getElem? (i:=i) (by simpa using h);have hm':a∈List.map Prod.fst own:=List.mem_map_of_mem hm;exact hn.1 (by rw [e];exact hm')
theorem Rel.ofUpd{prog:Program}{w:World}{τ:uBt}{h₀ h h':Heap}{Lc:Addr}{X own:Own}{σ:St}(r:Rel prog w τ h₀ Lc X own σ h){i:Nat}{a:Addr}{ob ob':Obj}{o':AO}{m:Str→Option Value}(e:own[i]?=some (a,ob))
  (F:Fr h₀ Lc h' m) (N:News h₀ Lc h' (own.set i (a,ob')++X)) (hm:∀ x v,σ.L.lookup x=some v→∃ rv,m x=some rv∧VR τ (adr own) v rv) (hr:uG1 prog w τ (adr own) o' ob') :
  Rel prog w τ h₀ Lc X (own.set i (a,ob')) ⟨σ.L,σ.H.set i o'⟩ h':=by
 have e':=uBm own (ob':=ob') e;have addr:∀ p∈own.set i (a,ob'),∃ q∈own,q.1=p.1:=fun p hp=>by
  have:p.1∈adr (own.set i (a,ob')):=List.mem_map_of_mem hp;rw [e'] at this;obtain ⟨q,h1,h2⟩:=List.mem_map.mp this;exact ⟨q,h1,h2⟩
 refine ⟨⟨m,F.ns,by rw [e'];exact hm⟩,F.keep,r.above,fun p hp=>N p (List.mem_append_left _ hp),fun p hp=>N p (List.mem_append_right _ hp),by rw [e'];exact r.nd,fun p hp q hq=>?_,?_,r.big,fun p hp=>?_⟩
 ·obtain ⟨p',h1,h2⟩:=addr p hp;rw [← h2];exact r.off p' h1 q hq
 ·rw [e'];exact uJ4 r.objs i hr
 ·obtain ⟨p',h1,h2⟩:=addr p hp;rw [← h2];exact r.low p' h1
theorem uHk{τ:uBt}{φ:List Addr}{v:AV}{rv:Value}(h:VR τ φ v rv)(o:okV v=true):handedIn rv=true:=by
 cases h<;>first | rfl | cases o
inductive InstR(τ:uBt)(own:Own)(h:Heap)(d:Nat)(a D:Addr)(es:List (Str×AV)):Prop
 | mk (dx:Addr) (ds:List DictEntry) (n:Nat):(adr own)[d]?=some dx→own[d]?=some (dx,dictOf ds n)→FA (dRel τ (adr own)) es ds→PySem.W.InstAt h a ⟨.ref D,some dx,.plain,#[]⟩ D (some (dictOf ds n))→InstR τ own h d a D es
theorem uH4(r:uA5 C G B own σ s.heap){i d:Nat}{a D:Addr}{es:List (Str×AV)}(e1:σ.H[i]?=some (.inst D d))(e2:σ.H[d]?=some (.idict es))(ha:(adr own)[i]?=some a) :
  InstR C.τ own s.heap d a D es:=by
 refine Classical.byContradiction fun hn=>?_;obtain ⟨b,ob,h1,h2,h3,dx,x1,x2⟩:=r.at e1;refine hn ?_;clear hn;obtain ⟨b',ob',h1',h2',h3',ds,n,y1,y2⟩:=r.at e2;rw [ha] at h2;cases h2;rw [x1] at h2';cases h2';subst x2 y1;exact ⟨dx,ds,n,x1,h1',y2,⟨h3,rfl,rfl,h3'⟩⟩
inductive SlotR(τ:uBt)(own:Own)(h:Heap)(i d:Nat)(a D:Addr)(vs:List (Option AV)):Prop
 | mk (dx:Addr) (sl:Array (Option Value)) (o:Obj):(adr own)[d]?=some dx→own[i]?=some (a,⟨.ref D,some dx,.plain,sl⟩)→(∀ (j:Nat) (v:AV),vs[j]?=some (some v)→∃ rv,(sl[j]?).join=some rv∧VR τ (adr own) v rv)→PySem.W.InstAt h a ⟨.ref D,some dx,.plain,sl⟩ D (some o)→SlotR τ own h i d a D vs
theorem uK6(r:uA5 C G B own σ s.heap){i d:Nat}{a D:Addr}{vs:List (Option AV)}{es:List (Str×AV)}(e1:σ.H[i]?=some (.slots D d vs))(e2:σ.H[d]?=some (.idict es))(ha:(adr own)[i]?=some a) :
  SlotR C.τ own s.heap i d a D vs:=by
 obtain ⟨b,ob,h1,h2,h3,dx,sl,x0,x1,x2⟩:=r.at e1;obtain ⟨b',ob',h1',h2',h3',ds,n,y1,y2⟩:=r.at e2;rw [ha] at h2;cases h2;rw [x0] at h2';cases h2';subst x1;exact ⟨dx,sl,ob',x0,h1,x2,⟨h3,rfl,rfl,h3'⟩⟩
theorem uRm{sl:Array (Option Value)}{i j:Nat}{v:Value}:(((sl++Array.replicate (i+1-sl.size) none).setIfInBounds i (some v))[j]?).join=if j=i then some v else (sl[j]?).join:=by
 rw [Array.getElem?_setIfInBounds];by_cases h:i=j
 ·subst h;rw [if_pos rfl,if_pos rfl,if_pos (by rw [Array.size_append,Array.size_replicate];exact slp)];rfl
 ·rw [if_neg h,if_neg (Ne.symm h),Array.getElem?_append]
  split
  ·rfl
  ·rename_i q;have:sl[j]?=none:=Array.getElem?_eq_none (by lia);rw [this,Array.getElem?_replicate]
   split<;>rfl
end attrs
end
section
section attrs
variable {C:Cx}{G:Gm}{B:Bk}{A:Around}{own:Own}{σ:St}{s:Shared}
theorem uOm{prog:Program}{w:World}{E:Value→Shared→Prop}{base:Expr}{o r:Value}{Q:Value→Shared→Prop}(h:Q r s):wpAny (model prog w) A (do letTemporaryGo base o r;pure r) Q E s:=
 wpAny_bind (wpAny_letTemporaryGo (wpAny_pure h))
set_option tactic.hygienic true in
theorem uGw(PA:PKat C)(GK:GmOk C G)(r:uA5 C G B own σ s.heap){x:Str}{y:AV}{u:Value}(hy:VR C.τ (adr own) y u) :
  Ref C G B A own σ s (Mine.Internal.getAttr C.P y x) (PySem.getAttr u x true) (VR C.τ):=by
 induction hy using VR.casesOn with
 | @ref i a ha=>
  generalize e1:σ.H[i]?=zz;induction zz using Option.casesOn with
  | none=>exact Ref.fail (uAr e1)
  | some o=>
   induction o using AO.casesOn with
   | inst D d=>
    generalize e2:C.P.attr.lookup D=zz;induction zz using Option.casesOn with
    | none=>exact Ref.fail ((uAr e1).trans (obn e2))
    | some l=>
     by_cases hl:l.contains x=true
     ·rcases e3':σ.H[d]?.bind pI with _|es
      ·exact Ref.fail ((uAr e1).trans (ob e2 ((if_pos hl).trans (obn e3'))))
      rcases e4:es.lookup x with _|v
      ·exact Ref.fail ((uAr e1).trans (ob e2 ((if_pos hl).trans (ob e3' (obn e4)))))
      by_cases e5:okV v=true
      ·have e3:=uL4 e3';obtain ⟨dx,ds,n,i1,i2,i3,I⟩:=uH4 r e1 e3 ha;obtain ⟨k1,k2,k3,k4,k5⟩:=PA.attr D l e2;obtain ⟨k6,k7⟩:=k5 x hl;obtain ⟨o,o1,o2⟩:=uHs (x:=x) i3;rw [e4] at o2;cases o2 with
       | some o2=>
        rename_i rv;refine Ref.still (a:=v) r ((uAr e1).trans (ob e2 ((if_pos hl).trans (ob e3' (ob e4 (if_pos e5)))))) (fun _=>rv) (fun _=>o2) fun Q E q=>?_;obtain ⟨mc,F,hF⟩:=r.fr;have k1':plainGet C.K D x=true:=k1;have k0:noGet C.K none=true:=rfl
        with_reducible exact get_own F GK.K I k1' k2 k6 k0 o1 (uHk o2 e5) (q s.toks _)
      ·exact Ref.fail ((uAr e1).trans (ob e2 ((if_pos hl).trans (ob e3' (ob e4 (if_neg e5))))))
     ·exact Ref.fail ((uAr e1).trans (ob e2 (if_neg hl)))
   | slots D d vs=>
    rcases e0':σ.H[d]?.bind pI with _|es
    ·exact Ref.fail ((uAr e1).trans (obn e0'))
    rcases e3':(C.P.slot.lookup D).bind (·.lookup x) with _|j
    ·exact Ref.fail ((uAr e1).trans (ob e0' (obn e3')))
    rcases e4':vs[j]?.bind id with _|v
    ·exact Ref.fail ((uAr e1).trans (ob e0' (ob e3' (obn e4'))))
    by_cases e5:okV v=true
    ·have e0:=uL4 e0';have e4:=uU7 e4';obtain ⟨l,e2,e3⟩:=Option.bind_eq_some_iff.mp e3';obtain ⟨k1,k2,k3,k4,k5,p,k6,k7,k8,k9,k10,k11⟩:=PA.slot D l x j e2 e3;obtain ⟨dx,sl,o,s0,s1,s2,I⟩:=uK6 r e1 e0 ha;obtain ⟨rv,s3,s4⟩:=s2 j v e4;refine Ref.still (a:=v) r ((uAr e1).trans (ob e0' (ob e3' (ob e4' (if_pos e5))))) (fun _=>rv) (fun _=>s4) fun Q E q=>?_;obtain ⟨mc,F,hF⟩:=r.fr;have k1':plainGet C.K D x=true:=k1
     with_reducible exact PySem.W.get_slot F GK.K I k1' k2 k6 k7 k8 k9 s3 (uHk s4 e5) (q s.toks _)
    ·exact Ref.fail ((uAr e1).trans (ob e0' (ob e3' (ob e4' (if_neg e5)))))
   | list xs=>
    by_cases hx:x=Str.ofString "append"
    ·subst hx;obtain ⟨vs,n,l1,v1,z1,_⟩:=uAv r e1 ha;refine Ref.of (a:=.ref σ.H.length) (σ':=⟨σ.L,σ.H++[.meth "list.append" i]⟩) (uAr e1) fun Q E q=>?_
     with_reducible refine uJy l1 ?_
     exact q _ _ _ _ (uAj own _) (r.push ⟨a,uA6 (uAj own _) ha,.inl rfl,rfl⟩) (uBx r _ _)
    ·exact Ref.fail ((uAr e1).trans (if_neg (by simpa using hx)))
   | liter l p=>
    by_cases hx:x=Str.ofString "__next__"
    ·subst hx;induction p using Option.casesOn with
     | some p=>
      obtain ⟨b,ob',h1,h2,h3,c,x1,x2⟩:=r.at e1;rw [ha] at h2;cases h2;subst x2;refine Ref.of (a:=.ref σ.H.length) (σ':=⟨σ.L,σ.H++[.meth "list_iterator.__next__" i]⟩) (uAr e1) fun Q E q=>?_
      with_reducible refine uKh h3 ?_
      exact q _ _ _ _ (uAj own _) (r.push ⟨a,uA6 (uAj own _) ha,.inr rfl,rfl⟩) (uBx r _ _)
     | none=>exact Ref.fail (uAr e1)
    ·induction p using Option.casesOn with
     | none=>exact Ref.fail (uAr e1)
     | some p=>exact Ref.fail ((uAr e1).trans (if_neg (by simpa using hx)))
   | _=>exact Ref.fail (uAr e1)
 | _=>exact Ref.fail rfl
theorem uGg(PA:PKat C)(GK:GmOk C G)(r:uA5 C G B own σ s.heap){x:Str}{y z:AV}{u v:Value}(hy:VR C.τ (adr own) y u)(hz:VR C.τ (adr own) z v) :
  Ref C G B A own σ s (Mine.Internal.setAttr C.P y x z) (PySem.setAttr u x v) (fun _ _ _=>True):=by
 induction hy using VR.casesOn with
 | @ref i a ha=>
  generalize e1:σ.H[i]?=zz;induction zz using Option.casesOn with
  | none=>exact Ref.fail (uBd e1)
  | some o=>
   induction o using AO.casesOn with
   | inst D d=>
    generalize e2:C.P.attr.lookup D=zz;induction zz using Option.casesOn with
    | none=>exact Ref.fail ((uBd e1).trans (obn e2))
    | some l=>
     by_cases hl:l.contains x=true
     ·rcases e3':σ.H[d]?.bind pI with _|es
      ·exact Ref.fail ((uBd e1).trans (ob e2 ((if_pos hl).trans (obn e3'))))
      by_cases e4:es.length<900
      ·have e3:=uL4 e3';obtain ⟨dx,ds,n,i1,i2,i3,I⟩:=uH4 r e1 e3 ha;refine Classical.byContradiction fun hn=>?_;obtain ⟨k1,k2,k3,k4,k5⟩:=PA.attr D l e2;refine hn ?_;clear hn;obtain ⟨k6,k7⟩:=k5 x hl;obtain ⟨o,o1,o2⟩:=uHs (x:=x) i3;refine Ref.of (a:=()) (σ':=⟨σ.L,σ.H.set d (.idict (uD0 x z es))⟩) ((uBd e1).trans (ob e2 ((if_pos hl).trans (ob e3' (if_pos e4))))) fun Q E q=>?_;obtain ⟨mc,F,hF⟩:=r.fr;have i4:=uTx (x:=x) (hs:=PyData.keyHash C.w.params x) (t:=s.toks+1) hz i3;have hlen:=uAn i4;have hl2:=uRd (x:=x) (v:=z) es;have o1':(getL x ds).isSome=true:=by rw [o1];rfl
       have hl3:(putL x (PyData.keyHash C.w.params x) (Value.str x (s.toks+1)) v ds).length≤1000:=by lia
       with_reducible refine PySem.W.set_dict F GK.K r.news I rfl k3 k4 k7 k2 o1' rfl (uK1 i2 r.nd r.off) hl3 fun h' F' N'=>?_
       exact q _ h' _ () (by rw [uBm own i2];exact List.prefix_refl _) (r.ofUpd i2 F' N' hF ⟨_,_,rfl,i4⟩) trivial
      ·exact Ref.fail ((uBd e1).trans (ob e2 ((if_pos hl).trans (ob e3' (if_neg e4)))))
     ·exact Ref.fail ((uBd e1).trans (ob e2 (if_neg hl)))
   | slots D d vs=>
    rcases e0':σ.H[d]?.bind pI with _|es
    ·exact Ref.fail ((uBd e1).trans (obn e0'))
    rcases e3':(C.P.slot.lookup D).bind (·.lookup x) with _|j
    ·exact Ref.fail ((uBd e1).trans (ob e0' (obn e3')))
    by_cases e4:j<vs.length
    ·have e0:=uL4 e0';obtain ⟨l,e2,e3⟩:=Option.bind_eq_some_iff.mp e3';obtain ⟨k1,k2,k3,k4,k5,p,k6,k7,k8,k9,k10,k11⟩:=PA.slot D l x j e2 e3;obtain ⟨dx,sl,o,s0,s1,s2,I⟩:=uK6 r e1 e0 ha;refine Ref.of (a:=()) (σ':=⟨σ.L,σ.H.set i (.slots D d (vs.set j (some z)))⟩) ((uBd e1).trans (ob e0' (ob e3' (if_pos e4)))) fun Q E q=>?_;obtain ⟨mc,F,hF⟩:=r.fr
     with_reducible refine PySem.W.set_slot F GK.K r.news I k3 k4 k10 k11 k9 k5 rfl rfl (uK1 s1 r.nd r.off) fun h' F' N'=>?_
     refine q _ h' _ () (by rw [uBm own s1];exact List.prefix_refl _) (r.ofUpd s1 F' N' hF ⟨dx,_,s0,rfl,fun k v' hk=>?_⟩) trivial;rewrite [uRm];rw [List.getElem?_set] at hk;by_cases q:j=k
     ·subst q;rw [if_pos rfl,if_pos e4] at hk;cases hk;exact ⟨v,if_pos rfl,hz⟩
     ·rw [if_neg q] at hk;rw [if_neg (Ne.symm q)];exact s2 k v' hk
    ·exact Ref.fail ((uBd e1).trans (ob e0' (ob e3' (if_neg e4))))
   | _=>exact Ref.fail (uBd e1)
 | _=>exact Ref.fail rfl
noncomputable abbrev MR(τ:uBt)(φ:List Addr)(m:AV×List AV)(rm:Value×List Value):Prop:=VR τ φ m.1 rm.1∧VRs τ φ m.2 rm.2
theorem uCk(r:uA5 C G B own σ s.heap){x:Str}{y:AV}{u:Value}{pl:Sem Bool}(hy:VR C.τ (adr own) y u)(id:String)(h:Mine.Internal.getMethod C.P y x σ=some (.ok (.st (.builtin id),[y]),σ))(q:∀ Q E,Q (.builtin id,[u]) s→wpAny (model C.prog C.w) A (PySem.getMethod u x pl) Q E s):Ref C G B A own σ s (Mine.Internal.getMethod C.P y x) (PySem.getMethod u x pl) (MR C.τ):=
 Ref.still r h (fun _=>(.builtin id,[u])) (fun _=>⟨.st _,.cons hy .nil⟩) fun Q E k=>q Q E (k s.toks s.toks)
theorem uGh {a:Addr} {vs:List Value} {n:Nat} (l:s.heap.get? a=some { cls:=.type "list",data:=.seq (List.toArray vs) n }):∀ b,Value.ref a=.ref b→∃ o,s.heap.get? b=some o∧o.dict=none:=fun b e=>by cases e;exact ⟨_,l,rfl⟩
theorem uHz(PA:PKat C)(GK:GmOk C G)(r:uA5 C G B own σ s.heap){x:Str}{y:AV}{u:Value}{pl:Sem Bool}(hy:VR C.τ (adr own) y u) :
  Ref C G B A own σ s (Mine.Internal.getMethod C.P y x) (PySem.getMethod u x pl) (MR C.τ):=by
 have hy':=hy;induction hy using VR.casesOn with
 | str l g t hs hg=>
  have hns:∀ b,Value.str (mkS l) t=.ref b→∃ o,s.heap.get? b=some o∧o.dict=none:=fun _ e=>nomatch e
  by_cases h1:x=Str.ofString "join"
  ·subst h1;exact uCk r hy' "str.join" rfl fun Q E q=>by with_reducible exact getMethod_builtin (typeIs_str _ _ t) PySem.F.plainAttrs_str PySem.F.slot_str_join PySem.F.type_str_join hns q
  ·by_cases h2:x=Str.ofString "isalnum"
   ·subst h2;exact uCk r hy' "str.isalnum" rfl fun Q E q=>by with_reducible exact getMethod_builtin (typeIs_str _ _ t) PySem.F.plainAttrs_str PySem.F.slot_str_isalnum PySem.F.type_str_isalnum hns q
   ·by_cases h3:x=Str.ofString "translate"
    ·subst h3;exact uCk r hy' "str.translate" rfl fun Q E q=>by with_reducible exact getMethod_builtin (typeIs_str _ _ t) PySem.F.plainAttrs_str PySem.F.slot_str_translate PySem.F.type_str_translate hns q
    ·exact Ref.fail ((if_neg (by simpa using h1)).trans ((if_neg (by simpa using h2)).trans (if_neg (by simpa using h3))))
 | @ref i a ha=>
  generalize e1:σ.H[i]?=zz;induction zz using Option.casesOn with
  | none=>exact Ref.fail (uAq e1)
  | some o=>
   induction o using AO.casesOn with
   | inst D d=>
    rcases e3':(C.P.meth.lookup D).bind (·.lookup x) with _|f
    ·exact Ref.fail ((uAq e1).trans (obn e3'))
    rcases e4':σ.H[d]?.bind pI with _|es
    ·exact Ref.fail ((uAq e1).trans (ob e3' (obn e4')))
    by_cases e5:(es.lookup x).isNone=true
    ·have e4:=uL4 e4';obtain ⟨l,e2,e3⟩:=Option.bind_eq_some_iff.mp e3';obtain ⟨k1,k2,k3⟩:=PA.meth D l x f e2 e3;obtain ⟨dx,ds,n,i1,i2,i3,I⟩:=uH4 r e1 e4 ha;obtain ⟨o,o1,o2⟩:=uHs (x:=x) i3;rw [Option.isNone_iff_eq_none.mp e5] at o2;cases o2;refine Ref.still (a:=(.st (.ref f),[.ref i])) r ((uAq e1).trans (ob e3' (ob e4' (if_pos e5)))) (fun _=>(.ref f,[.ref a])) (fun _=>⟨.st _,.cons hy' .nil⟩) fun Q E q=>?_;obtain ⟨mc,F,hF⟩:=r.fr;have k1':plainGet C.K D x=true:=k1
     with_reducible exact PySem.W.method_inst F GK.K I k1' k2 k3 o1 (q s.toks s.toks)
    ·exact Ref.fail ((uAq e1).trans (ob e3' (ob e4' (if_neg e5))))
   | list xs=>
    obtain ⟨vs,n,l1,v1,z1,_⟩:=uAv r e1 ha;by_cases h1:x=Str.ofString "append"
    ·subst h1;exact uCk r hy' "list.append" (uAq e1) fun Q E q=>by with_reducible exact getMethod_builtin (uAm l1).typeIs PySem.F.plainAttrs_list PySem.F.slot_list_append PySem.F.type_list_append (uGh l1) q
    ·by_cases h2:x=Str.ofString "pop"
     ·subst h2;exact uCk r hy' "list.pop" (uAq e1) fun Q E q=>by with_reducible exact getMethod_builtin (uAm l1).typeIs PySem.F.plainAttrs_list PySem.F.slot_list_pop PySem.F.type_list_pop (uGh l1) q
     ·by_cases h3:x=Str.ofString "clear"
      ·subst h3;exact uCk r hy' "list.clear" (uAq e1) fun Q E q=>by with_reducible exact getMethod_builtin (uAm l1).typeIs PySem.F.plainAttrs_list PySem.F.slot_list_clear PySem.F.type_list_clear (uGh l1) q
      ·exact Ref.fail ((uAq e1).trans ((if_neg (by simpa using h1)).trans ((if_neg (by simpa using h2)).trans (if_neg (by simpa using h3)))))
   | dict es gg=>
    obtain ⟨b,ob,h1,h2,h3,x1⟩:=r.at e1;rw [ha] at h2;cases h2;obtain ⟨kvs,hd,hent⟩:=uC3 h3 x1;have hnd:∀ b,Value.ref a=.ref b→∃ o,s.heap.get? b=some o∧o.dict=none:=fun b e=>by cases e;exact ⟨_,h3,x1.1.2.1⟩
    by_cases h1:x=Str.ofString "get"
    ·subst h1;exact uCk r hy' "dict.get" (uAq e1) fun Q E q=>by with_reducible exact getMethod_builtin hd.typeIs PySem.F.plainAttrs_dict PySem.F.slot_dict_get PySem.F.type_dict_get hnd q
    ·by_cases h2:x=Str.ofString "values"
     ·subst h2;exact uCk r hy' "dict.values" (uAq e1) fun Q E q=>by with_reducible exact getMethod_builtin hd.typeIs PySem.F.plainAttrs_dict PySem.F.slot_dict_values PySem.F.type_dict_values hnd q
     ·exact Ref.fail ((uAq e1).trans ((if_neg (by simpa using h1)).trans (if_neg (by simpa using h2))))
   | sset ks=>
    by_cases h1:x=Str.ofString "add"
    ·subst h1;obtain ⟨b,ob,h1,h2,h3,x1,es,ep,tb,x2,x3,x4,x5,x6,x7⟩:=r.at e1;rw [ha] at h2;cases h2;have hS:s.heap.SetOf (PySem.strKind C.prog C.w) a (fun k=>ks.contains k.cps.toList) ks.length:=⟨ob,es,ep,tb,h3,x1,x2,x3,x4,x5,x6,x7⟩
     exact uCk r hy' "set.add" (uAq e1) fun Q E q=>by with_reducible exact getMethod_builtin hS.typeIs PySem.F.plainAttrs_set PySem.F.slot_set_add PySem.F.type_set_add hS.noDict q
    ·exact Ref.fail ((uAq e1).trans (if_neg (by simpa using h1)))
   | _=>exact Ref.fail (uAq e1)
 | _=>exact Ref.fail rfl
end attrs
end
section
section calls
variable {C:Cx}{G:Gm}{B:Bk}{A:Around}{own:Own}{σ:St}{s:Shared}
theorem line62:sizeLine<2 ^ 62:=by decide
theorem Ref.at{α β:Type}{m m':M α}{t:Sem β}{R:List Addr→α→β→Prop}(e:m σ=m' σ)(h:Ref C G B A own σ s m' t R):Ref C G B A own σ s m t R:=⟨fun Q E g=>h.go Q E (by unfold Good at g ⊢;rw [← e];exact g)⟩
theorem Ref.onK{α β γ:Type}{p:AO→Option γ}{x:AV}{u:Value}{f:Nat→γ→M α}{t:Sem β}{R:List Addr→α→β→Prop}(hx:VR C.τ (adr own) x u)(k:∀ i a o g,u=.ref a→(adr own)[i]?=some a→σ.H[i]?=some o→p o=some g→Ref C G B A own σ s (f i g) t R):Ref C G B A own σ s (Mine.Internal.onK p x f) t R:=by
 induction hx using VR.casesOn with
 | @ref i a ha=>
  generalize e1:(σ.H[i]?).bind p=zz;induction zz using Option.casesOn with
  | none=>exact Ref.fail (obn e1)
  | some g=>
   obtain ⟨o,e2,e3⟩:=Option.bind_eq_some_iff.mp e1;exact Ref.at (ob (f:=fun g=>f i g σ) e1 rfl) (k i a o g rfl ha e2 e3)
 | _=>exact Ref.fail rfl
theorem u0z{o:AO}{g:List (List Nat×AV)×Bool}(h:pD o=some g):o=.dict g.1 g.2:=by cases o<;>cases h;rfl
theorem u0q{o:AO}{g:List (List Nat)}(h:pS o=some g):o=.sset g:=by cases o<;>cases h;rfl
theorem uZw{o:AO}{g:Int×Int}(h:pR o=some g):o=.rng g.1 g.2:=by cases o<;>cases h;rfl
section onK
variable {α β:Type}{x:AV}{u:Value}{t:Sem β}{R:List Addr→α→β→Prop}(hx:VR C.τ (adr own) x u)
include hx
theorem Ref.onL{f:Nat→List AV→M α}(k:∀ i a xs,u=.ref a→(adr own)[i]?=some a→σ.H[i]?=some (.list xs)→Ref C G B A own σ s (f i xs) t R):Ref C G B A own σ s (Mine.Internal.onK pL x f) t R:=
 .onK hx fun i a o g e1 e2 e3 e4=>k i a g e1 e2 (uTn e4▸e3)
theorem Ref.onT{f:Nat→List AV→M α}(k:∀ i a xs,u=.ref a→(adr own)[i]?=some a→σ.H[i]?=some (.tup xs)→Ref C G B A own σ s (f i xs) t R):Ref C G B A own σ s (Mine.Internal.onK pT x f) t R:=
 .onK hx fun i a o g e1 e2 e3 e4=>k i a g e1 e2 (uUb e4▸e3)
theorem Ref.onD{f:Nat→List (List Nat×AV)×Bool→M α}(k:∀ i a es gg,u=.ref a→(adr own)[i]?=some a→σ.H[i]?=some (.dict es gg)→Ref C G B A own σ s (f i (es,gg)) t R):Ref C G B A own σ s (Mine.Internal.onK pD x f) t R:=
 .onK hx fun i a o g e1 e2 e3 e4=>k i a g.1 g.2 e1 e2 (u0z e4▸e3)
theorem Ref.onS{f:Nat→List (List Nat)→M α}(k:∀ i a ks,u=.ref a→(adr own)[i]?=some a→σ.H[i]?=some (.sset ks)→Ref C G B A own σ s (f i ks) t R):Ref C G B A own σ s (Mine.Internal.onK pS x f) t R:=
 .onK hx fun i a o g e1 e2 e3 e4=>k i a g e1 e2 (u0q e4▸e3)
theorem Ref.onR{f:Nat→Int×Int→M α}(k:∀ i a m n,u=.ref a→(adr own)[i]?=some a→σ.H[i]?=some (.rng m n)→Ref C G B A own σ s (f i (m,n)) t R):Ref C G B A own σ s (Mine.Internal.onK pR x f) t R:=
 .onK hx fun i a o g e1 e2 e3 e4=>k i a g.1 g.2 e1 e2 (uZw e4▸e3)
end onK
theorem uWf(r:uA5 C G B own σ s.heap){x:AV}{u:Value}(hx:VR C.τ (adr own) x u):Ref C G B A own σ s (bLen x) (PySem.call (.builtin "len") [u]) (VR C.τ):=by
 have hL:=line62;induction hx using VR.casesOn with
 | str l g t hs hg=>
  refine Ref.int r (k:=l.length) rfl fun Q E q=>?_;have h1:¬ ((mkS l).length:Int) ≥ 2 ^ 63:=by rw [uBq];lia
  with_reducible refine PyProof.Rows.len_str h1 ?_
  rw [uBq];exact q _ _
 | @ref i a ha=>
  generalize e1:σ.H[i]?=zz;induction zz using Option.casesOn with
  | none=>exact Ref.fail (congrArg (Option.map _) (obn e1))
  | some o=>
   induction o using AO.casesOn with
   | list xs=>
    obtain ⟨vs,n,l1,v1,z1,_⟩:=uAv r e1 ha;have L:=uAn v1;refine Ref.int r (k:=xs.length) (congrArg (Option.map (lenK σ)) (ob (f:=lenO) e1 rfl)) fun Q E q=>?_;have h1:((List.toArray vs).size:Int)<2 ^ 63:=by rw [List.size_toArray,← L];exact n63 (by assumption)
    with_reducible refine call_len_list (uAm l1) h1 ?_
    rw [List.size_toArray,← L];exact q _ _
   | tup xs=>
    obtain ⟨vs,n,l1,v1,z1,_⟩:=uD3 r e1 ha;have L:=uAn v1;refine Ref.int r (k:=xs.length) (congrArg (Option.map (lenK σ)) (ob (f:=lenO) e1 rfl)) fun Q E q=>?_;have h1:((List.toArray vs).size:Int)<2 ^ 63:=by rw [List.size_toArray,← L];exact n63 (by assumption)
    with_reducible refine len_tuple (uFq l1) h1 ?_
    rw [List.size_toArray,← L];exact q _ _
   | _=>exact Ref.fail (congrArg (Option.map _) (ob (f:=lenO) e1 rfl))
 | _=>exact Ref.fail rfl
theorem uG9(r:uA5 C G B own σ s.heap){x y:AV}{u v:Value}(hx:VR C.τ (adr own) x u)(hy:VR C.τ (adr own) y v):Ref C G B A own σ s (uDb x y) (PySem.call (.builtin "list.append") [u,v]) (VR C.τ):=by
 refine .onL hx fun i a xs eu ha e1=>?_;subst eu;by_cases hl:xs.length<lz
 ·obtain ⟨vs,n,l1,v1,z1,h1⟩:=uAv r e1 ha;have L:=uAn v1;refine Ref.of (a:=.none) (σ':=⟨σ.L,σ.H.set i (.list (xs++[y]))⟩) (if_pos hl) fun Q E q=>?_;have hsz:(List.toArray vs).size≤sizeLine:=by rw [List.size_toArray,← L];exact z1
  with_reducible refine append_at (hsz:=hsz) l1 fun h' hs ho=>?_
  have e2:(List.toArray vs).push v=(vs++[v]).toArray:=by simp
  rw [e2] at ho;have r':=r.upd h1 (o':=.list (xs++[y])) (fun b o hb z=>(hs.2 b hb).trans z) ho ⟨_,_,rfl,uCv v1 (.cons hy .nil),by rw [List.length_append];exact uBa hl⟩;exact q _ h' s.toks _ (by rw [uBm own h1];exact List.prefix_refl _) r' .none
 ·exact Ref.fail (if_neg hl)
theorem uHj{α:Type}:∀ {l:List α} {x:α},l.getLast?=some x→l=l.dropLast++[x]
 | l,x,h=>by
  have hne:l≠[]:=by intro e;subst e;cases h
  have:=List.dropLast_concat_getLast hne;rw [List.getLast?_eq_some_getLast hne] at h;cases h;exact this.symm
theorem uQa{α β:Type}{R:α→β→Prop}{l:List α}{r:List β}(h:FA R l r){x:α}(e:l.getLast?=some x) : ∃ y,r=r.dropLast++[y]∧R x y∧FA R l.dropLast r.dropLast:=by
 have h1:=uHj e;have L:=uAn h;have hl:l.length=l.dropLast.length+1:=by rw [congrArg List.length h1];simp
 generalize q:r.getLast?=zz;induction zz using Option.casesOn with
 | none=>
  have:r=[]:=List.getLast?_eq_none_iff.mp q;subst this;have h0:l.length=0:=L;lia
 | some y=>
  have h2:=uHj q;refine ⟨y,h2,?_,?_⟩
  ·have e1:l[l.dropLast.length]?=some x:=by rw [congrArg (·[l.dropLast.length]?) h1];simp
   obtain ⟨z,z1,z2⟩:=uDo h e1;have e2:r[l.dropLast.length]?=some y:=by
    have:l.dropLast.length=r.dropLast.length:=by rw [List.length_dropLast,List.length_dropLast,L]
    rw [this,congrArg (·[r.dropLast.length]?) h2];simp
   rw [e2] at z1;cases z1;exact z2
  ·rw [List.dropLast_eq_take,List.dropLast_eq_take,← L];exact uLj h _
theorem uMg:∀ (p:List Value) (y:Value),kl_last (p++[y])=some (p,y):=by
 intro zz;induction zz with
 | nil=>
  intro y;exact rfl
 | cons a p ih=>
  intro y;have ih:=ih y;show (match kl_last (p++[y]) with | some (p,y)=>some (a::p,y) | none=>some ([],a))=_;rw [ih]
theorem uMs(r:uA5 C G B own σ s.heap){x:AV}{u:Value}(hx:VR C.τ (adr own) x u):Ref C G B A own σ s (bPop x) (PySem.call (.builtin "list.pop") [u]) (VR C.τ):=by
 refine .onL hx fun i a xs eu ha e1=>?_;subst eu;generalize e2:xs.getLast?=zz;induction zz using Option.casesOn with
 | none=>exact Ref.fail rfl
 | some z=>
  obtain ⟨vs,n,l1,v1,z1,h1⟩:=uAv r e1 ha;have L:=uAn v1;refine Classical.byContradiction fun hn=>?_;obtain ⟨y,y1,y2,y3⟩:=uQa v1 e2;refine hn ?_;clear hn;refine Ref.of (a:=z) (σ':=⟨σ.L,σ.H.set i (.list xs.dropLast)⟩) rfl fun Q E q=>?_;obtain ⟨mc,F,hF⟩:=r.fr;have k1:kl_last (List.toArray vs).toList=some (vs.dropLast,y):=by
   show kl_last vs=_;rw [y1];have:=uMg vs.dropLast y;rw [this];simp
  have k2:(List.toArray vs).toList.length≤sizeLine:=by show vs.length≤_;rw [← L];exact z1
  with_reducible refine kl_pop F r.news k1 (uK1 h1 r.nd r.off) k2 fun h' F' N'=>?_
  exact q _ h' s.toks y (by rw [uBm own h1];exact List.prefix_refl _) (r.ofUpd h1 F' N' hF ⟨_,_,rfl,y3,Nat.le_trans (by rw [List.length_dropLast];exact Nat.sub_le _ _) z1⟩) (by rw [uBm own h1];exact y2)
theorem clear0 {D:Addr} {n:Nat} {Q:Value→Shared→Prop} {E:Value→Shared→Prop} {prog:Program} {w:World} (ho:s.heap.get? D=some { cls:=.type "list",data:=.seq #[] n })
  (h:∀ h',Heap.SameBut D s.heap h'→(∃ k,h'.get? D=some { cls:=.type "list",data:=.seq #[] k })→Q .none { s with heap:=h' }):wpAny (model prog w) A (PySem.call (.builtin "list.clear") [.ref D]) Q E s:=by
 refine call_meets PySem.F.slot_list_clear ⟨_,ho,rfl⟩ PySem.F.entry_list_clear (PySem.F.args_list_clear_1 _) (PySem.AutoSeq1.list_clear_list_0 D #[] n (by decide)) ⟨ho,h _ (Heap.SameBut.update ..) ?_⟩;exact ⟨_,PySem.IsL.update (n:=n) ho (fun _=>#[])⟩
theorem uOz(r:uA5 C G B own σ s.heap){x:AV}{u:Value}(hx:VR C.τ (adr own) x u):Ref C G B A own σ s (bClear x) (PySem.call (.builtin "list.clear") [u]) (VR C.τ):=by
 refine .onL hx fun i a xs eu ha e1=>?_;subst eu;obtain ⟨vs,n,l1,v1,z1,h1⟩:=uAv r e1 ha;have L:=uAn v1;refine Ref.of (a:=.none) (σ':=⟨σ.L,σ.H.set i (.list [])⟩) rfl fun Q E q=>?_;obtain ⟨mc,F,hF⟩:=r.fr;by_cases hv:vs=[]
 ·subst hv;refine clear0 l1 fun h' hs ⟨k,hk⟩=>?_;have r':=r.upd h1 (o':=.list []) (fun b o hb z=>(hs.2 b hb).trans z) hk ⟨_,[],rfl,.nil,Nat.zero_le _⟩;exact q _ h' s.toks _ (by rw [uBm own h1];exact List.prefix_refl _) r' .none
 ·have k1:(List.toArray vs).toList.length≠0:=by show vs.length≠0;simpa using hv
  have k2:(List.toArray vs).toList.length≤sizeLine:=by show vs.length≤_;rw [← L];exact z1
  with_reducible refine kl_clear F r.news (uK1 h1 r.nd r.off) k1 k2 fun h' F' N'=>?_
  exact q _ h' s.toks _ (by rw [uBm own h1];exact List.prefix_refl _) (r.ofUpd h1 F' N' hF ⟨_,[],rfl,.nil,Nat.zero_le _⟩) .none
theorem uQ3(hsm:True)(r:uA5 C G B own σ s.heap){x y:AV}{u v:Value}(hx:VR C.τ (adr own) x u)(hy:VR C.τ (adr own) y v):Ref C G B A own σ s (bGet x y) (PySem.call (.builtin "dict.get") [u,v]) (VR C.τ):=by
 refine .onD hx fun i a es gg eu ha e1=>?_;subst eu;induction hy using VR.casesOn with
 | str k g t hs hg=>
  obtain ⟨b,ob,h1,h2,h3,x1⟩:=r.at e1;rw [ha] at h2;cases h2;obtain ⟨kvs,hd,hent⟩:=uC3 h3 x1;have hn:=uH6 r (List.mem_of_getElem? h1);have k1:=uDw (k:=k) hent;have k2:VR C.τ (adr own) ((es.lookup k).getD .none) ((valueAt kvs (mkS k)).getD .none):=by
   generalize es.lookup k=p at k1;generalize valueAt kvs (mkS k)=q at k1;induction k1 using OVR.casesOn with
   | none=>exact .none
   | some h=>exact h
  refine Ref.still (a:=(es.lookup k).getD .none) r rfl (fun _=>(valueAt kvs (mkS k)).getD .none) (fun _=>k2) fun Q E q=>?_
  with_reducible refine call_meetsIn PySem.F.slot_dict_get hd.typeIs PySem.F.entry_dict_get (PySem.F.args_dict_get_2 _ _) (meets_dict_get (PySem.strKind C.prog C.w) a (uH1 (mkS k) t) hn) ?_
  exact ⟨_,hd.mapOf,q s.toks _⟩
 | _=>exact Ref.fail rfl
theorem uKd(hsm:True)(r:uA5 C G B own σ s.heap){x:AV}{u:Value}(hx:VR C.τ (adr own) x u):Ref C G B A own σ s (uHx x) (PySem.call (.builtin "dict.values") [u]) (VR C.τ):=by
 refine .onD hx fun i a es gg eu ha e1=>?_;subst eu;obtain ⟨b,ob,h1,h2,h3,x1⟩:=r.at e1;rw [ha] at h2;cases h2;obtain ⟨kvs,hd,hent⟩:=uC3 h3 x1;have HN:=uH6 r (List.mem_of_getElem? h1);refine Ref.of (a:=.ref σ.H.length) (σ':=⟨σ.L,σ.H++[.dvals i]⟩) rfl fun Q E q=>?_
 with_reducible refine call_meetsIn PySem.F.slot_dict_values hd.typeIs PySem.F.entry_dict_values (PySem.F.args_dict_values_1 _) (meets_dict_values (PySem.strKind C.prog C.w) a HN) ?_
 refine ⟨⟨kvs,hd⟩,?_⟩;exact q _ _ s.toks _ (uAj own _) (r.push ⟨a,uA6 (uAj own _) ha,rfl,rfl⟩) (uBx r _ _)
theorem uPp(r:uA5 C G B own σ s.heap){i:Nat}{a:Addr}{ks:List (List Nat)}(e1:σ.H[i]?=some (.sset ks))(ha:(adr own)[i]?=some a) :
  s.heap.SetOf (PySem.strKind C.prog C.w) a (fun k=>ks.contains k.cps.toList) ks.length∧∃ ob,own[i]?=some (a,ob):=by
 refine Classical.byContradiction fun hn=>?_;obtain ⟨b,ob,h1,h2,h3,x1,es,ep,tb,x2,x3,x4,x5,x6,x7⟩:=r.at e1;refine hn ?_;clear hn;rw [ha] at h2;cases h2;exact ⟨⟨ob,es,ep,tb,h3,x1,x2,x3,x4,x5,x6,x7⟩,ob,h1⟩
theorem uRi{h:Heap}{a:Addr}{τ:uBt}{φ:List Addr}{ks:List (List Nat)}(hS:h.SetOf (PySem.strKind C.prog C.w) a (fun k=>ks.contains k.cps.toList) ks.length) : ∃ ob,h.get? a=some ob∧uG1 C.prog C.w τ φ (.sset ks) ob:=by
 refine Classical.byContradiction fun hn=>?_;obtain ⟨ob,es,ep,tb,h3,x1,x2,x3,x4,x5,x6,x7⟩:=hS;refine hn ?_;clear hn;exact ⟨ob,h3,x1,es,ep,tb,x2,x3,x4,x5,x6,x7⟩
theorem uR0(r:uA5 C G B own σ s.heap){x y:AV}{u v:Value}(hx:VR C.τ (adr own) x u)(hy:VR C.τ (adr own) y v):Ref C G B A own σ s (bAdd x y) (PySem.call (.builtin "set.add") [u,v]) (VR C.τ):=by
 refine .onS hx fun i a ks eu ha e1=>?_;subst eu;induction hy using VR.casesOn with
 | str k g t hs hg=>
  by_cases hl:ks.length<1000
  ·refine Classical.byContradiction fun hn=>?_;obtain ⟨hS,ob,h1⟩:=uPp r e1 ha;refine hn ?_;clear hn;refine Ref.of (a:=.none) (σ':=⟨σ.L,σ.H.set i (.sset (if ks.contains k then ks else ks++[k]))⟩) (if_pos hl) fun Q E q=>?_;have hb:ks.length+1<scanBound:=Nat.lt_of_le_of_lt (by lia:ks.length+1≤1000) (by decide);have hsc:Value.scannable (.str (mkS k) t)=true:=rfl
   with_reducible refine call_set_add (uH1 (mkS k) t) hsc hS hb fun h' hs' hS'=>?_
   have e2:h'.SetOf (PySem.strKind C.prog C.w) a (fun z=>(if ks.contains k then ks else ks++[k]).contains z.cps.toList) (if ks.contains k then ks else ks++[k]).length:=by
    have f1:(fun k':Str=>ks.contains k'.cps.toList||decide (k'=mkS k))=fun z=>(if ks.contains k then ks else ks++[k]).contains z.cps.toList:=by
     funext z
     have hz:(z=mkS k)↔z.cps.toList=k:=by
      constructor
      ·intro e;rw [e]
      ·intro e;subst e;exact (uLm z).symm
     by_cases hc:ks.contains k=true
     ·rw [if_pos hc];by_cases q:z=mkS k
      ·rw [decide_eq_true q,Bool.or_true,hz.mp q,hc]
      ·rw [decide_eq_false q,Bool.or_false]
     ·rw [if_neg hc];by_cases q:z=mkS k
      ·rw [decide_eq_true q,Bool.or_true,hz.mp q];simp
      ·rw [decide_eq_false q,Bool.or_false];have:z.cps.toList≠k:=fun e=>q (hz.mpr e);simp [this]
    have f2:(if (ks.contains (mkS k).cps.toList)=true then ks.length else ks.length+1)=(if ks.contains k then ks else ks++[k]).length:=by
     show (if ks.contains k=true then _ else _)=_
     split<;>simp
    rw [← f1,← f2];exact hS'
   obtain ⟨ob',z1,z2⟩:=uRi (τ:=C.τ) (φ:=adr own) e2;have r':=r.upd h1 (fun b o hb z=>(hs'.2 b hb).trans z) z1 z2;exact q _ h' _ _ (by rw [uBm own h1];exact List.prefix_refl _) r' .none
  ·exact Ref.fail (if_neg hl)
 | _=>exact Ref.fail rfl
end calls
end
section
theorem uHw:TypeCalled "object" "object.__new__" "object.__init__":=
 ⟨by decide +kernel,by decide +kernel,⟨.type "object",[],by rw [mroOf_type];kernel_rfl⟩,
  madeBy_type (c:=.type "object") (tl:=[]) (by rw [mroOf_type];kernel_rfl) (by rw [typeLookup_type,builtinLookup_eq_fast];kernel_rfl) (by decide +kernel),by decide +kernel,by rw [isSubtype_type];kernel_rfl,
  .of (owner:="object") (n:="__init__") (by rw [typeLookup_type,builtinLookup_eq_fast];kernel_rfl) (by decide +kernel) (by decide +kernel) (by decide +kernel)
  (by first | exact .inl (by decide +kernel) | exact .inr (by decide +kernel)) (by rw [isSubtype_type];kernel_rfl)⟩
theorem uFg:entryFor table "object.__new__" = some Builtin.«object.__new__»:=entryFor_of_tree (by kernel_rfl)
theorem uFy:checkTypeCall "object" ⟨[],[]⟩=pure ():=by kernel_rfl
theorem uG3:checkBuiltinCall "object.__new__" ⟨[.type "object"],[]⟩=pure ():=by kernel_rfl
theorem uEv(obj:Value):argsOk "object.__init__" ⟨[obj],[]⟩:=by
 unfold argsOk;rw [signature?_of (id:="object.__init__") (n:=['_','_','t','i','n','i','_','_']) (o:=['t','c','e','j','b','o']) (by kernel_rfl) PySem.F.owner_object];kernel_rfl
theorem uJw:Bind.madeHere "object.__new__" (.type "object")=pure ():=by kernel_rfl
theorem uEn:typeHasDict (.type "object")=false:=by decide +kernel
theorem uI6:((Manifest.find? "object").elim false fun x=>x.mro.any fun t=>(Manifest.find? t).elim false (·.noNew))=false:=by decide +kernel
theorem uI9:diesByItsTypesDel "object" = false:=by decide +kernel
theorem uJ3:isType (.type "object")=pure true:=by first | rfl | kernel_rfl | (unfold isType;rw [isSubtype_type];kernel_rfl)
theorem uFk:Meets (Builtin.«object.__new__» ⟨[.type "object"],[]⟩) (fun _ R s=>R (.ok (.ret (.ref s.heap.objs.size))) { s with heap:=s.heap.push { cls:=.type "object",data:=.plain } }):=by
 refine Meets.of_wp fun prog w A R s hs=>?_;have h1:=uJw;have h2:=uEn;have h3:=uJ3;unfold Builtin.«object.__new__»;refine wpAny_bind (wpAny_of_eq (a:=true) h3 ?_);refine KFB.if_not rfl ?_;dsimp only;refine KFB.if_not uI6 ?_;refine wpAny_bind (wpAny_of_eq (a:=()) h1 ?_);refine KFB.if_not rfl ?_;refine KFB.if_not uEn ?_;refine wpAny_bind (wpAny_pure ?_);refine wpAny_bind (wpAny_newObj_type ?_);refine KFB.if_not uI9 ?_;exact wpAny_pure ⟨_,rfl,hs⟩
section calls
variable {C:Cx}{G:Gm}{B:Bk}{A:Around}{own:Own}{σ:St}{s:Shared}
theorem uMf(r:uA5 C G B own σ s.heap):Ref C G B A own σ s (new .obj) (PySem.call (.type "object") []) (VR C.τ):=by
 refine Ref.of (a:=.ref σ.H.length) (σ':=⟨σ.L,σ.H++[.obj]⟩) rfl fun Q E q=>?_;refine callType_meets uHw uFy uG3 uFg PySem.F.entry_object_init uFk (Q₁:=fun obj s₁=>obj=.ref s.heap.objs.size∧s₁={ s with heap:=s.heap.push { cls:=.type "object",data:=.plain } }) ⟨rfl,rfl⟩ fun obj s₁ h=>?_;obtain ⟨rfl,rfl⟩:=h;refine ⟨⟨_,Heap.get?_push_size _ rfl,rfl⟩,uEv _,(fun _ R s=>R (.ok (.ret .none)) s),Meets.of_wp fun prog w A R s hs=>wpAny_pure ⟨_,rfl,hs⟩,rfl,?_⟩;exact q _ _ s.toks _ (uAj own _) (r.push (by rfl)) (uBx r _ _)
theorem uR3(r:uA5 C G B own σ s.heap):Ref C G B A own σ s (new (.sset [])) (PySem.call (.type "set") []) (VR C.τ):=by
 refine Ref.of (a:=.ref σ.H.length) (σ':=⟨σ.L,σ.H++[.sset []]⟩) rfl fun Q E q=>?_
 with_reducible refine call_set_0 fun led=>?_
 refine q _ _ s.toks _ (uAj own _) (r.push ?_) (uBx r _ _);exact ⟨⟨rfl,rfl,rfl⟩,#[],0,_,rfl,fun e he=>by simp at he,fun k=>by simp,by decide,rfl,by rfl⟩
theorem uV3{τ:uBt}{φ:List Addr}{xs:List AV}{vs:List Value}(h:VRs τ φ xs vs):∀ {ts:List (List Nat)},uGa xs=some ts→StrsAre vs (ts.map mkS):=by
 induction h with
 | nil=>intro ts h;cases h;exact .nil
 | @cons x v xs vs hx hr ih=>
  intro ts h;induction hx using VR.casesOn with
  | str l g t hs hg=>
   obtain ⟨ts',q,rfl⟩:=Option.map_eq_some_iff.mp h;exact .cons _ _ (ih q)
  | _=>cases h
theorem uQ4(sep:List Nat):∀ ts:List (List Nat),Str.join (mkS sep) (ts.map mkS)=mkS (uEc sep ts):=by
 intro ts;induction ts with
 | nil=>rfl
 | cons x r ih=>
  rcases r with _|⟨y,r⟩
  ·rfl
  show mkS x++mkS sep++Str.join (mkS sep) ((y::r).map mkS)=_;rw [ih,uE4,uE4];rfl
theorem uOg:∀ ts:List (List Nat),((ts.map mkS).map (·.length)).sum=(uEc [] ts).length:=by
 intro ts;induction ts with
 | nil=>rfl
 | cons x r ih=>
  rcases r with _|⟨y,r⟩
  ·exact (Nat.add_zero _).trans (uBq x)
  show (mkS x).length+(((y::r).map mkS).map (·.length)).sum=(x++[]++uEc [] (y::r)).length;rw [ih,uBq,List.append_nil,List.length_append]
theorem uP3(r:uA5 C G B own σ s.heap){x y:AV}{u v:Value}(hx:VR C.τ (adr own) x u)(hy:VR C.τ (adr own) y v):Ref C G B A own σ s (bJoin x y) (PySem.call (.builtin "str.join") [u,v]) (VR C.τ):=by
 induction hx using VR.casesOn with
 | str sep g t hs hg=>
  refine .onL hy fun i a xs eu ha e1=>?_;subst eu;by_cases hsep:sep=[]
  ·subst hsep;generalize e2:uGa xs=zz;induction zz using Option.casesOn with
   | none=>exact Ref.fail (by dsimp only;rw [if_pos rfl])
   | some ts=>
    by_cases hl:(uEc [] ts).length≤lz
    ·obtain ⟨vs,n,l1,v1,z1,_⟩:=uAv r e1 ha;refine Ref.still (a:=.str (uEc [] ts) none) r (by dsimp only;rw [if_pos rfl];unfold strV;rw [if_pos hl];rfl) (fun tk=>.str (mkS (uEc [] ts)) tk) (fun tk=>.str _ _ _ (uBa hl) (fun _ e=>nomatch e)) fun Q E q=>?_;have h1:StrsAre (List.toArray vs).toList (ts.map mkS):=uV3 v1 e2;have h2:((ts.map mkS).map (·.length)).sum+(ts.map mkS).length*(mkS ([]:List Nat)).length≤16777216:=by
      rw [uOg];have:(mkS ([]:List Nat)).length=0:=rfl;rw [this,Nat.mul_zero];exact Nat.le_trans hl (by decide)
     with_reducible refine join_list (uAm l1) h1 h2 fun t' k=>?_
     have h3:Txt.join (mkS []) (ts.map mkS)=mkS (uEc [] ts):=by
      show Builtin.Str.glued _ _=_;rw [StrLaws.glued_eq_join];exact uQ4 [] ts
     rw [h3];exact q _ _
    ·exact Ref.fail (by dsimp only;rw [if_pos rfl];unfold strV;rw [if_neg hl];rfl)
  ·exact Ref.fail (if_neg hsep)
 | _=>exact Ref.fail rfl
theorem uOn:Txt.isalnum (mkS [46])=false:=by decide +kernel
theorem uO1(r:uA5 C G B own σ s.heap){x:AV}{u:Value}(hx:VR C.τ (adr own) x u):Ref C G B A own σ s (bAlnum x) (PySem.call (.builtin "str.isalnum") [u]) (VR C.τ):=by
 induction hx using VR.casesOn with
 | str l g t hs hg=>
  by_cases h:l=[46]
  ·subst h;refine Ref.still (a:=.bool false) r rfl (fun _=>.bool false) (fun _=>.bool _) fun Q E q=>?_
   with_reducible refine SC.isalnum ?_
   rw [uOn];exact q s.toks _
  ·exact Ref.fail (by unfold bAlnum alnum1;dsimp only;rw [if_neg h];rfl)
 | _=>exact Ref.fail rfl
theorem uMe(r:uA5 C G B own σ s.heap){x y:AV}{u v:Value}(hx:VR C.τ (adr own) x u)(hy:VR C.τ (adr own) y v):Ref C G B A own σ s (uHq x y) (PySem.call (.builtin "isinstance") [u,v]) (VR C.τ):=by
 induction hx using VR.casesOn with
 | str l g t hs hg=>
  by_cases h:y=.st (.type "str")
  ·subst h;cases hy;refine Ref.still (a:=.bool true) r rfl (fun _=>.bool true) (fun _=>.bool _) fun Q E q=>?_
   with_reducible refine IsiPair.str_str ?_
   exact q s.toks _
  ·exact Ref.fail (by unfold uHq;dsimp only;rw [if_neg h])
 | _=>exact Ref.fail rfl
theorem uUs{τ:uBt}{φ:List Addr}{xs:List AV}{vs:List Value}(h:VRs τ φ xs vs):∀ {ns:List Int},uGz xs=some ns→∃ ps:List (Int×Tok),vs=ps.map (fun p=>.int p.1 p.2)∧ps.map (·.1)=ns:=by
 induction h with
 | nil=>intro ns h;cases h;exact ⟨[],rfl,rfl⟩
 | @cons x v xs vs hx hr ih=>
  intro ns h;induction hx using VR.casesOn with
  | int i t=>
   obtain ⟨ns',q,rfl⟩:=Option.map_eq_some_iff.mp h;obtain ⟨ps,rfl,rfl⟩:=ih q;exact ⟨(i,t)::ps,rfl,rfl⟩
  | _=>cases h
theorem uU9(hh:A.handled=none)(r:uA5 C G B own σ s.heap){x:AV}{u:Value}(hx:VR C.τ (adr own) x u):Ref C G B A own σ s (bSum x) (PySem.call (.builtin "sum") [u]) (VR C.τ):=by
 refine .onL hx fun i a xs eu ha e1=>?_;subst eu;generalize e2:uGz xs=zz;induction zz using Option.casesOn with
 | none=>exact Ref.fail rfl
 | some ns=>
  obtain ⟨vs,n,l1,v1,z1,_⟩:=uAv r e1 ha;obtain ⟨ps,p1,p2⟩:=uUs v1 e2;refine Ref.of (a:=.int ns.sum) (σ':=σ) rfl fun Q E q=>?_;have hI:s.heap.IsList a (intItems ps.toArray):=by
   have:List.toArray vs=intItems ps.toArray:=by rw [p1];simp [intItems]
   rw [← this];exact uAm l1
  with_reducible refine sum_intListG hh hI fun h' tk t' hk=>?_
  have e3:preSum (numAt ps.toArray) ps.toArray.size=ns.sum:=by
   rw [preSum_eq,List.take_of_length_le (by simp)];show (ps.map (·.1)).sum=_;rw [p2]
  rw [e3];exact q own h' tk _ (List.prefix_refl _) (r.grow hk) (.int _ _)
theorem uPk(r:uA5 C G B own σ s.heap){x:AV}{u:Value}(hx:VR C.τ (adr own) x u):Ref C G B A own σ s (bIter x) (PySem.call (.builtin "iter") [u]) (VR C.τ):=by
 refine .onL hx fun i a xs eu ha e1=>?_;subst eu;obtain ⟨vs,n,l1,v1,z1,_⟩:=uAv r e1 ha;refine Ref.of (a:=.ref σ.H.length) (σ':=⟨σ.L,σ.H++[.liter i (some 0)]⟩) rfl fun Q E q=>?_;refine call_function_entry (by decide +kernel) (by decide +kernel) kdk_entry_iter (kdk_args_iter _) ?_;unfold Builtin.«iter»;refine wpAny_bind (m:=someArgs "iter" 1 2 _) (wpAny_of_eq (a:=[Value.ref a]) (by first | rfl | kernel_rfl) ?_);show wpAny _ _ (pyIter (.ref a)>>=_) _ _ _;refine wpAny_bind (wpAny_pyIter_list (uAm l1) ?_);exact wpAny_pure ⟨_,rfl,q _ _ s.toks _ (uAj own _) (r.push ⟨a,uA6 (uAj own _) ha,rfl⟩) (uBx r _ _)⟩
theorem uL7(r:uA5 C G B own σ s.heap){x y:AV}{u v:Value}(hx:VR C.τ (adr own) x u)(hy:VR C.τ (adr own) y v):Ref C G B A own σ s (tRange x y) (PySem.call (.type "range") [u,v]) (VR C.τ):=by
 generalize h:tRange x y σ=zz;induction zz using Option.casesOn with
 | none=>exact Ref.fail h
 | some z=>
  obtain ⟨a,e1,h'⟩:=Option.bind_eq_some_iff.mp h;obtain ⟨b,e2,_⟩:=Option.map_eq_some_iff.mp h';clear h h';obtain rfl:=uF0 e1;obtain rfl:=uF0 e2;obtain ⟨t,rfl⟩:=hx.int';obtain ⟨t',rfl⟩:=hy.int';refine Ref.of (a:=.ref σ.H.length) (σ':=⟨σ.L,σ.H++[.rng a b]⟩) rfl fun Q E q=>?_
  with_reducible refine call_range_2 ?_
  exact q _ _ _ _ (uAj own _) (r.push ⟨_,_,_,rfl⟩) (uBx r _ _)
theorem uL5(r:uA5 C G B own σ s.heap){y:AV}{v:Value}(hy:VR C.τ (adr own) y v):Ref C G B A own σ s (tRange (.int 0) y) (PySem.call (.type "range") [v]) (VR C.τ):=by
 induction hy using VR.casesOn with
 | int b t'=>
  refine Ref.of (a:=.ref σ.H.length) (σ':=⟨σ.L,σ.H++[.rng 0 b]⟩) rfl fun Q E q=>?_
  with_reducible refine call_range_1 ?_
  exact q _ _ _ _ (uAj own _) (r.push ⟨_,_,_,rfl⟩) (uBx r _ _)
 | _=>exact Ref.fail rfl
theorem uMc(r:uA5 C G B own σ s.heap){x:AV}{u:Value}(hx:VR C.τ (adr own) x u):Ref C G B A own σ s (tTuple x) (PySem.call (.type "tuple") [u]) (VR C.τ):=by
 refine .onL hx fun i a xs eu ha e1=>?_;subst eu;obtain ⟨vs,n,l1,v1,z1,_⟩:=uAv r e1 ha;have L:=uAn v1;refine Ref.of (a:=.ref σ.H.length) (σ':=⟨σ.L,σ.H++[.tup xs]⟩) rfl fun Q E q=>?_;have hsz:(List.toArray vs).size≤sizeLine:=by rw [List.size_toArray,← L];exact z1
 with_reducible refine call_tuple_list (hsz:=hsz) (uAm l1) fun h' hk=>?_
 have r':uA5 C G B own σ h':=r.grow hk;exact q _ _ s.toks _ (uAj own _) (r'.push ⟨_,vs,rfl,v1.mono (uAj _ _),z1⟩) (uBx r' _ _)
theorem uM6(r:uA5 C G B own σ s.heap){x:AV}{u:Value}(hx:VR C.τ (adr own) x u):Ref C G B A own σ s (tType x) (PySem.call (.type "type") [u]) (VR C.τ):=by
 refine .onT hx fun i a xs eu ha e1=>?_;subst eu;obtain ⟨vs,n,l1,v1,z1,_⟩:=uD3 r e1 ha;refine Ref.still (a:=.st (.type "tuple")) r rfl (fun _=>.type "tuple") (fun _=>.st _) fun Q E q=>?_;have hT:s.TypeIs (.ref a) "tuple":=(uBl l1).typeIs;have hn:(Value.type "tuple" == Value.type "builtin_function_or_method")=false:=by decide
 with_reducible refine call_type_of hT hn ?_
 exact q s.toks _
theorem uNp(a b:Int)(n:Nat)(hn:(b-a).toNat=n){τ:uBt}{φ:List Addr}{acc:Array Value}(h:ItemsOf (fun i v=>∃ t,v=.int (a+i*1) t) acc n):VRs τ φ (uCf a b) acc.toList:=by
 obtain ⟨h1,h2⟩:=h;have key:∀ (m:Nat) (k:Nat) (l:List Value),l.length=m→(∀ (j:Nat) (v:Value),l[j]?=some v→∃ t,v=.int (a+((k+j:Nat):Int)) t)→VRs τ φ ((List.range' k m).map fun (k:Nat)=>AV.int (a+(k:Int))) l:=by
  intro m;induction m with
  | zero=>intro k l hl _;have:l=[]:=List.eq_nil_of_length_eq_zero hl;subst this;exact .nil
  | succ m ih=>
   intro k l hl hv;induction l using List.casesOn with
   | nil=>cases hl
   | cons v l=>
    obtain ⟨t,ht⟩:=hv 0 v rfl;rw [List.range'_succ,List.map_cons];refine .cons (by rw [ht,Nat.add_zero];exact .int _ _) (ih (k+1) l (by simpa using hl) fun j v e=>?_);obtain ⟨t,ht⟩:=hv (j+1) v (by simpa using e);exact ⟨t,by rw [ht];congr 2;lia⟩
 unfold uCf;rw [hn,List.range_eq_range'];refine key n 0 acc.toList (by simpa using h1) fun j v e=>?_;obtain ⟨t,ht⟩:=h2 j v (by simpa using e);exact ⟨t,by rw [ht,Int.mul_one,Nat.zero_add]⟩
theorem uO5(hh:A.handled=none)(r:uA5 C G B own σ s.heap){x:AV}{u:Value}(hx:VR C.τ (adr own) x u):Ref C G B A own σ s (tList x) (PySem.call (.type "list") [u]) (VR C.τ):=by
 refine .onR hx fun i ad a b eu ha e1=>?_;subst eu;by_cases hsm:(small a&&small b)=true
 ·refine Classical.byContradiction fun hn=>?_;obtain ⟨c,ob,h1,h2,h3,t,u,v,x2⟩:=r.at e1;refine hn ?_;clear hn;rw [ha] at h2;cases h2;refine Ref.of (a:=.ref σ.H.length) (σ':=⟨σ.L,σ.H++[.list (uCf a b)]⟩) (if_pos hsm) fun Q E q=>?_;simp only [small,Bool.and_eq_true,decide_eq_true_eq] at hsm;subst x2;have hR:IsRange s.heap ad a b 1 t u v:=h3;have hs:Builtin.Range.small a b 1=true:=small_one (by lia) (by lia) (by lia) (by lia);have hn:Builtin.Range.rangeSize a b 1=((b-a).toNat:Nat):=by
   unfold Builtin.Range.rangeSize;rw [if_pos (by decide)]
   split
   ·rw [Int.ediv_one];lia
   ·lia
  have hl:(b-a).toNat≤2 ^ 24:=by lia
  with_reducible refine call_list_range hh hR hs hn hl fun h' tk acc' c' hk hS hacc=>?_
  have hv:=uNp (τ:=C.τ) (φ:=adr (own++[(s.heap.objs.size,({ cls:=.type "list",data:=.seq acc' c' }:Obj))])) a b _ rfl hacc;have r':=Rel.ext (o:=.list (uCf a b)) r hk hS (Nat.le_refl _) ⟨c',acc'.toList,by rw [Array.toArray_toList],hv,by unfold uCf;rw [List.length_map,List.length_range];exact Nat.le_trans (by lia:(b-a).toNat≤128) (by decide)⟩;exact q _ h' tk _ (uAj own _) r' (uBx r _ _)
 ·exact Ref.fail (if_neg hsm)
end calls
end
section
section calls
variable {C:Cx}{G:Gm}{B:Bk}{A:Around}{own:Own}{σ:St}{s:Shared}
theorem uJb(hh:A.handled=none)(r:uA5 C G B own σ s.heap){j:Nat}{it:Addr}(hj:(adr own)[j]?=some it){Q:Value→Shared→Prop}{E:Value→Shared→Prop}(g:Good C G B own σ s (uFn (.ref j)) (VR C.τ) Q E) :
  wpAny (model C.prog C.w) A (Builtin.«list_iterator.__next__» ⟨[.ref it],[]⟩) (fun fin s'=>∃ v,fin=.done (.ret v)∧Q v s') E s:=by
 by_cases e0 : ∃ l p xs,σ.H[j]?=some (.liter l (some p))∧σ.H[l]?=some (.list xs)
 ·obtain ⟨l,p,xs,e1,e2⟩:=e0;obtain ⟨b,ob,h1,h2,h3,la,x1,x2⟩:=r.at e1;rw [hj] at h2;cases h2;subst x2;obtain ⟨vs,n,l1,v1,z1,h1'⟩:=uAv r e2 x1;have ho:=h3;have hit:s.heap.IsListIter it la p:=⟨_,h3,rfl,rfl⟩
  show wpAny _ _ (field (.ref it) 0>>=_) _ _ s;refine wpAny_bind (wpAny_field ho rfl (x:=.ref la) rfl ?_);show wpAny _ _ (if (Value.ref la==Value.none)=true then _ else _) _ _ s;rw [if_neg (show ¬ ((Value.ref la==Value.none)=true) from Bool.false_ne_true)];show wpAny _ _ (field (.ref it) 1>>=_) _ _ s;refine wpAny_bind (wpAny_field ho rfl (x:=.int p 0) rfl ?_);refine wpAny_bind (wpAny_seqItems l1 rfl ?_);generalize e3:xs[p]?=zz;induction zz using Option.casesOn with
  | some v=>
   obtain ⟨rv,w1,w2⟩:=uJe v1 e3;have e4:uFn (.ref j) σ=some (.ok v,⟨σ.L,σ.H.set j (.liter l (some (p+1)))⟩):=by exact ob (ob (f:=pLi) e1 rfl) (ob (o:=some p) rfl (ob (ob (f:=pL) e2 rfl) (congrArg (nxV j l p σ) e3)))
   simp only [Int.toNat_natCast,w1];refine wpAny_bind (wpAny_setField_rec ho (by show _<2;lia) fun h' g1 g2=>wpAny_pure ⟨rv,rfl,?_⟩);have r':=r.upd h1 (o':=.liter l (some (p+1))) (fun b o hb z=>(g2.2 b hb).trans z) g1 ⟨la,x1,rfl⟩;exact g.ok e4 (tk':=s.toks) (by rw [uBm own h1];exact List.prefix_refl _) r' (by rw [uBm own h1];exact w2)
  | none=>
   have e4:uFn (.ref j) σ=some (.exc .stop,⟨σ.L,σ.H.set j (.liter l none)⟩):=by exact ob (ob (f:=pLi) e1 rfl) (ob (o:=some p) rfl (ob (ob (f:=pL) e2 rfl) (congrArg (nxV j l p σ) e3)))
   have w1:(List.toArray vs)[p]?=none:=by
    have:=uEe v1 e3;simpa using this
   simp only [Int.toNat_natCast,w1];refine wpAny_bind (wpAny_rule (wpAny_bind (wpAny_setField_rec ho (by show _<2;lia) fun h' g1 g2=>?_)));have r':=r.upd h1 (o':=.liter l none) (fun b o hb z=>(g2.2 b hb).trans z) g1 rfl;show wpAny _ _ (newExc (.type "StopIteration") []>>=_) _ _ _;refine wpAny_bind ?_;simp only [newExc,newTuple];refine wpAny_bind (wpAny_newObj_type ?_ (by size_fits));refine wpAny_bind (m:=firstArgMember _ _) (wpAny_of_eq (a:=Value.none) (by first | rfl | (simp only [firstArgMember];rfl)) ?_);refine wpAny_newObj_type ?_ (by size_fits);show wpAny _ _ (handled>>=_) _ _ _;refine wpAny_bind (wpAny_handled ?_);rw [hh];refine wpAny_bind (wpAny_pure (wpAny_throw ?_));refine g.exc e4 (tk':=s.toks) (by rw [uBm own h1];exact List.prefix_refl _) ⟨_,rfl,h',r',?_⟩;have e5:(#[Value.ref h'.objs.size,Value.none,Value.none,Value.none,Value.bool false,Value.none]++ownMembersOf (Value.type "StopIteration") [])=#[Value.ref h'.objs.size,.none,.none,.none,.bool false,.none]:=by
    have:ownMembersOf (Value.type "StopIteration") []=#[]:=by first | rfl | kernel_rfl | decide +kernel
    rw [this];rfl
   rw [e5];refine ⟨fun b o e=>Heap.get?_push_of_some _ (Heap.get?_push_of_some _ e),uA8 (by rw [Heap.size_push];lia),h'.objs.size,Heap.get?_push_size _ rfl,uJh,Heap.get?_push_of_some _ (Heap.get?_push_size _ rfl)⟩
 ·have e4:uFn (.ref j) σ=none:=by
   rcases q:σ.H[j]?.bind pLi with _|⟨l,_|p⟩
   ·exact obn q
   ·exact ob q rfl
   ·rcases q2:σ.H[l]?.bind pL with _|xs
    ·exact ob q (ob (o:=some p) rfl (obn q2))
    ·exact absurd ⟨l,p,xs,uSz q,uL9 q2⟩ e0
  unfold Good at g;rw [e4] at g;exact g.elim
theorem uQj(hh:A.handled=none)(r:uA5 C G B own σ s.heap){x:AV}{u:Value}(hx:VR C.τ (adr own) x u):Ref C G B A own σ s (uFn x) (PySem.call (.builtin "list_iterator.__next__") [u]) (VR C.τ):=by
 induction hx using VR.casesOn with
 | @ref j it hj=>
  refine ⟨fun Q E g=>?_⟩;by_cases e0 : ∃ l p,σ.H[j]?=some (.liter l (some p))
  ·obtain ⟨l,p,e1⟩:=e0;refine Classical.byContradiction fun hn=>?_;obtain ⟨b,ob,h1,h2,h3,la,x1,x2⟩:=r.at e1;refine hn ?_;clear hn;rw [hj] at h2;cases h2;subst x2;have hit:s.heap.IsListIter it la p:=⟨_,h3,rfl,rfl⟩
   exact wpAny_call_entry slot_listiter_next hit.typeIs entry_listiter_next (uJb (A:=A.in1) hh r hj g) (args_listiter_next _)
  ·have e4:uFn (.ref j) σ=none:=by
    rcases q:σ.H[j]?.bind pLi with _|⟨l,_|p⟩
    ·exact obn q
    ·exact ob q rfl
    ·exact absurd ⟨l,p,uSz q⟩ e0
   unfold Good at g;rw [e4] at g;exact g.elim
 | _=>exact Ref.fail rfl
theorem uMl(l:Addr)(items:Array Value)(hfit:(items.size:Int)<2 ^ 63):Meets (Builtin.«bool.__new__» ⟨[.type "bool",.ref l],[]⟩) (fun _ R s=>s.heap.IsList l items∧R (.ok (.ret (.bool !items.isEmpty))) { s with toks:=s.toks+1+1 }):=
 Meets.of_wp fun prog w A R s hs=>by
  obtain ⟨hp,g,d,tk,os⟩:=s;obtain ⟨hl,hs⟩:=hs;have f1:=PySem.F.conv_sub_bool
  repeat (any_goals (first | assumption | with_reducible apply wpAny_truthy_list hl hfit | wp_step))
  all_goals first | exact ⟨_,rfl,hs⟩ | skip
theorem uNb(r:uA5 C G B own σ s.heap){x:AV}{u:Value}(hx:VR C.τ (adr own) x u):Ref C G B A own σ s (tBool x) (PySem.call (.type "bool") [u]) (VR C.τ):=by
 refine .onL hx fun i a xs eu ha e1=>?_;subst eu;obtain ⟨vs,n,l1,v1,z1,_⟩:=uAv r e1 ha;have L:=uAn v1;have hL:=line62;refine Ref.still (a:=.bool (decide (xs≠[]))) r rfl (fun _=>.bool (decide (xs≠[]))) (fun _=>.bool _) fun Q E q=>?_;have h1:((List.toArray vs).size:Int)<2 ^ 63:=by rw [List.size_toArray,← L];exact n63 (by assumption)
 refine call_bool_1 (uMl a (List.toArray vs) h1) ⟨uAm l1,?_⟩;have:(!(List.toArray vs).isEmpty)=decide (xs≠[]):=by
  cases v1<;>simp
 rw [this];exact ⟨rfl,q s.toks _⟩
end calls
end
section
structure PKtr(C:Cx):Prop where
 tab:∀ h:Heap,C.K.In h→∃ kvs:List (Int×Value),h.DictOf (PySem.intKind C.prog C.w) C.P.trAt kvs∧∀ c y,C.P.tr.lookup c=some y→c<128∧
  ((valueAt kvs (c:Int)=none∧y=[c])∨∃ t,valueAt kvs (c:Int)=some (.str (mkS y) t)∧y.length=2)
section tr
variable {prog:Program}{w:World}{A:Around}{E:Value→Shared→Prop}{s:Shared}{d:Addr}{kvs:List (Int×Value)}
theorem uOj:isSubtype (.type "KeyError") (.type "LookupError")=pure true:=by rw [isSubtype_type];kernel_rfl
theorem uS8{c:Nat}{Q:Builtin.Str.Mapped→Shared→Prop}(hh:A.handled=none)(hd:(d==sysModules)=false)(hm:s.heap.DictOf (PySem.intKind prog w) d kvs)(hv:valueAt kvs (c:Int)=none)
  (h:∀ h' tk,(∀ b o,s.heap.get? b=some o→h'.get? b=some o)→Q .keep { s with heap:=h',toks:=tk }):wpAny (model prog w) A (Builtin.Str.tableLookup (.ref d) c) Q E s:=by
 unfold Builtin.Str.tableLookup;refine wpAny_bind (wpAny_attempt (wpAny_bind (wpAny_mkInt ?_)));refine wpAny_getItem_missing_of (s:={ s with toks:=s.toks+1 }) (intKind_is prog w _ _) hd hh hm.mapOf hv fun h' e x=>?_;refine Classical.byContradiction fun hn=>?_;obtain ⟨ob,t,x1,x2,x3⟩:=x.there;refine hn ?_;clear hn;refine wpAny_bind (wpAny_isInstance (T:="KeyError") ⟨ob,x1,x2⟩ uOj ?_);exact KFB.if_so rfl (wpAny_bind (wpAny_rule (wpAny_pure (h _ _ x.keeps))))
theorem uSh{c:Nat}{y:Str}{t:Tok}{Q:Builtin.Str.Mapped→Shared→Prop}(hm:s.heap.DictOf (PySem.intKind prog w) d kvs)(hv:valueAt kvs (c:Int)=some (.str y t))
  (h:∀ tk,Q (.text y) { s with toks:=tk }):wpAny (model prog w) A (Builtin.Str.tableLookup (.ref d) c) Q E s:=by
 unfold Builtin.Str.tableLookup;refine wpAny_bind (wpAny_attempt (wpAny_bind (wpAny_mkInt ?_)));refine wpAny_getItem_of (s:={ s with toks:=s.toks+1 }) (intKind_is prog w _ _) hm.mapOf hv ?_;refine wpAny_bind (wpAny_of_eq (a:=none) (by rfl) ?_);refine wpAny_bind (wpAny_of_eq (a:=some y) (by rfl) ?_);exact wpAny_pure (h _)
theorem uIg{c:Nat}{y:List Nat}{u:Tok}{Q:Value→Shared→Prop}(hh:A.handled=none)(hd:(d==sysModules)=false)(hm:s.heap.DictOf (PySem.intKind prog w) d kvs)(hc:c<128)
  (hv:(valueAt kvs (c:Int)=none∧y=[c])∨∃ t,valueAt kvs (c:Int)=some (.str (mkS y) t)∧y.length=2)
  (h:∀ h' tk t,(∀ b o,s.heap.get? b=some o→h'.get? b=some o)→Q (.str (mkS y) t) { s with heap:=h',toks:=tk }) :
  wpAny (model prog w) A (PySem.call (.builtin "str.translate") [.str (mkS [c]) u,.ref d]) Q E s:=by
 refine wpAny_call_entry PySem.F.slot_str_translate (typeIs_str s _ u) PySem.F.entry_str_translate ?_ (PySem.F.args_str_translate_2 _ _);unfold Builtin.«str.translate»;refine wpAny_bind (wpAny_of_eq (a:=(Value.str (mkS [c]) u,mkS [c],Value.ref d)) (by rfl) ?_);dsimp only;refine KFB.if_not (by rfl) ?_;have e1:(mkS [c]).cps.all (· < 128)=true:=by simp [hc]
 rw [e1];refine wpAny_bind ?_;rw [show (#[c]:Array Nat)=List.toArray [c] from rfl,List.forIn_toArray,List.forIn_cons];refine wpAny_bind ?_;refine KFB.if_not (by decide) ?_;refine KFB.if_so rfl ?_;dsimp only [List.lookup];rcases hv with ⟨hv,rfl⟩|⟨t,hv,hy⟩
 ·refine wpAny_bind (uS8 (A:=A.in1) hh hd hm hv fun h' tk hk=>?_);refine wpAny_bind (wpAny_pure ?_);refine wpAny_pure ?_;show wpAny _ _ (forIn ([]:List Nat) _ _) _ _ _;rw [List.forIn_nil];refine wpAny_pure ?_;refine KFB.if_not (show Builtin.Str.tooLong 1=false by decide) ?_;refine wpAny_bind ?_;have e3:(⟨List.foldl (fun acc (p:Str)=>acc++p.cps) #[] ([({ cps:=#[c] }:Str)].reverse)⟩:Str)=mkS [c]:=by simp
  show wpAny _ _ (mkStr ⟨List.foldl (fun acc (p:Str)=>acc++p.cps) #[] ([({ cps:=#[c] }:Str)].reverse)⟩) _ _ _;rw [e3];exact wpAny_mkStr (wpAny_pure ⟨_,rfl,h _ _ _ hk⟩) (by show 1≤sizeLine;decide)
 ·refine wpAny_bind (uSh (A:=A.in1) hm hv fun tk=>?_);dsimp only;have e:((mkS y).length==1&&y.toArray.all fun x=>decide (x<128))=false:=by
   rw [uBq,hy];rfl
  rw [e,if_neg (by decide)];refine wpAny_bind (wpAny_pure ?_);refine wpAny_bind (wpAny_rule ?_);refine KFB.if_not (by decide) ?_;refine wpAny_bind (uSh (s:={ s with toks:=tk }) (A:=A.in1) hm hv fun tk2=>?_);dsimp only;refine wpAny_pure ?_;show wpAny _ _ (forIn ([]:List Nat) _ _) _ _ _;rw [List.forIn_nil];refine wpAny_pure ?_;have hl:(mkS y).length=2:=by rw [uBq,hy]
  refine KFB.if_not (show Builtin.Str.tooLong (0+(mkS y).length)=false by rw [hl];decide) ?_;refine wpAny_bind ?_;have e3:(⟨List.foldl (fun acc (p:Str)=>acc++p.cps) #[] ([mkS y].reverse)⟩:Str)=mkS y:=by simp
  show wpAny _ _ (mkStr ⟨List.foldl (fun acc (p:Str)=>acc++p.cps) #[] ([mkS y].reverse)⟩) _ _ _;rw [e3];exact wpAny_mkStr (wpAny_pure ⟨_,rfl,h _ _ _ fun _ _ e=>e⟩) (by rw [hl];decide)
end tr
section calls
variable {C:Cx}{G:Gm}{B:Bk}{A:Around}{own:Own}{σ:St}{s:Shared}
theorem uO0(PT:PKtr C)(GK:GmOk C G)(htr:(C.P.trAt==sysModules)=false)(hh:A.handled=none)(r:uA5 C G B own σ s.heap){x y:AV}{u v:Value}(hx:VR C.τ (adr own) x u)(hy:VR C.τ (adr own) y v) :
  Ref C G B A own σ s (uHf C.P x y) (PySem.call (.builtin "str.translate") [u,v]) (VR C.τ):=by
 induction hx using VR.casesOn with
 | str l g t hs hg=>
  match l with
  | [c]=>
   by_cases h:y=.st (.ref C.P.trAt)
   ·subst h;cases hy;generalize e1:C.P.tr.lookup c=zz;induction zz using Option.casesOn with
    | none=>exact Ref.fail (by unfold uHf;dsimp only;rw [if_pos rfl,e1])
    | some z=>
     obtain ⟨kvs,k1,k2⟩:=PT.tab _ (GK.K.keeps r.keep);obtain ⟨k3,k4⟩:=k2 c z e1;refine Ref.of (a:=.str z none) (σ':=σ) (by unfold uHf;dsimp only;rw [if_pos rfl,e1]) fun Q E q=>?_;have hz:z.length≤sizeLine:=by
      rcases k4 with ⟨_,rfl⟩|⟨_,_,h⟩
      ·show 1≤sizeLine;decide
      ·rw [h];decide
     with_reducible refine uIg hh htr k1 k3 k4 fun h' tk t' hk=>?_
     exact q own h' tk _ (List.prefix_refl _) (r.grow hk) (.str _ _ _ hz (fun _ e=>nomatch e))
   ·exact Ref.fail (by unfold uHf;dsimp only;rw [if_neg h])
  | []=>exact Ref.fail rfl
  | _::_::_=>exact Ref.fail rfl
 | _=>exact Ref.fail rfl
theorem uKm(r:uA5 C G B own σ s.heap){x y:AV}{u v:Value}(hx:VR C.τ (adr own) x u)(hy:VR C.τ (adr own) y v):Ref C G B A own σ s (uFu x y) (PySem.call (.builtin "hasattr") [u,v]) (VR C.τ):=by
 refine .onL hx fun i a xs eu ha e1=>?_;subst eu;induction hy using VR.casesOn with
 | str l g t hs hg=>
  by_cases hl:l=sl "__getitem__"
  ·subst hl;obtain ⟨vs,n,l1,v1,z1,_⟩:=uAv r e1 ha;refine Ref.of (a:=.bool true) (σ':=σ) (if_pos rfl) fun Q E q=>?_;have e2:mkS (sl "__getitem__")=Str.ofString "__getitem__":=uLm _;rw [e2]
   with_reducible refine uIr l1 ?_
   exact q own _ s.toks _ (List.prefix_refl _) (r.grow fun _ _ e=>Heap.get?_push_of_some _ e) (.bool _)
  ·exact Ref.fail (if_neg hl)
 | _=>exact Ref.fail rfl
end calls
end
end Mine.Internal
end
section
set_option backward.match.sparseCases true
namespace Mine.Internal
open PySem PySem.W PyProof.Rows PySem.Calls PySem.SeqAt
section
variable {M:Model}{A:Around}{E:Value→Shared→Prop}{s:Shared}
theorem uWd(it:Addr):checkBoundCall "list_iterator.__next__" ⟨[.ref it],[]⟩=pure ():=by first | kernel_rfl | rfl
theorem uOo {a:Addr} {v:Value} {hp:Heap} {g:Array GenState} {d:Drawn} {tk:Nat} {os:OsState} {Q:Unit→Shared→Prop} {xs:Array Value} {n:Nat} (ho:hp.get? a=some { cls:=.type "list",data:=.seq xs n }) (h:Q () ⟨hp,g,d,tk,os⟩):wpAny M A (checkBoundCall "list.append" ⟨[.ref a,v],[]⟩) Q E ⟨hp,g,d,tk,os⟩:=by
 have hT:Shared.TypeIs ⟨hp,g,d,tk,os⟩ (.ref a) "list":=⟨_,ho,rfl⟩
 have hsig:Manifest.signature? "list.append" = some ⟨.oneArg,"list.append","append",.self,[⟨"object",.posOnly,true⟩]⟩:=by kernel_rfl
 have hk:builtinKind "list.append" = some .method:=by decide +kernel
 have hsub:isSubtype (.type "list") (.type "module")=pure false:=by rw [isSubtype_type];kernel_rfl
 have hsub2:isSubtype (.type "list") (.type "type")=pure false:=by rw [isSubtype_type];kernel_rfl
 unfold checkBoundCall;rw [hsig,hk];dsimp only;refine KFB.if_not (by decide) ?_;refine wpAny_bind (wpAny_isInstance hT hsub ?_);refine KFB.if_not (by decide +kernel) ?_;have hT0:wpAny M A (isType (.ref a)) (fun b s'=>b=false∧s'=⟨hp,g,d,tk,os⟩) E ⟨hp,g,d,tk,os⟩:=by
  unfold isType;exact wpAny_bind (wpAny_loadPart ho (wpAny_pure ⟨rfl,rfl⟩))
 refine wpAny_bind (wpAny_mono hT0 (fun b s' hb=>?_) fun _ _ e=>e);obtain ⟨rfl,rfl⟩:=hb;refine KFB.if_not rfl ?_;refine wpAny_bind (wpAny_typeOf hT ?_);exact wpAny_of_eq (a:=()) (by first | kernel_rfl | rfl) h
end
section
variable {prog:Program}{w:World}{A:Around}{E:Value→Shared→Prop}{s:Shared}
theorem uIn {x a:Addr} {id:String} {ob:Obj} {us:List Value} {bt:Builtin} {Q:Value→Shared→Prop} (ho:s.heap.get? x=some ob) (hc:ob.cls=.type "builtin_function_or_method"∨ob.cls=.type "method-wrapper") (hd:ob.data=.fields #[.builtin id,.ref a])
  (hk:∀ (P:Unit→Shared→Prop) (E':Value→Shared→Prop),P () s→wpAny (model prog w) A.in1 (checkBoundCall id ⟨.ref a::us,[]⟩) P E' s) (hq:∀ as:Args,(Code.builtin id as).quiet=true) (hb:entryFor table id=some bt)
  (h:wpAny (model prog w) (A.under (.builtin id ⟨.ref a::us,[]⟩)) (bt ⟨.ref a::us,[]⟩) (fun fin s'=>match fin with
   | .done f=>(match (Except.ok f:Result) with | .ok (.ret v)=>Q v s' | .ok _=>False | .error e=>E e s')
   | .again c'=>c'.quiet=true∧codeAny (model prog w) A c' (fun r s'=>match r with | .ok (.ret v)=>Q v s' | .ok _=>False | .error e=>E e s') s') E s):wpAny (model prog w) A (PySem.call (.ref x) us) Q E s:=by
 refine wpAny_call (codeAny_of_tree ?_);show wpAny _ A.in1 (callAny (.ref x) ⟨us,[]⟩) _ _ s;show wpAny _ _ (load x>>=_) _ _ s;refine wpAny_bind (wpAny_load ho ?_);rw [hd];refine KFB.if_so (by rcases hc with q|q<;>rw [q]<;>decide) ?_;refine KFB.if_so (by rcases hc with q|q<;>rw [q]<;>decide) ?_;refine wpAny_bind (hk _ _ ?_);refine wpAny_bind (wpAny_pure (wpAny_pure ?_));exact ⟨hq _,codeAny_builtin hb h⟩
end
end Mine.Internal
end
section
set_option backward.match.sparseCases true
namespace Mine.Internal
open PySem PySem.W PyProof.Rows PySem.Calls PySem.SeqAt
theorem uGo{β:Type}{x:String}:∀ {l:List (String×β)} {b:β},l.lookup x=some b→(x,b)∈l:=by
 intro zz;induction zz with
 | nil=>
  intro _ h;cases h
 | cons zq l ih=>
  obtain ⟨y,c⟩:=zq;intro b h;rw [List.lookup_cons] at h;generalize e:(x==y)=zz;induction zz using Bool.casesOn with
  | true=>rw [e] at h;cases h;rw [eq_of_beq e];exact .head _
  | false=>rw [e] at h;exact .tail _ (ih h)
section calls
variable {C:Cx}{G:Gm}{B:Bk}{A:Around}{own:Own}{σ:St}{s:Shared}
theorem uT4(hsm:True)(hh:A.handled=none)(r:uA5 C G B own σ s.heap){id:String}{b:BI}(hb:(id,b)∈biTab){x:AV}{u:Value}(hx:VR C.τ (adr own) x u) :
  Ref C G B A own σ s (uAo C.P b [x]) (PySem.call (.builtin id) [u]) (VR C.τ):=by
 simp only [biTab,List.mem_cons,Prod.mk.injEq,List.not_mem_nil,or_false] at hb;rcases hb with ⟨rfl,rfl⟩|⟨rfl,rfl⟩|⟨rfl,rfl⟩|⟨rfl,rfl⟩|⟨rfl,rfl⟩|⟨rfl,rfl⟩|⟨rfl,rfl⟩|⟨rfl,rfl⟩|⟨rfl,rfl⟩|⟨rfl,rfl⟩|⟨rfl,rfl⟩|⟨rfl,rfl⟩|⟨rfl,rfl⟩|⟨rfl,rfl⟩|⟨rfl,rfl⟩
 ·exact uWf r hx
 ·exact Ref.fail rfl
 ·exact uMs r hx
 ·exact uOz r hx
 ·exact Ref.fail rfl
 ·exact uKd hsm r hx
 ·exact Ref.fail rfl
 ·exact Ref.fail rfl
 ·exact uO1 r hx
 ·exact Ref.fail rfl
 ·exact Ref.fail rfl
 ·exact Ref.fail rfl
 ·exact uPk r hx
 ·exact uQj hh r hx
 ·exact uU9 hh r hx
theorem uU5(PT:PKtr C)(GK:GmOk C G)(htr:(C.P.trAt==sysModules)=false)(hsm:True)(hh:A.handled=none)(r:uA5 C G B own σ s.heap){id:String}{b:BI}(hb:(id,b)∈biTab){x y:AV}{u v:Value}(hx:VR C.τ (adr own) x u)(hy:VR C.τ (adr own) y v) :
  Ref C G B A own σ s (uAo C.P b [x,y]) (PySem.call (.builtin id) [u,v]) (VR C.τ):=by
 simp only [biTab,List.mem_cons,Prod.mk.injEq,List.not_mem_nil,or_false] at hb;rcases hb with ⟨rfl,rfl⟩|⟨rfl,rfl⟩|⟨rfl,rfl⟩|⟨rfl,rfl⟩|⟨rfl,rfl⟩|⟨rfl,rfl⟩|⟨rfl,rfl⟩|⟨rfl,rfl⟩|⟨rfl,rfl⟩|⟨rfl,rfl⟩|⟨rfl,rfl⟩|⟨rfl,rfl⟩|⟨rfl,rfl⟩|⟨rfl,rfl⟩|⟨rfl,rfl⟩
 ·exact Ref.fail rfl
 ·exact uG9 r hx hy
 ·exact Ref.fail rfl
 ·exact Ref.fail rfl
 ·exact uQ3 hsm r hx hy
 ·exact Ref.fail rfl
 ·exact uR0 r hx hy
 ·exact uP3 r hx hy
 ·exact Ref.fail rfl
 ·exact uO0 PT GK htr hh r hx hy
 ·exact uMe r hx hy
 ·exact uKm r hx hy
 ·exact Ref.fail rfl
 ·exact Ref.fail rfl
 ·exact Ref.fail rfl
theorem uX1(PT:PKtr C)(GK:GmOk C G)(htr:(C.P.trAt==sysModules)=false)(hsm:True)(hh:A.handled=none)(r:uA5 C G B own σ s.heap){id:String}{xs:List AV}{us:List Value}(hx:VRs C.τ (adr own) xs us) :
  Ref C G B A own σ s (biCall C.P id xs) (PySem.call (.builtin id) us) (VR C.τ):=by
 generalize hb:biTab.lookup id=zz;induction zz using Option.casesOn with
 | none=>exact Ref.fail (by unfold biCall;rw [hb];rfl)
 | some b=>
  have hm:=uGo hb;have e:biCall C.P id xs=uAo C.P b xs:=by unfold biCall;rw [hb]
  rw [e];induction hx using FA.casesOn with
  | nil=>exact Ref.fail rfl
  | cons h1 hr=>
   induction hr using FA.casesOn with
   | nil=>exact uT4 hsm hh r hm h1
   | cons h2 hr=>
    induction hr using FA.casesOn with
    | nil=>exact uU5 PT GK htr hsm hh r hm h1 h2
    | cons=>exact Ref.fail rfl
theorem uYb(hh:A.handled=none)(r:uA5 C G B own σ s.heap){id:String}{t:TY}(hb:(id,t)∈tyTab){xs:List AV}{us:List Value}(hx:VRs C.τ (adr own) xs us) :
  Ref C G B A own σ s (uBg t xs) (PySem.call (.type id) us) (VR C.τ):=by
 simp only [tyTab,List.mem_cons,Prod.mk.injEq,List.not_mem_nil,or_false] at hb;induction hx using FA.casesOn with
 | nil=>
  rcases hb with ⟨rfl,rfl⟩|⟨rfl,rfl⟩|⟨rfl,rfl⟩|⟨rfl,rfl⟩|⟨rfl,rfl⟩|⟨rfl,rfl⟩|⟨rfl,rfl⟩
  ·exact Ref.fail rfl
  ·exact Ref.fail rfl
  ·exact Ref.fail rfl
  ·exact uMf r
  ·exact uR3 r
  ·exact Ref.fail rfl
  ·exact Ref.fail rfl
 | cons h1 hr=>
  induction hr using FA.casesOn with
  | nil=>
   rcases hb with ⟨rfl,rfl⟩|⟨rfl,rfl⟩|⟨rfl,rfl⟩|⟨rfl,rfl⟩|⟨rfl,rfl⟩|⟨rfl,rfl⟩|⟨rfl,rfl⟩
   ·exact uL5 r h1
   ·exact uO5 hh r h1
   ·exact uMc r h1
   ·exact Ref.fail rfl
   ·exact Ref.fail rfl
   ·exact uM6 r h1
   ·exact uNb r h1
  | cons h2 hr=>
   induction hr using FA.casesOn with
   | nil=>
    rcases hb with ⟨rfl,rfl⟩|⟨rfl,rfl⟩|⟨rfl,rfl⟩|⟨rfl,rfl⟩|⟨rfl,rfl⟩|⟨rfl,rfl⟩|⟨rfl,rfl⟩
    ·exact uL7 r h1 h2
    ·exact Ref.fail rfl
    ·exact Ref.fail rfl
    ·exact Ref.fail rfl
    ·exact Ref.fail rfl
    ·exact Ref.fail rfl
    ·exact Ref.fail rfl
   | cons=>cases t<;>exact Ref.fail rfl
theorem uJt {D:Addr} {its:Array Value} {n:Nat} {x:Value} {Q:Value→Shared→Prop} {E:Value→Shared→Prop} {prog:Program} {w:World} (ho:s.heap.get? D=some { cls:=.type "list",data:=.seq its n })
  (h:∀ h',Heap.SameBut D s.heap h'→h'.get? D=some { cls:=.type "list",data:=.seq (its.push x) (n+1) }→Q .none { s with heap:=h' }) (hsz:its.size≤sizeLine) :
  wpAny (model prog w) A (Builtin.«list.append» ⟨[.ref D,x],[]⟩) (fun fin s'=>∃ v,fin=.done (.ret v)∧Q v s') E s:=by
 show wpAny _ _ (updateSeq D (·.push x)>>=fun _=>ret .none) _ _ s;refine wpAny_bind ?_;refine wpAny_updateSeq ho rfl (wpAny_pure ⟨.none,rfl,h _ (Heap.SameBut.update ..) ?_⟩);rw [Heap.get?_update_self _ ho (by rw [mapSeq_push];rfl),mapSeq_push]
theorem uSk{prog:Program}{w:World}{Q:Value→Shared→Prop}{E:Value→Shared→Prop}{A':Around}{t:Sem PySem.Fin}(h:wpAny (model prog w) A' t (fun fin s'=>∃ v,fin=.done (.ret v)∧Q v s') E s) :
  wpAny (model prog w) A' t (fun fin s'=>match fin with
   | .done f=>(match (Except.ok f:Result) with | .ok (.ret v)=>Q v s' | .ok _=>False | .error e=>E e s')
   | .again c'=>c'.quiet=true∧codeAny (model prog w) A c' (fun r s'=>match r with | .ok (.ret v)=>Q v s' | .ok _=>False | .error e=>E e s') s') E s:=
 wpAny_mono h (fun fin s' h=>by obtain ⟨v,rfl,q⟩:=h;exact q) fun _ _ e=>e
set_option tactic.hygienic true in
theorem uPg(hh:A.handled=none)(r:uA5 C G B own σ s.heap){i:Nat}{a:Addr}(ha:(adr own)[i]?=some a){id:String}{self:Nat}(e1:σ.H[i]?=some (.meth id self)){xs:List AV}{us:List Value}(hx:VRs C.τ (adr own) xs us) :
  Ref C G B A own σ s (uC8 id self xs) (PySem.call (.ref a) us) (VR C.τ):=by
 obtain ⟨b,ob,h1,h2,h3,sa,x1,x2,x3⟩:=r.at e1;rw [ha] at h2;cases h2;unfold uC8;by_cases q1:id = "list.append"
 ·subst q1;rw [if_pos rfl];induction hx using FA.casesOn with
  | nil=>exact Ref.fail rfl
  | cons hv hr=>
   cases hr with
   | cons=>exact Ref.fail rfl
   | nil=>
    rename_i x v;generalize e2:σ.H[self]?=zz;induction zz using Option.casesOn with
    | none=>exact Ref.fail (by exact obn (obn e2))
    | some o=>
     induction o using Mine.Internal.AO.casesOn with
     | list ys=>
      by_cases hl:ys.length<lz
      ·obtain ⟨vs,n,l1,v1,z1,h4⟩:=uAv r e2 x1;have L:=uAn v1;refine Ref.of (a:=.none) (σ':=⟨σ.L,σ.H.set self (.list (ys++[x]))⟩) (by exact Mine.Internal.ob (Mine.Internal.ob (f:=pL) e2 rfl) (if_pos hl)) fun Q E q=>?_;have hsz:(List.toArray vs).size≤sizeLine:=by rw [List.size_toArray,← L];exact z1
       refine uIn h3 x2 x3 (fun P E' hp=>?_) (fun _=>Code.quiet_builtin _ (by decide +kernel)) entry_list_append (uSk (uJt l1 (fun h' hs ho=>?_) hsz))
       ·obtain ⟨hp',g,d,tk,os⟩:=s;exact uOo l1 hp
       ·have e3:(List.toArray vs).push v=(vs++[v]).toArray:=by simp
        rw [e3] at ho;have r':=r.upd h4 (o':=.list (ys++[x])) (fun b o hb z=>(hs.2 b hb).trans z) ho ⟨_,_,rfl,uCv v1 (.cons hv .nil),by rw [List.length_append];exact uBa hl⟩;exact q _ h' s.toks _ (by rw [uBm own h4];exact List.prefix_refl _) r' .none
      ·exact Ref.fail (by exact Mine.Internal.ob (Mine.Internal.ob (f:=pL) e2 rfl) (if_neg hl))
     | _=>exact Ref.fail (by exact obn (Mine.Internal.ob (f:=pL) e2 rfl))
 ·rw [if_neg q1];by_cases q2:id = "list_iterator.__next__"
  ·subst q2;rw [if_pos rfl];induction hx using FA.casesOn with
   | cons=>exact Ref.fail rfl
   | nil=>
    refine ⟨fun Q E g=>?_⟩;exact uIn h3 x2 x3 (fun P E' hp=>wpAny_of_eq (uWd sa) hp) (fun _=>Code.quiet_builtin _ (by decide +kernel)) entry_listiter_next (uSk (uJb (A:=A.under _) hh r x1 g))
  ·rw [if_neg q2];exact Ref.fail rfl
end calls
end Mine.Internal
end
section
namespace Mine.Internal
open PySem PySem.W PyProof.Rows PySem.Calls PySem.SeqAt
section
structure CxOk(C:Cx):Prop where
 PK:PKok C
 PA:PKat C
 PT:PKtr C
 hT:TokOk C.τ
 K:C.K.In C.base
 T:∀ g,C.base.StaysIn g→TopRead C.p C.loose C.mg C.mb g
 hsm:True
 scr:ScrAt C C.base
 htr:(C.P.trAt==sysModules)=false
 keep:∀ a,(C.P.fn.lookup a).isSome=true∨(C.P.cls.lookup a).isSome=true→keepIn C.K (.ref a)=true
noncomputable def fs(G:Gm):List Addr:=G.outer.filterMap (·.frame)
noncomputable def Gm.at(G:Gm)(g:Heap):Gm:={ G with h₀:=g }
structure GT(C:Cx)(G:Gm)(g:Heap):Prop where
 turn:KtsTurn (fs G) G.h₀ g
 below:Below G.A₀ C.base G.outer g
 dicts:KtsDicts (fs G) g
structure uDg(G:Gm):Prop where
 fl:G.fenv.frame=some G.Lf
 fk:G.fenv.scope.kind=.function
 lf:G.h₀.objs.size≤G.Lf
 big:sysModules<G.h₀.objs.size
theorem GT.ok{C:Cx}{G:Gm}{g:Heap}(X:CxOk C)(f:uDg G)(t:GT C G g):GmOk C (G.at g) where
 K:=X.K.keeps t.below.stays
 T:=X.T g t.below.stays
 fl:=f.fl
 fk:=f.fk
 lf:=by show g.objs.size≤G.Lf;rw [t.turn.size];exact f.lf
theorem GT.hsm{C:Cx}{G:Gm}{g:Heap}(X:CxOk C)(t:GT C G g):True:=trivial
theorem GT.scr{C:Cx}{G:Gm}{g:Heap}(X:CxOk C)(t:GT C G g){prog:Program}{w:World}{τ:uBt}{Lc:Addr}{Y own:Own}{σ:St}{h:Heap}(r:Rel prog w τ (G.at g).h₀ Lc Y own σ h):ScrAt C h:=by
 obtain ⟨vs,⟨ob,l1,l2⟩,l3⟩:=X.scr;exact ⟨vs,⟨ob,r.keep _ _ (t.below.stays _ _ l1),l2⟩,l3⟩
structure Bl where
 Lc:Addr
 XP:List (Addr×(Obj→Prop))
noncomputable abbrev Bl.ex(B:Bl)(X:Own):Bk:=⟨B.Lc,X⟩
noncomputable abbrev Fit(XP:List (Addr×(Obj→Prop)))(X:Own):Prop:=FA (fun (p:Addr×(Obj→Prop)) (q:Addr×Obj)=>p.1=q.1∧p.2 q.2) XP X
inductive uAs(C:Cx)(G:Gm)(B:Bl)(own:Own)(σ:St)(h:Heap):Prop
 | mk (g:Heap) (X:Own):GT C G g→Fit B.XP X→uA5 C (G.at g) (B.ex X) own σ h→uAs C G B own σ h
inductive uEu(C:Cx)(G:Gm)(B:Bl)(own:Own)(σ:St)(x:AX)(e:Value)(h:Heap):Prop
 | mk (g:Heap) (X:Own):GT C G g→Fit B.XP X→Thrown C (G.at g) (B.ex X) own σ x e h→uEu C G B own σ x e h
noncomputable def uAk(C:Cx)(G:Gm)(B:Bl)(own:Own)(σ:St)(s:Shared){α β:Type}(m:M α)(R:List Addr→α→β→Prop)(Q:β→Shared→Prop)(E:Value→Shared→Prop):Prop:=
 match m σ with
 | none=>False
 | some (.ok a,σ')=>∀ own' h' tk' b,adr own<+:adr own'→uAs C G B own' σ' h'→R (adr own') a b→Q b { s with heap:=h',toks:=tk' }
 | some (.exc x,σ')=>∀ own' h' tk' e,adr own<+:adr own'→uEu C G B own' σ' x e h'→E e { s with heap:=h',toks:=tk' }
structure uAg(C:Cx)(G:Gm)(B:Bl)(A:Around)(own:Own)(σ:St)(s:Shared){α β:Type}(m:M α)(t:Sem β)(R:List Addr→α→β→Prop):Prop where
 go:∀ Q E,uAk C G B own σ s m R Q E→wpAny (model C.prog C.w) A t Q E s
section
variable {C:Cx}{G:Gm}{B:Bl}{A:Around}{own:Own}{σ:St}{s:Shared}{α β γ δ:Type}
theorem uAg.fail{m:M α}{t:Sem β}{R:List Addr→α→β→Prop}(h:m σ=none):uAg C G B A own σ s m t R:=⟨fun Q E g=>by
 unfold uAk at g;rw [h] at g;exact g.elim⟩
theorem uAk.bad{m:M α}{R:List Addr→α→β→Prop}{Q:β→Shared→Prop}{E:Value→Shared→Prop}{K:Prop}(g:uAk C G B own σ s m R Q E)(h:m σ=none):K:=by
 unfold uAk at g;rw [h] at g;exact g.elim
theorem uAk.bad1{m:M α}{f:α→M γ}{R:List Addr→γ→β→Prop}{Q:β→Shared→Prop}{E:Value→Shared→Prop}{K:Prop}(g:uAk C G B own σ s (M.bind m f) R Q E)(h:m σ=none):K:=g.bad (by unfold M.bind;rw [h])
theorem uAk.okI{m:M α}{R:List Addr→α→β→Prop}{Q:β→Shared→Prop}{E:Value→Shared→Prop}{a:α}{σ':St}(h:m σ=some (.ok a,σ'))
  (k:∀ own' h' tk' b,adr own<+:adr own'→uAs C G B own' σ' h'→R (adr own') a b→Q b { s with heap:=h',toks:=tk' }):uAk C G B own σ s m R Q E:=by
 unfold uAk;rw [h];exact k
theorem uAk.ok{m:M α}{R:List Addr→α→β→Prop}{Q:β→Shared→Prop}{E:Value→Shared→Prop}{a:α}{σ':St}(g:uAk C G B own σ s m R Q E)(h:m σ=some (.ok a,σ'))
  {own':Own} {h':Heap} {tk':Nat} {b:β} (p:adr own<+:adr own') (r:uAs C G B own' σ' h') (x:R (adr own') a b):Q b { s with heap:=h',toks:=tk' }:=by
 unfold uAk at g;rw [h] at g;exact g _ _ _ _ p r x
theorem uAk.exc{m:M α}{R:List Addr→α→β→Prop}{Q:β→Shared→Prop}{E:Value→Shared→Prop}{x:AX}{σ':St}(g:uAk C G B own σ s m R Q E)(h:m σ=some (.exc x,σ'))
  {own':Own} {h':Heap} {tk':Nat} {e:Value} (p:adr own<+:adr own') (y:uEu C G B own' σ' x e h'):E e { s with heap:=h',toks:=tk' }:=by
 unfold uAk at g;rw [h] at g;exact g _ _ _ _ p y
theorem uAg.lift{m:M α}{t:Sem β}{R:List Addr→α→β→Prop}(r:uAs C G B own σ s.heap)(h:∀ g X,GT C G g→Fit B.XP X→uA5 C (G.at g) (B.ex X) own σ s.heap→Ref C (G.at g) (B.ex X) A own σ s m t R):uAg C G B A own σ s m t R:=⟨fun Q E gd=>by
 obtain ⟨g,X,hg,hX,r⟩:=r;refine (h g X hg hX r).go Q E ?_;unfold uAk at gd;unfold Good;generalize q:m σ=zz;induction zz using Option.casesOn with
 | none=>rw [q] at gd;exact gd
 | some z=>
  obtain ⟨z,σ'⟩:=z;rw [q] at gd;induction z using Res.casesOn with
  | ok a=>exact fun own' h' tk' b p r' x=>gd own' h' tk' b p ⟨g,X,hg,hX,r'⟩ x
  | exc x=>exact fun own' h' tk' e p y=>gd own' h' tk' e p ⟨g,X,hg,hX,y⟩⟩
theorem uAg.bindP{m:M α}{f:α→M γ}{t:Sem β}{P:β→Shared→Prop}{R:List Addr→α→β→Prop}{R':List Addr→γ→δ→Prop}(h:uAg C G B A own σ s m t R)
  {Q:δ→Shared→Prop} {E:Value→Shared→Prop}
  (k:∀ a σ' own' h' tk' b,m σ=some (.ok a,σ')→adr own<+:adr own'→uAs C G B own' σ' h'→R (adr own') a b→uAk C G B own' σ' { s with heap:=h',toks:=tk' } (f a) R' Q E→P b { s with heap:=h',toks:=tk' })
  (gd:uAk C G B own σ s (M.bind m f) R' Q E):wpAny (model C.prog C.w) A t P E s:=by
 refine h.go _ _ ?_;unfold uAk at gd ⊢;unfold M.bind at gd;generalize q:m σ=zz;induction zz using Option.casesOn with
 | none=>rw [q] at gd;exact gd.elim
 | some r=>
  obtain ⟨r,σ'⟩:=r;rw [q] at gd;induction r using Res.casesOn with
  | ok a=>
   dsimp only at gd ⊢;intro own' h' tk' b p r x;refine k a σ' own' h' tk' b q p r x ?_;unfold uAk;generalize q':f a σ'=zz;induction zz using Option.casesOn with
   | none=>rw [q'] at gd;exact gd.elim
   | some r2=>
    obtain ⟨r2,σ2⟩:=r2;rw [q'] at gd;induction r2 using Res.casesOn with
    | ok c=>
     dsimp only at gd ⊢;exact fun own2 h2 tk2 b2 p2=>gd own2 h2 tk2 b2 (p.trans p2)
    | exc x=>
     dsimp only at gd ⊢;exact fun own2 h2 tk2 b2 p2=>gd own2 h2 tk2 b2 (p.trans p2)
  | exc x=>exact gd
theorem uAg.bindW{m:M α}{f:α→M γ}{t:Sem β}{g:β→Sem δ}{R:List Addr→α→β→Prop}{R':List Addr→γ→δ→Prop}(h:uAg C G B A own σ s m t R)
  (k:∀ a σ' own' h' tk' b,m σ=some (.ok a,σ')→adr own<+:adr own'→uAs C G B own' σ' h'→R (adr own') a b→uAg C G B A own' σ' { s with heap:=h',toks:=tk' } (f a) (g b) R')
  {Q:δ→Shared→Prop} {E:Value→Shared→Prop} (gd:uAk C G B own σ s (M.bind m f) R' Q E) :
  wpAny (model C.prog C.w) A t (fun b s'=>wpAny (model C.prog C.w) A (g b) Q E s') E s:=
 h.bindP (fun a σ' own' h' tk' b q p r x gd'=>(k a σ' own' h' tk' b q p r x).go Q E gd') gd
theorem uAg.bind{m:M α}{f:α→M γ}{t:Sem β}{g:β→Sem δ}{R:List Addr→α→β→Prop}{R':List Addr→γ→δ→Prop}(h:uAg C G B A own σ s m t R)
  (k:∀ a σ' own' h' tk' b,m σ=some (.ok a,σ')→adr own<+:adr own'→uAs C G B own' σ' h'→R (adr own') a b→uAg C G B A own' σ' { s with heap:=h',toks:=tk' } (f a) (g b) R') :
  uAg C G B A own σ s (M.bind m f) (t>>=g) R':=⟨fun _ _ gd=>wpAny_bind (h.bindW k gd)⟩
theorem uAg.pure{a:α}{b:β}{R:List Addr→α→β→Prop}(r:uAs C G B own σ s.heap)(x:R (adr own) a b):uAg C G B A own σ s (M.pure a) (Pure.pure b) R:=
 ⟨fun _ _ gd=>wpAny_pure (gd.ok (tk':=s.toks) rfl (List.prefix_refl _) r x)⟩
theorem uAg.congr{m m':M α}{t:Sem β}{R:List Addr→α→β→Prop}(h:uAg C G B A own σ s m t R)(e:m' σ=m σ):uAg C G B A own σ s m' t R:=⟨fun Q E g=>by
 refine h.go Q E ?_;unfold uAk at g ⊢;rw [← e];exact g⟩
theorem uAg.standAt{m:M α}{t:Sem β}{pos:Pos}{R:List Addr→α→β→Prop}(h:uAg C G B A own σ s m t R):uAg C G B A own σ s m (PySem.standAt pos>>=fun _=>t) R:=⟨fun Q E g=>wpAny_bind (wpAny_standAt (h.go Q E g))⟩
theorem uAg.holding{m:M α}{t:Sem β}{vs:List Value}{R:List Addr→α→β→Prop}(h:uAg C G B A own σ s m t R):uAg C G B A own σ s m (PySem.holding vs t) R:=⟨fun Q E g=>wpAny_holding (h.go Q E g)⟩
theorem uAg.map{m:M α}{t:Sem β}{R:List Addr→α→β→Prop}{R':List Addr→γ→β→Prop}(f:α→γ)(h:uAg C G B A own σ s m t R)(k:∀ φ a b,R φ a b→R' φ (f a) b) :
  uAg C G B A own σ s (M.bind m fun a=>M.pure (f a)) t R':=⟨fun Q E gd=>by
 refine h.go Q E ?_;unfold uAk M.bind at gd;unfold uAk;generalize q:m σ=zz;induction zz using Option.casesOn with
 | none=>rw [q] at gd;exact gd
 | some z=>
  obtain ⟨z,σ'⟩:=z;rw [q] at gd;induction z using Res.casesOn with
  | ok a=>exact fun own' h' tk' b p r x=>gd own' h' tk' b p r (k _ _ _ x)
  | exc x=>exact gd⟩
theorem uAg.mapM{m:M α}{t:Sem β}{R:List Addr→α→β→Prop}{R':List Addr→γ→δ→Prop}(f:α→γ)(g:β→δ)(h:uAg C G B A own σ s m t R)(k:∀ φ a b,R φ a b→R' φ (f a) (g b)) :
  uAg C G B A own σ s (M.bind m fun a=>M.pure (f a)) (t>>=fun b=>Pure.pure (g b)) R':=
 h.bind fun a σ' own' h' tk' b e p r x=>uAg.pure r (k _ _ _ x)
end
end
section
noncomputable def BkOk(G:Gm)(B:Bl):Prop:=B.Lc=G.Lf∨((∃ m:Str→Option Value,(G.Lf,fun o=>LCg.NsObj o m)∈B.XP)∧∀ p∈B.XP,p.1=G.Lf→∀ o sl,p.2 o→p.2 { o with slots:=sl })
theorem uGi{m:Str→Option Value}(o:Obj)(sl:Array (Option Value))(h:LCg.NsObj o m):LCg.NsObj { o with slots:=sl } m:=h
structure uBj(C:Cx)(G:Gm)(B:Bl)(A:Around)(F:FE)(own:Own)(env:Env)(n:Nat):Prop where
 X:CxOk C
 f:uDg G
 env:uD1 G (B.ex []) F env (adr own)
 dep:A.depth+2*n<recursionLimit
 uni:A.units+8*n<cLine
 hd:F.hm=false→A=G.A₀.deeper G.fenv∧A.handled=none
 blk:BkOk G B
theorem uBj.grow{C:Cx}{G:Gm}{B:Bl}{A:Around}{F:FE}{own own':Own}{env:Env}{n:Nat}(H:uBj C G B A F own env n)(p:adr own<+:adr own'):uBj C G B A F own' env n:=
 ⟨H.X,H.f,H.env.mono p,H.dep,H.uni,H.hd,H.blk⟩
theorem uBj.less{C:Cx}{G:Gm}{B:Bl}{A:Around}{F:FE}{own:Own}{env:Env}{n m:Nat}(H:uBj C G B A F own env n)(h:m≤n):uBj C G B A F own env m:=
 ⟨H.X,H.f,H.env,Nat.lt_of_le_of_lt (Nat.add_le_add_left (Nat.mul_le_mul_left 2 h) _) H.dep,Nat.lt_of_le_of_lt (Nat.add_le_add_left (Nat.mul_le_mul_left 8 h) _) H.uni,H.hd,H.blk⟩
theorem uD1.at{G:Gm}{B:Bl}{F:FE}{env:Env}{φ:List Addr}(x:uD1 G (B.ex []) F env φ)(g:Heap){X:Own}:uD1 (G.at g) (B.ex X) F env φ:=⟨x.kind,x.loc,x.glob,x.bi,x.frame,x.kinds,x.cells,x.names⟩
noncomputable abbrev TR(_:List Addr)(b:Bool)(c:Bool):Prop:=c=b
noncomputable def FR(τ:uBt)(φ:List Addr):Fl→Flow→Prop
 | .next,.next=>True
 | .brk,.brk=>True
 | .cont,.cont=>True
 | .ret v,.ret rv=>VR τ φ v rv
 | _,_=>False
inductive FRv(τ:uBt)(φ:List Addr):Fl→Flow→Prop
 | next:FRv τ φ .next .next
 | cont:FRv τ φ .cont .cont
 | brk:FRv τ φ .brk .brk
 | ret {v:AV} {rv:Value} (h:VR τ φ v rv):FRv τ φ (.ret v) (.ret rv)
theorem FR.view{τ:uBt}{φ:List Addr}{a:Fl}{b:Flow}(h:FR τ φ a b):FRv τ φ a b:=by
 cases a<;>cases b<;>first | exact h.elim | exact .next | exact .cont | exact .brk | exact .ret h
noncomputable def KeepA(P:uBb)(σ:St):AV→Prop
 | .st (.ref a)=>(P.fn.lookup a).isSome=true∨(P.cls.lookup a).isSome=true
 | .st (.builtin _)=>True
 | .st (.type _)=>True
 | .ref i=>∃ id self,σ.H[i]?=some (.meth id self)
 | _=>False
set_option backward.match.sparseCases true in
noncomputable abbrev CRes(Q E:Value→Shared→Prop):Result→Shared→Prop:=fun r s'=>match r with | .ok (.ret v)=>Q v s' | .ok _=>False | .error e=>E e s'
structure Snd(C:Cx)(r:Rec)(n:Nat):Prop where
 keeper:∀ f xs σ,r.call f xs σ≠none→KeepA C.P σ f
 ev:∀ {G:Gm} {B:Bl} {A:Around} {own:Own} {σ:St} {s:Shared} {F:FE} {env:Env} (e:Expr),uBj C G B A F own env n→uAs C G B own σ s.heap→uAg C G B A own σ s (r.ev e F) (eval e env) (VR C.τ)
 tst:∀ {G:Gm} {B:Bl} {A:Around} {own:Own} {σ:St} {s:Shared} {F:FE} {env:Env} (e:Expr),uBj C G B A F own env n→uAs C G B own σ s.heap→uAg C G B A own σ s (r.tst e F) (isTrue e env (eval e env)) TR
 call:∀ {G:Gm} {B:Bl} {A:Around} {own:Own} {σ:St} {s:Shared} {f:AV} {xs:List AV} {rf:Value} {us:List Value},CxOk C→uDg G→BkOk G B→A.frames=some (G.fenv::G.outer)→A.depth+2*n<recursionLimit→A.units+8*n<cLine→A.handled=none→
  uAs C G B own σ s.heap→VR C.τ (adr own) f rf→VRs C.τ (adr own) xs us→uAg C G B A own σ s (r.call f xs) (PySem.call rf us) (VR C.τ)
 fn:∀ {G:Gm} {B:Bl} {A:Around} {own:Own} {σ:St} {s:Shared} {a:Addr} {xs:List AV} {us:List Value},CxOk C→uDg G→BkOk G B→A.frames=some (G.fenv::G.outer)→A.depth+2*n<recursionLimit→A.units+8*n<cLine→A.handled=none→
  (C.P.fn.lookup a).isSome=true→uAs C G B own σ s.heap→VRs C.τ (adr own) xs us→∀ Q E,uAk C G B own σ s (r.call (.st (.ref a)) xs) (VR C.τ) Q E→codeAny (model C.prog C.w) A (.call (.ref a) ⟨us,[]⟩) (CRes Q E) s
 ex:∀ {G:Gm} {B:Bl} {A:Around} {own:Own} {σ:St} {s:Shared} {F:FE} (b:List Stmt),uBj C G B A F own G.fenv n→B.Lc=G.Lf→uAs C G B own σ s.heap→uAg C G B A own σ s (r.ex b F) (execs b G.fenv) (FR C.τ)
section arms
variable {C:Cx}{G:Gm}{B:Bl}{A:Around}{own:Own}{σ:St}{s:Shared}{F:FE}{env:Env}{r:Rec}{n:Nat}
theorem uYq(H:uBj C G B A F own env n)(R:uAs C G B own σ s.heap){x:Str}{pos:Pos}:uAg C G B A own σ s (loadName C.P F x) (eval (.Name x pos) env) (VR C.τ):=
 .lift R fun g X hg hX R=>uQc H.X.PK (hg.ok H.X H.f) (H.env.at g) R
theorem uNx(R:uAs C G B own σ s.heap){c:Const}{k:Nat}{pos:Pos}:uAg C G B A own σ s (uD2 c) (eval (.Constant c k pos) env) (VR C.τ):=.lift R fun g X hg hX R=>by
 cases c with
 | none=>exact Ref.still (a:=.none) R rfl (fun _=>.none) (fun _=>.none) fun Q E q=>wpAny_Constant_none (q s.toks s.toks)
 | bool b=>exact Ref.still (a:=.bool b) R rfl (fun _=>.bool b) (fun _=>.bool b) fun Q E q=>PyProof.Rows.Constant_bool (q s.toks s.toks)
 | int i=>
  refine Ref.int R rfl fun Q E q=>?_;exact wpAny_mkInt (q _ _)
 | str x=>
  by_cases hl:(tl x).length≤lz
  ·refine Ref.still (a:=.str (tl x) none) R (by unfold uD2 strV;dsimp only;rw [if_pos hl];rfl) (fun tk=>.str x tk) (fun tk=>?_) fun Q E q=>?_
   ·have:=VR.str (τ:=C.τ) (φ:=adr own) (tl x) none tk (uBa hl) (fun _ e=>nomatch e);rw [uLm] at this;exact this
   ·show wpAny _ _ (mkText x) _ _ _;exact wpAny_mkText (q _ _)
  ·exact Ref.fail (by unfold uD2 strV;dsimp only;rw [if_neg hl];rfl)
 | _=>exact Ref.fail rfl
theorem uAg.ite{α β:Type}{m₁ m₂:M α}{t₁ t₂:Sem β}{R:List Addr→α→β→Prop}{b c:Bool}(e:c=b)(h1:b=true→uAg C G B A own σ s m₁ t₁ R)(h2:b=false→uAg C G B A own σ s m₂ t₂ R) :
  uAg C G B A own σ s (if b=true then m₁ else m₂) (if c=true then t₁ else t₂) R:=by
 subst e;induction c using Bool.casesOn with
 | true=>exact h1 rfl
 | false=>exact h2 rfl
theorem uAg.operate{m:M AV}{t:Sem Value}{vs:List Value}{R:List Addr→AV→Value→Prop}(h:uAg C G B A own σ s m t R):uAg C G B A own σ s m (operate vs t) R:=⟨fun Q E g=>wpAny_operating (h.go Q E g)⟩
theorem uQ5(S:Snd C r n)(H:uBj C G B A F own env n)(R:uAs C G B own σ s.heap){op:BoolOp}{a b:Expr}{pos:Pos}(P:uBb)(hp:P=C.P):uAg C G B A own σ s (evE P r (.BoolOp op [a,b] pos) F) (eval (.BoolOp op [a,b] pos) env) (VR C.τ):=by
 subst hp;induction op using PySem.BoolOp.casesOn with
 | And=>
  refine (S.ev a H R).bind fun v σ1 own1 h1 tk1 rv e1 p1 R1 x1=>.standAt (uAg.bind (t:=PySem.holding [rv] (PySem.truthy rv)) (.holding (.lift R1 fun g X hg hX R1=>uEw R1 x1)) fun t σ2 own2 h2 tk2 c e2 p2 R2 x2=>?_);subst x2;induction c using Bool.casesOn with
  | true=>exact S.ev b ((H.grow p1).grow p2) R2
  | false=>exact uAg.pure R2 (x1.mono p2)
 | Or=>
  refine (S.ev a H R).bind fun v σ1 own1 h1 tk1 rv e1 p1 R1 x1=>.standAt (uAg.bind (t:=PySem.holding [rv] (PySem.truthy rv)) (.holding (.lift R1 fun g X hg hX R1=>uEw R1 x1)) fun t σ2 own2 h2 tk2 c e2 p2 R2 x2=>?_);subst x2;induction c using Bool.casesOn with
  | false=>exact S.ev b ((H.grow p1).grow p2) R2
  | true=>exact uAg.pure R2 (x1.mono p2)
theorem uWk(S:Snd C r n)(H:uBj C G B A F own env n)(R:uAs C G B own σ s.heap){op:Operator}{a b:Expr}{pos:Pos}:uAg C G B A own σ s (evE C.P r (.BinOp a op b pos) F) (eval (.BinOp a op b pos) env) (VR C.τ):=
 (S.ev a H R).bind fun v σ1 own1 h1 tk1 rv e1 p1 R1 x1=>uAg.bind (t:=PySem.holding [rv] (eval b env)) (.holding (S.ev b (H.grow p1) R1)) fun w σ2 own2 h2 tk2 rw e2 p2 R2 x2=>
  .standAt (.operate (.lift R2 fun g X hg hX R2=>uOw R2 (x1.mono p2) x2))
theorem uN5(S:Snd C r n)(H:uBj C G B A F own env (n+1))(R:uAs C G B own σ s.heap){op:CmpOp}{a b:Expr}{pos:Pos}(hm:behindInMarks op b=false) :
  uAg C G B A own σ s (M.bind (r.ev a F) fun x=>M.bind (r.ev b F) fun y=>uB7 op x y) (do let a ← eval a env;let b ← PySem.holding [a] (eval b env);PySem.standAt pos;PySem.operate [a,b] (compareOp op a b)) BR:=
 have H':=H.less (Nat.le_succ n)
 (S.ev a H' R).bind fun v σ1 own1 h1 tk1 rv e1 p1 R1 x1=>uAg.bind (t:=PySem.holding [rv] (eval b env)) (.holding (S.ev b (H'.grow p1) R1)) fun w σ2 own2 h2 tk2 rw e2 p2 R2 x2=>
  .standAt ⟨fun Q E gd=>wpAny_operating ((uAg.lift R2 fun g X hg hX R2=>uNc H.X.hT (hg.hsm H.X) (v8 H.uni) R2 (x1.mono p2) x2).go Q E gd)⟩
theorem uJp(S:Snd C r n)(H:uBj C G B A F own env (n+1))(R:uAs C G B own σ s.heap){op:CmpOp}{a b:Expr}{pos:Pos}:uAg C G B A own σ s (evE C.P r (.Compare a [op] [b] pos) F) (eval (.Compare a [op] [b] pos) env) (VR C.τ):=by
 by_cases hm:behindInMarks op b=true
 ·exact uAg.fail (by show (if behindInMarks op b=true then (M.fail:M AV) else _) σ=none;rw [if_pos hm];rfl)
 ·have hm':behindInMarks op b=false:=by simpa using hm
  have e1:evE C.P r (.Compare a [op] [b] pos) F=M.bind (M.bind (r.ev a F) fun x=>M.bind (r.ev b F) fun y=>uB7 op x y) fun c=>M.pure (.bool c):=by
   show (if behindInMarks op b=true then (M.fail:M AV) else _)=_;rw [if_neg hm]
   funext σ
   simp only [M.bind];generalize q1:r.ev a F σ=zz;induction zz using Option.casesOn with
   | none=>rfl
   | some z=>
    obtain ⟨z,σ'⟩:=z;induction z using Res.casesOn with
    | exc x=>rfl
    | ok v=>
     dsimp only;generalize q2:r.ev b F σ'=zz;induction zz using Option.casesOn with
     | none=>rfl
     | some z=>
      obtain ⟨z,σ''⟩:=z;induction z using Res.casesOn with
      | exc x=>rfl
      | ok w=>rfl
  rw [e1];have e2:eval (.Compare a [op] [b] pos) env=(do let a ← eval a env;let b ← PySem.holding [a] (eval b env);PySem.standAt pos;PySem.operate [a,b] (compareOp op a b)):=by
   rw [arm_eval_Compare];rw [markedEach_of_false _ _ _ (by simpa [lastMarks] using hm')];rfl
  rw [e2];exact (uN5 S H R (pos:=pos) hm').map (fun c=>AV.bool c) fun φ a b x=>by cases x;exact .bool a
set_option tactic.hygienic true in
theorem uJf(S:Snd C r n)(H:uBj C G B A F own env (n+1))(R:uAs C G B own σ s.heap){op:CmpOp}{a b:Expr}{pos:Pos}{whole:Sem Value}:uAg C G B A own σ s (tstE r (.Compare a [op] [b] pos) F) (isTrue (.Compare a [op] [b] pos) env whole) TR:=by
 by_cases hm:behindInMarks op b=true
 ·exact uAg.fail (by show (if behindInMarks op b=true then (M.fail:M Bool) else _) σ=none;rw [if_pos hm];rfl)
 ·have hm':behindInMarks op b=false:=by simpa using hm
  have e1:tstE r (.Compare a [op] [b] pos) F=M.bind (r.ev a F) fun x=>M.bind (r.ev b F) fun y=>uB7 op x y:=by
   show (if behindInMarks op b=true then (M.fail:M Bool) else _)=_;rw [if_neg hm]
  rw [e1];have H':=H.less (Nat.le_succ n);have e2:isTrue (.Compare a [op] [b] pos) env whole=(do let a ← eval a env;let b ← PySem.holding [a] (eval b env);PySem.standAt pos;let c ← PySem.operate [a,b] (compareOp op a b);PySem.holding [c] (PySem.truthy c)):=by
   rw [isTrue_Compare1,markedBehindIn_of_false hm']
  rw [e2];refine (S.ev a H' R).bind fun v σ1 own1 h1 tk1 rv e1 p1 R1 x1=>uAg.bind (t:=PySem.holding [rv] (eval b env)) (.holding (S.ev b (H'.grow p1) R1)) fun w σ2 own2 h2 tk2 rw e2 p2 R2 x2=>.standAt ⟨fun Q E gd=>?_⟩;refine wpAny_bind (wpAny_operating ((uAg.lift R2 fun g X hg hX R2=>uNc H.X.hT (hg.hsm H.X) (v8 H.uni) R2 (x1.mono p2) x2).go _ _ ?_));unfold uAk at gd ⊢
  split
  ·rename_i e;rw [e] at gd;exact gd
  ·rename_i b σ' e;rw [e] at gd;intro own' h' tk' c p R' x;subst x;exact wpAny_holding (wpAny_truthy_bool (gd own' h' tk' b p R' rfl))
  ·rename_i x σ' e;rw [e] at gd;exact gd
end arms
end
section
section arms
variable {C:Cx}{G:Gm}{B:Bl}{A:Around}{own:Own}{σ:St}{s:Shared}{F:FE}{env:Env}{r:Rec}{n:Nat}
theorem uVo(S:Snd C r n)(H:uBj C G B A F own env n)(R:uAs C G B own σ s.heap){x:Str}{p pos:Pos}{e:Expr} :
  uAg C G B A own σ s (evE C.P r (.NamedExpr (.Name x p) e pos) F) (eval (.NamedExpr (.Name x p) e pos) env) (VR C.τ):=
 (S.ev e H R).bind fun v σ1 own1 h1 tk1 rv e1 p1 R1 x1=>uAg.bind (t:=PySem.holding [rv] (assign (.Name x p) env rv))
  (.holding (.lift R1 fun g X hg hX R1=>uBs (((H.grow p1).env).at g) R1 x1)) fun _ σ2 own2 h2 tk2 _ e2 p2 R2 _=>uAg.pure R2 (x1.mono p2)
theorem uZa(S:Snd C r n)(H:uBj C G B A F own env n)(R:uAs C G B own σ s.heap){e:Expr}{pos:Pos}:uAg C G B A own σ s (evE C.P r (.UnaryOp .USub e pos) F) (eval (.UnaryOp .USub e pos) env) (VR C.τ):=
 (S.ev e H R).bind fun v σ1 own1 h1 tk1 rv e1 p1 R1 x1=>.standAt (.holding (.lift R1 fun g X hg hX R1=>uV7 R1 x1))
theorem u0d(S:Snd C r n)(H:uBj C G B A F own env n)(R:uAs C G B own σ s.heap){e:Expr}{pos:Pos}:uAg C G B A own σ s (evE C.P r (.UnaryOp .Invert e pos) F) (eval (.UnaryOp .Invert e pos) env) (VR C.τ):=
 (S.ev e H R).bind fun v σ1 own1 h1 tk1 rv e1 p1 R1 x1=>.standAt (.holding (.lift R1 fun g X hg hX R1=>uTa R1 x1))
theorem uVe(S:Snd C r n)(H:uBj C G B A F own env n)(R:uAs C G B own σ s.heap){t a b:Expr}{pos:Pos}:uAg C G B A own σ s (evE C.P r (.IfExp t a b pos) F) (eval (.IfExp t a b pos) env) (VR C.τ):=
 (S.tst t H R).bind fun c σ1 own1 h1 tk1 d e1 p1 R1 x1=>.ite x1 (fun _=>S.ev a (H.grow p1) R1) (fun _=>S.ev b (H.grow p1) R1)
noncomputable def uF6(x:AV):M (List AV):=fun s=>match x with
 | .ref a=>match s.H[a]? with
  | some (.list xs)=>some (.ok xs,s)
  | some (.tup xs)=>some (.ok xs,s)
  | _=>Option.none
 | _=>Option.none
theorem uMu(R:uAs C G B own σ s.heap){x:AV}{u:Value}(hx:VR C.τ (adr own) x u){γ δ:Type}{f:List AV→M γ}{R':List Addr→γ→δ→Prop}{Q:δ→Shared→Prop}{E:Value→Shared→Prop}{P:List Value→Shared→Prop}
  (gd:uAk C G B own σ s (M.bind (uF6 x) f) R' Q E)
  (k:∀ xs own' h' tk' ws,adr own<+:adr own'→uAs C G B own' σ h'→VRs C.τ (adr own') xs ws→uAk C G B own' σ { s with heap:=h',toks:=tk' } (f xs) R' Q E→P ws { s with heap:=h',toks:=tk' }) :
  StarOf (model C.prog C.w) A E u P s:=by
 obtain ⟨g,X,hg,hX,R⟩:=R;have bad:uF6 x σ=none→StarOf (model C.prog C.w) A E u P s:=fun h=>by
  exact gd.bad1 h
 have gd' : ∀ xs,uF6 x σ=some (.ok xs,σ)→uAk C G B own σ s (f xs) R' Q E:=fun xs h=>by
  unfold uAk M.bind at gd;rw [h] at gd;exact gd
 have gg:∀ xs h' tk',uAk C G B own σ s (f xs) R' Q E→uAk C G B own σ { s with heap:=h',toks:=tk' } (f xs) R' Q E:=fun xs h' tk' h=>h;induction hx using VR.casesOn with
 | @ref i a ha=>
  generalize e1:σ.H[i]?=zz;induction zz using Option.casesOn with
  | none=>exact bad (by unfold uF6;dsimp only;rw [e1])
  | some o=>
   induction o using AO.casesOn with
   | list xs=>
    obtain ⟨vs,n,l1,v1,z1,_⟩:=uAv R e1 ha;have L:=uAn v1;have e2:uF6 (.ref i) σ=some (.ok xs,σ):=by unfold uF6;dsimp only;rw [e1]
    have hsz:(List.toArray vs).size≤sizeLine:=by rw [List.size_toArray,← L];exact z1
    have hT':s.TypeIs (.ref a) "list":=⟨_,l1,rfl⟩
    unfold StarOf notIterableAtAll;refine wpAny_bind (wpAny_specialOf hT' PySem.F.slot_list_iter.lookup (wpAny_pure ⟨rfl,?_⟩));exact wpAny_collect_seq a (.inl rfl) l1 rfl rfl (fun h' hk=>k xs own h' s.toks vs (List.prefix_refl _) ⟨g,X,hg,hX,R.grow hk⟩ v1 (gg _ _ _ (gd' xs e2))) hsz
   | tup xs=>
    obtain ⟨vs,n,l1,v1,z1,_⟩:=uD3 R e1 ha;have L:=uAn v1;have e2:uF6 (.ref i) σ=some (.ok xs,σ):=by unfold uF6;dsimp only;rw [e1]
    have hsz:(List.toArray vs).size≤sizeLine:=by rw [List.size_toArray,← L];exact z1
    have hT':s.TypeIs (.ref a) "tuple":=⟨_,l1,rfl⟩
    unfold StarOf notIterableAtAll;refine wpAny_bind (wpAny_specialOf hT' PySem.F.slot_tuple_iter.lookup (wpAny_pure ⟨rfl,?_⟩));exact wpAny_collect_seq a (.inr rfl) l1 rfl rfl (fun h' hk=>k xs own h' s.toks vs (List.prefix_refl _) ⟨g,X,hg,hX,R.grow hk⟩ v1 (gg _ _ _ (gd' xs e2))) hsz
   | _=>exact bad (by unfold uF6;dsimp only;rw [e1])
 | _=>exact bad rfl
theorem uEl(e:Expr)(p:Pos)(es:List Expr)(env:Env):starEach (.Starred e p::es) env=(true,eval e env)::starEach es env:=rfl
theorem uA2{e:Expr}(h:∀ a p,e≠.Starred a p)(es:List Expr)(env:Env):starEach (e::es) env=(false,eval e env)::starEach es env:=by
 cases e<;>first | rfl | exact absurd rfl (h _ _)
theorem uI7{e:Expr}(h:∀ a p,e≠.Starred a p)(es:List Expr):evL r F (e::es)=M.bind (r.ev e F) fun v=>M.bind (evL r F es) fun vs=>M.pure (v::vs):=by
 cases e<;>first | rfl | exact absurd rfl (h _ _)
theorem uF7(S:Snd C r n){pos:Pos}:∀ (es:List Expr) {own:Own} {σ:St} {s:Shared},uBj C G B A F own env n→uAs C G B own σ s.heap→uAg C G B A own σ s (evL r F es) (spliced (backTo pos (starEach es env))) (VRs C.τ):=by
 intro zz;induction zz with
 | nil=>
  intro own σ s H R;exact uAg.pure R .nil
 | cons e es ih=>
  intro own σ s H R;by_cases hs : ∃ a p,e=.Starred a p
  ·obtain ⟨a,p,rfl⟩:=hs;rw [uEl];have e0:evL r F (.Starred a p::es)=M.bind (r.ev a F) fun v=>M.bind (uF6 v) fun xs=>M.bind (evL r F es) fun ys=>M.pure (xs++ys):=rfl;rw [e0];have e1:backTo pos ((true,eval a env)::starEach es env)=(true,(do let v ← eval a env;PySem.standAt pos;pure v))::backTo pos (starEach es env):=rfl;rw [e1];refine ⟨fun Q E gd=>ks_spliced ?_⟩;refine (S.ev a H R).bindP (fun v σ1 own1 h1 tk1 rv e1 p1 R1 x1 gd1=>?_) gd;refine uMu R1 x1 gd1 fun xs own2 h2 tk2 ws p2 R2 x2 gd2=>?_;refine (ih ((H.grow p1).grow p2) R2).bindP (fun ys σ3 own3 h3 tk3 us e3 p3 R3 x3 gd3=>?_) gd2;exact gd3.ok (tk':=tk3) rfl (List.prefix_refl _) R3 (uCv (VRs.mono p3 x2) x3)
  ·have hs' : ∀ a p,e≠.Starred a p:=fun a p q=>hs ⟨a,p,q⟩;rw [uA2 hs',uI7 hs'];have e1:backTo pos ((false,eval e env)::starEach es env)=(false,eval e env)::backTo pos (starEach es env):=rfl;rw [e1,spliced];refine (S.ev e H R).bind fun v σ1 own1 h1 tk1 rv e1 p1 R1 x1=>⟨fun Q E gd=>?_⟩
   refine KFB.if_not rfl ?_;refine wpAny_bind (wpAny_pure ?_);exact wpAny_bind (wpAny_holding ((ih (H.grow p1) R1).bindW (fun ys σ2 own2 h2 tk2 us e2 p2 R2 x2=>uAg.pure R2 (.cons (x1.mono p2) x2)) gd))
end arms
end
section
section arms
variable {C:Cx}{G:Gm}{B:Bl}{A:Around}{own:Own}{σ:St}{s:Shared}{F:FE}{env:Env}{r:Rec}{n:Nat}
theorem uEj(R:uAs C G B own σ s.heap){o:AO}{ob:Obj}(hr:∀ D,uG1 C.prog C.w C.τ (adr (own++[(D,ob)])) o ob):uAs C G B (own++[(s.heap.objs.size,ob)]) ⟨σ.L,σ.H++[o]⟩ (s.heap.push ob)∧VR C.τ (adr (own++[(s.heap.objs.size,ob)])) (.ref σ.H.length) (.ref s.heap.objs.size):=by
 obtain ⟨g,X,hg,hX,R⟩:=R;exact ⟨⟨g,X,hg,hX,R.push (hr _)⟩,uBx R _ _⟩
theorem uZh(S:Snd C r n)(H:uBj C G B A F own env n)(R:uAs C G B own σ s.heap){es:List Expr}{pos:Pos}:uAg C G B A own σ s (evE C.P r (.List es pos) F) (eval (.List es pos) env) (VR C.τ):=by
 rw [arm_eval_List];refine .standAt ?_;refine (uF7 S es H R).bind fun xs σ1 own1 h1 tk1 vs e1 p1 R1 x1=>?_;by_cases hl:xs.length≤lz
 ·rw [if_pos hl];refine ⟨fun Q E gd=>?_⟩;have L:=uAn x1;refine wpAny_newObj_type ?_ (by show vs.toArray.size≤sizeLine;rw [List.size_toArray,← L];exact uBa hl);obtain ⟨R2,v2⟩:=uEj (s:={ s with heap:=h1,toks:=tk1 }) R1 (o:=.list xs) (ob:={ cls:=.type "list",data:=.seq vs.toArray }) fun D=>⟨0,vs,rfl,x1.mono (uAj _ _),uBa hl⟩
  exact gd.ok (tk':=tk1) rfl (uAj _ _) R2 v2
 ·rw [if_neg hl];exact uAg.fail rfl
theorem uVj(S:Snd C r n)(H:uBj C G B A F own env n)(R:uAs C G B own σ s.heap){es:List Expr}{k:Nat}{pos:Pos}:uAg C G B A own σ s (evE C.P r (.Tuple es k pos) F) (eval (.Tuple es k pos) env) (VR C.τ):=by
 rw [arm_eval_Tuple];refine .standAt ?_;refine (uF7 S es H R).bind fun xs σ1 own1 h1 tk1 vs e1 p1 R1 x1=>?_;by_cases hl:xs.length≤lz
 ·rw [if_pos hl];refine ⟨fun Q E gd=>?_⟩;have L:=uAn x1;refine wpAny_newObj_type ?_ (by show vs.toArray.size≤sizeLine;rw [List.size_toArray,← L];exact uBa hl);obtain ⟨R2,v2⟩:=uEj (s:={ s with heap:=h1,toks:=tk1 }) R1 (o:=.tup xs) (ob:={ cls:=.type "tuple",data:=.seq vs.toArray }) fun D=>⟨0,vs,rfl,x1.mono (uAj _ _),uBa hl⟩
  exact gd.ok (tk':=tk1) rfl (uAj _ _) R2 v2
 ·rw [if_neg hl];exact uAg.fail rfl
theorem uW2(R:uAs C G B own σ s.heap){pos:Pos}:uAg C G B A own σ s (new (.dict [] true)) (eval (.Dict [] [] pos) env) (VR C.τ):=by
 refine ⟨fun Q E gd=>wpAny_Dict_empty ?_⟩;obtain ⟨R2,v2⟩:=uEj R (o:=.dict [] true) (ob:={ cls:=.type "dict",data:=.dict #[] }) fun D=>⟨⟨rfl,rfl,rfl⟩,#[],0,[],rfl,fun e he=>by simp at he,.nil,List.nodup_nil,.nil,fun _=>rfl⟩
 exact gd.ok (tk':=s.toks) rfl (uAj _ _) R2 v2
theorem uP0(R:uAs C G B own σ s.heap){x:Str}(hl:(tl x).length≤lz){Q:Value→Shared→Prop}{E:Value→Shared→Prop}{k:Nat}{p:Pos}
  (h:∀ tk,Q (.str x tk) { s with toks:=s.toks+1 }):wpAny (model C.prog C.w) A (eval (.Constant (.str x) k p) env) Q E s:=by
 show wpAny _ _ (mkText x) _ _ _;exact wpAny_mkText (h _)
theorem uEk{es:List Expr}{out:List Nat}{own:Own}{σ:St}{s:Shared}(h:uB4 r F out es=M.fail):uAg C G B A own σ s (uB4 r F out es) (joinParts (mkS out) (evalEach es env)) (VR C.τ):=uAg.fail (by rw [h];rfl)
theorem uTv(S:Snd C r n):∀ (es:List Expr) (out:List Nat) {own:Own} {σ:St} {s:Shared},uBj C G B A F own env n→uAs C G B own σ s.heap→uAg C G B A own σ s (uB4 r F out es) (joinParts (mkS out) (evalEach es env)) (VR C.τ):=by
 intro zz;induction zz with
 | nil=>
  intro out own σ s H R;by_cases hl:out.length≤lz
  ·refine ⟨fun Q E gd=>PyProof.Rows.joinParts_nil ?_ (by rw [uBq];exact uBa hl)⟩;exact gd.ok (tk':=s.toks+1) (show uB4 r F out [] σ=some (.ok (.str out none),σ) by show strV out σ=_;unfold strV;rw [if_pos hl];rfl) (List.prefix_refl _) R (.str _ _ _ (uBa hl) (fun _ e=>nomatch e))
  ·exact uAg.fail (by show strV out σ=_;unfold strV;rw [if_neg hl];rfl)
 | cons e es ih=>
  intro out own σ s H R;induction e using PySem.Expr.casesOn with
  | Constant c k p=>
   cases c with
   | str x=>
    by_cases hl:(out++tl x).length≤lz
    ·have e0:uB4 r F out (.Constant (.str x) k p::es)=uB4 r F (out++tl x) es:=by
      show (if (out++tl x).length≤lz then _ else _)=_;rw [if_pos hl]
     rw [e0];refine ⟨fun Q E gd=>PyProof.Rows.joinParts_cons ?_⟩;have hx:(tl x).length≤lz:=by rw [List.length_append] at hl;lia
     refine uP0 R hx fun tk=>?_;have ea:mkS out++x=mkS (out++tl x):=by rw [← uE4,uLm]
     refine ⟨by rw [ea,uBq];exact uBa hl,?_⟩;rw [ea];exact (ih (out++tl x) (s:={ s with toks:=s.toks+1 }) H R).go Q E gd
    ·exact uEk (by show (if (out++tl x).length≤lz then _ else _)=_;rw [if_neg hl])
   | _=>exact uEk rfl
  | FormattedValue v c sp p=>
   by_cases hc:c=-1∧sp=none
   ·obtain ⟨rfl,rfl⟩:=hc;have e0:uB4 r F out (.FormattedValue v (-1) none p::es)=M.bind (r.ev v F) fun v=>match v with
      | .str x _=>if (out++x).length≤lz then uB4 r F (out++x) es else M.fail
      | _=>M.fail:=rfl
    rw [e0];refine ⟨fun Q E gd=>PyProof.Rows.joinParts_cons (PyProof.Rows.FormattedValue_plain ?_)⟩;refine (S.ev v H R).bindP (fun x σ1 own1 h1 tk1 rv e1 p1 R1 x1 gd1=>?_) gd;induction x1 using VR.casesOn with
    | str l g t hs hg=>
     dsimp only at gd1;by_cases hl:(out++l).length≤lz
     ·rw [if_pos hl] at gd1;refine PyProof.Rows.formatField_str (fun t' tk=>?_) (by rw [uBq];exact hs);refine ⟨by rw [uE4,uBq];exact uBa hl,?_⟩;rw [uE4];exact (ih (out++l) (s:={ s with heap:=h1,toks:=tk }) (H.grow p1) R1).go Q E gd1
     ·rw [if_neg hl] at gd1;exact gd1.elim
    | _=>exact gd1.elim
   ·refine uEk ?_;cases c with
    | ofNat n=>rfl
    | negSucc n=>induction n using Nat.casesOn with
     | succ n=>rfl
     | zero=>induction sp using Option.casesOn with
      | some _=>rfl
      | none=>exact absurd ⟨rfl,rfl⟩ hc
  | _=>exact uEk rfl
theorem uQe(S:Snd C r n)(H:uBj C G B A F own env n)(R:uAs C G B own σ s.heap){e₁ e₂:Expr}{es:List Expr}{pos:Pos}:uAg C G B A own σ s (uB4 r F [] (e₁::e₂::es)) (eval (.JoinedStr (e₁::e₂::es) pos) env) (VR C.τ):=
 uTv S (e₁::e₂::es) [] H R
theorem uG4{o:Expr}(h:uCb o=true)(attr:Str)(env:Env)(whole:Sem Value):attributeBase o attr env whole=whole:=by
 induction o using PySem.Expr.casesOn with
 | Call f args kws p=>
  cases f<;>first | rfl | exact nf h | (cases args<;>cases kws<;>first | rfl | exact nf h)
 | _=>rfl
set_option tactic.hygienic true in
theorem uWv(S:Snd C r n)(H:uBj C G B A F own env n)(R:uAs C G B own σ s.heap){o:Expr}{x:Str}{pos:Pos}:uAg C G B A own σ s (evE C.P r (.Attribute o x pos) F) (eval (.Attribute o x pos) env) (VR C.τ):=by
 by_cases hs:uCb o=true
 ·have e0:evE C.P r (.Attribute o x pos) F=M.bind (r.ev o F) fun ov=>Mine.Internal.getAttr C.P ov x:=by
   show (if uCb o=true then _ else _)=_;rw [if_pos hs]
  rw [e0,arm_eval_Attribute,uG4 hs];refine (S.ev o H R).bind fun v σ1 own1 h1 tk1 rv e1 p1 R1 x1=>.standAt ⟨fun Q E gd=>?_⟩;refine wpAny_bind (wpAny_holding ((uAg.lift R1 fun g X hg hX R1=>uGw H.X.PA (hg.ok H.X H.f) R1 x1).go _ _ ?_));unfold uAk at gd ⊢
  split
  ·rename_i e;rw [e] at gd;exact gd
  ·rename_i b σ' e;rw [e] at gd;intro own' h' tk' c p R' x;exact uOm (gd own' h' tk' c p R' x)
  ·rename_i x σ' e;rw [e] at gd;exact gd
 ·exact uAg.fail (by show (if uCb o=true then _ else (M.fail:M AV)) σ=none;rw [if_neg hs];rfl)
theorem uWx(S:Snd C r n)(H:uBj C G B A F own env n)(R:uAs C G B own σ s.heap){o i:Expr}{pos:Pos}(hi:∀ a b p,i≠.Slice a b none p) :
  uAg C G B A own σ s (M.bind (r.ev o F) fun ov=>M.bind (r.ev i F) fun iv=>Mine.Internal.getItem ov iv) (eval (.Subscript o i pos) env) (VR C.τ):=by
 rw [arm_eval_Subscript];exact (S.ev o H R).bind fun v σ1 own1 h1 tk1 rv e1 p1 R1 x1=>uAg.bind (t:=PySem.holding [rv] (eval i env)) (.holding (S.ev i (H.grow p1) R1)) fun w σ2 own2 h2 tk2 rw e2 p2 R2 x2=>
  .standAt (.lift R2 fun g X hg hX R2=>uJq hi R2 (x1.mono p2) x2)
noncomputable def optE(r:Rec)(F:FE):Option Expr→M AV
 | some e=>r.ev e F
 | none=>M.pure .none
theorem uWu(S:Snd C r n)(H:uBj C G B A F own env n)(R:uAs C G B own σ s.heap){e:Option Expr}:uAg C G B A own σ s (optE r F e) (valueOrNone (evalOpt e env)) (VR C.τ):=by
 induction e using Option.casesOn with
 | none=>exact uAg.pure R .none
 | some e=>exact S.ev e H R
set_option tactic.hygienic true in
theorem uTs(S:Snd C r n)(H:uBj C G B A F own env n)(R:uAs C G B own σ s.heap){o:Expr}{a b:Option Expr}{p pos:Pos} :
  uAg C G B A own σ s (evE C.P r (.Subscript o (.Slice a b none p) pos) F) (eval (.Subscript o (.Slice a b none p) pos) env) (VR C.τ):=by
 have e0:evE C.P r (.Subscript o (.Slice a b none p) pos) F=M.bind (r.ev o F) fun ov=>M.bind (optE r F a) fun lv=>M.bind (optE r F b) fun hv=>
   match uB6 lv,uB6 hv with
   | some l,some h=>uBh C.P ov l h
   | _,_=>M.fail:=by
  cases a<;>cases b<;>rfl
 rw [e0,arm_eval_Subscript];refine (S.ev o H R).bind fun v σ1 own1 h1 tk1 rv e1 p1 R1 x1=>⟨fun Q E gd=>?_⟩
 refine wpAny_bind (wpAny_holding ?_);rw [arm_eval_Slice];refine wpAny_bind ((uWu S (H.grow p1) R1).bindP (fun lv σ2 own2 h2 tk2 rl e2 p2 R2 x2 gd2=>?_) gd);refine wpAny_bind (wpAny_holding ((uWu S ((H.grow p1).grow p2) R2).bindP (fun hv σ3 own3 h3 tk3 rh e3 p3 R3 x3 gd3=>?_) gd2));refine wpAny_bind (wpAny_holding (show wpAny _ _ (Pure.pure Value.none) _ _ _ from wpAny_pure ?_));generalize q1:uB6 lv=zz;induction zz using Option.casesOn with
 | none=>rw [q1] at gd3;exact gd3.elim
 | some l=>
  generalize q2:uB6 hv=zz;induction zz using Option.casesOn with
  | none=>rw [q1,q2] at gd3;exact gd3.elim
  | some h=>
   rw [q1,q2] at gd3;refine Classical.byContradiction fun hn=>?_;obtain ⟨g,X,hg,hX,R3⟩:=R3;refine hn ?_;clear hn;refine uIz (hg.scr H.X R3) (base:=o) (ea:=a) (eb:=b) (p:=p) (pos:=pos) (s:={ s with heap:=h3,toks:=tk3 }) R3 (x1.mono (p2.trans p3)) (x2.mono p3) x3 q1 q2 Q E ?_;unfold uAk at gd3;unfold Good
   split
   ·rename_i e;dsimp only at gd3;rw [e] at gd3;exact gd3
   ·rename_i v' σ' e;dsimp only at gd3;rw [e] at gd3;exact fun own' h' tk' b p r' x=>gd3 own' h' tk' b p ⟨g,X,hg,hX,r'⟩ x
   ·rename_i x σ' e;dsimp only at gd3;rw [e] at gd3;exact fun own' h' tk' e p y=>gd3 own' h' tk' e p ⟨g,X,hg,hX,y⟩
end arms
end
section
section arms
variable {C:Cx}{G:Gm}{B:Bl}{A:Around}{own:Own}{σ:St}{s:Shared}{F:FE}{env:Env}{r:Rec}{n:Nat}
theorem uWc(S:Snd C r n)(H:uBj C G B A F own env n)(R:uAs C G B own σ s.heap){e:Expr}{pos:Pos}{whole:Sem Value}:uAg C G B A own σ s (tstE r (.UnaryOp .Not e pos) F) (isTrue (.UnaryOp .Not e pos) env whole) TR:=by
 rw [arm_isTrue_UnaryOp];exact (S.tst e H R).mapM (fun b=>!b) (fun b=>!b) fun φ a b x=>by subst x;rfl
theorem uP5(S:Snd C r n){op:BoolOp}:∀ (es:List Expr) {own:Own} {σ:St} {s:Shared},uBj C G B A F own env n→uAs C G B own σ s.heap→uAg C G B A own σ s (tstAll r F op es) (allTrue op es env) TR:=by
 intro zz;induction zz with
 | nil=>
  intro own σ s H R;rw [arm_allTrue_nil];exact uAg.pure R (by cases op<;>rfl)
 | cons e es ih=>
  intro own σ s H R;rw [arm_allTrue_cons];refine (S.tst e H R).bind fun b σ1 own1 h1 tk1 c e1 p1 R1 x1=>?_;subst x1;cases op<;>cases c
  ·exact uAg.pure R1 rfl
  ·exact ih (H.grow p1) R1
  ·exact ih (H.grow p1) R1
  ·exact uAg.pure R1 rfl
theorem uNs(S:Snd C r n)(H:uBj C G B A F own env n)(R:uAs C G B own σ s.heap){op:BoolOp}{es:List Expr}{pos:Pos}{whole:Sem Value}:uAg C G B A own σ s (tstE r (.BoolOp op es pos) F) (isTrue (.BoolOp op es pos) env whole) TR:=by
 rw [arm_isTrue_BoolOp];exact uP5 S es H R
theorem uU6(S:Snd C r n)(H:uBj C G B A F own env n)(R:uAs C G B own σ s.heap){e:Expr}(h1:tstE r e F=M.bind (r.ev e F) fun v=>Mine.Internal.truthy v)
  (h2:isTrue e env (eval e env)=(do let v ← eval e env;PySem.standAt e.pos;PySem.holding [v] (PySem.truthy v))):uAg C G B A own σ s (tstE r e F) (isTrue e env (eval e env)) TR:=by
 rw [h1,h2];exact (S.ev e H R).bind fun v σ1 own1 h1 tk1 rv e1 p1 R1 x1=>.standAt (.holding (.lift R1 fun g X hg hX R1=>uEw R1 x1))
theorem uU3(S:Snd C r n)(H:uBj C G B A F own env (n+1))(R:uAs C G B own σ s.heap)(e:Expr):uAg C G B A own σ s (tstE r e F) (isTrue e env (eval e env)) TR:=by
 have H':=H.less (Nat.le_succ n);induction e using PySem.Expr.casesOn with
 | UnaryOp op x p=>
  induction op using PySem.UnaryOp.casesOn with
  | Not=>exact uWc S H' R
  | _=>exact uAg.fail rfl
 | BoolOp op es p=>exact uNs S H' R
 | IfExp=>exact uAg.fail rfl
 | Compare a ops cs p=>
  match ops,cs with
  | [op],[b]=>exact uJf S H R
  | [],_=>exact uAg.fail rfl
  | [_],[]=>exact uAg.fail rfl
  | [_],_::_::_=>exact uAg.fail rfl
  | _::_::_,_=>exact uAg.fail rfl
 | _=>exact uU6 S H' R rfl rfl
end arms
end
section
section but
variable {prog:Program}{w:World}{τ:uBt}{h₀ h h':Heap}{Lc:Addr}{X own:Own}{σ:St}
theorem Rel.but(r:Rel prog w τ h₀ Lc X own σ h){I:Addr}(hL:I≠Lc)(ho:∀ p∈own,p.1≠I)(hX:∀ p∈X,p.1≠I)(h0:h₀.get? I=none)(k:∀ b o,b≠I→h.get? b=some o→h'.get? b=some o):Rel prog w τ h₀ Lc X own σ h' where
 ns:=let ⟨mc,a,b⟩:=r.ns;⟨mc,a.at' fun o q=>k _ _ (Ne.symm hL) q,b⟩
 keep:=fun b o e=>k b o (fun z=>by rw [z,h0] at e;cases e) (r.keep b o e)
 above:=r.above
 ownAt:=fun p hp=>⟨k _ _ (ho p hp) (r.ownAt p hp).1,(r.ownAt p hp).2⟩
 xAt:=fun p hp=>⟨k _ _ (hX p hp) (r.xAt p hp).1,(r.xAt p hp).2⟩
 nd:=r.nd
 off:=r.off
 objs:=r.objs
 big:=r.big
 low:=r.low
theorem Rel.xgo{I:Addr}{oI:Obj}(r:Rel prog w τ h₀ Lc ((I,oI)::X) own σ h)(hX:∀ p∈X,p.1≠I)(k:∀ b o,b≠I→h.get? b=some o→h'.get? b=some o):Rel prog w τ h₀ Lc X own σ h':=
 have m:=r.xAt (I,oI) (.head _)
 (r.xdrop (X':=X) fun p hp=>.tail _ hp).but m.2.1 (fun p hp=>r.off p hp _ (.head _)) hX m.2.2 k
end but
noncomputable def ItAt(φ:List Addr):It→Nat→Obj→Prop
 | .lst i,p,o=>∃ a,φ[i]?=some a∧o.cls=.type "list_iterator"∧o.data=.fields #[.ref a,.int p 0]
 | .tup i xs,p,o=>∃ a,φ[i]?=some a∧o.cls=.type "tuple_iterator"∧o.data=.fields #[.ref a,.int p 0]
 | .str x,p,o=>∃ t,o.cls=.type "str_ascii_iterator"∧o.data=.fields #[.str (mkS x) t,.int p 0]
 | .rng a b,p,o=>o={ cls:=.type "range_iterator",data:=.fields #[rawInt (a+(p:Int)),rawInt (((b-a).toNat:Int)-p),rawInt 1] }∧p≤(b-a).toNat
 | .keys d ks,p,o=>∃ a,φ[d]?=some a∧o.cls=.type "dict_keyiterator"∧o.data=.fields #[.ref a,.int p 0,.int ks.length 0,.int ks.length 0]
 | .vals d n,p,o=>∃ a,φ[d]?=some a∧o.cls=.type "dict_valueiterator"∧o.data=.fields #[.ref a,.int p 0,.int n 0,.int n 0]
theorem ItAt.mono{φ ψ:List Addr}(p:φ<+:ψ){it:It}{k:Nat}{o:Obj}(q:ItAt φ it k o):ItAt ψ it k o:=by
 induction it using It.casesOn with
 | str=>exact q
 | rng=>exact q
 | _=>obtain ⟨a,h,r⟩:=q;exact ⟨a,uA6 p h,r⟩
section iter
variable {C:Cx}{G:Gm}{Lc:Addr}{X:Own}{A:Around}{own:Own}{σ:St}{s:Shared}
noncomputable def Step(C:Cx)(G:Gm)(Lc:Addr)(X own:Own)(σ:St)(I:Addr)(it:It)(p:Nat):Option AV→Option Value→Heap→Prop
 | none,rv,h'=>rv=none∧uA5 C G ⟨Lc,X⟩ own σ h'
 | some v,rv,h'=>∃ u oI,rv=some u∧VR C.τ (adr own) v u∧uA5 C G ⟨Lc,(I,oI)::X⟩ own σ h'∧ItAt (adr own) it (p+1) oI
theorem uVu{prog:Program}{w:World}{k:Str}{v:Value}(h:(PySem.strKind prog w).is k v=true) : ∃ t,v=.str k t:=by
 have:v.isStrOf k=true:=h;cases v<;>simp [Value.isStrOf] at this;exact ⟨_,by rw [this]⟩
inductive AtV(σ:St):It→Nat→Option AV→Prop
 | lst {i p:Nat} {xs:List AV}:σ.H[i]?=some (.list xs)→AtV σ (.lst i) p xs[p]?
 | tup {i p:Nat} {xs ys:List AV}:σ.H[i]?=some (.tup xs)→AtV σ (.tup i ys) p xs[p]?
 | str {l:List Nat} {p:Nat}:AtV σ (.str l) p ((l[p]?).map fun c=>.str [c] none)
 | rng {a b:Int} {p:Nat}:AtV σ (.rng a b) p (if (p:Int)<b-a then some (.int (a+(p:Int))) else none)
 | keyE {d p:Nat} {es:List (List Nat×AV)}:σ.H[d]?=some (.dict es true)→(es.map (·.1))[p]?=none→AtV σ (.keys d (es.map (·.1))) p none
 | key {d p:Nat} {es:List (List Nat×AV)} {k:List Nat}:σ.H[d]?=some (.dict es true)→(es.map (·.1))[p]?=some k→k.length≤lz→AtV σ (.keys d (es.map (·.1))) p (some (.str k none))
 | val {d p:Nat} {es:List (List Nat×AV)}:σ.H[d]?=some (.dict es true)→AtV σ (.vals d es.length) p ((es[p]?).map (·.2))
theorem uX5{o:AO}{g:List (List Nat×AV)}(h:pDt o=some g):o=.dict g true:=by
 induction o using AO.casesOn with
 | dict es b=>cases b<;>cases h;rfl
 | _=>cases h
theorem uLi{o:Option AO}{g:List (List Nat×AV)}(h:o.bind pDt=some g):o=some (.dict g true):=by obtain ⟨a,rfl,e⟩:=Option.bind_eq_some_iff.mp h;rw [uX5 e]
theorem uE1{i p:Nat}{σ σ':St}{z:Res (Option AV)}(h:(It.lst i).at p σ=some (z,σ')):σ'=σ∧∃ xs,σ.H[i]?=some (.list xs)∧z=.ok xs[p]?:=by
 obtain ⟨xs,e,h⟩:=Option.map_eq_some_iff.mp h;cases h;exact ⟨rfl,xs,uL9 e,rfl⟩
theorem uLy{β:Type}{c:Prop}[Decidable c]{a:Option β}{r:β}(h:(if c then a else none)=some r):c∧a=some r:=by
 by_cases q:c
 ·rw [if_pos q] at h;exact ⟨q,h⟩
 ·rw [if_neg q] at h;cases h
theorem uO8{it:It}{p:Nat}{σ σ':St}{z:Res (Option AV)}(h:it.at p σ=some (z,σ')):σ'=σ∧∃ x,z=.ok x∧AtV σ it p x:=by
 induction it using It.casesOn with
 | lst i=>obtain ⟨rfl,xs,e,rfl⟩:=uE1 h;exact ⟨rfl,_,rfl,.lst e⟩
 | tup i ys=>
  obtain ⟨xs,e,h⟩:=Option.bind_eq_some_iff.mp h;obtain ⟨_,h⟩:=uLy h;cases h;exact ⟨rfl,_,rfl,.tup (uUc e)⟩
 | str l=>cases h;exact ⟨rfl,_,rfl,.str⟩
 | rng a b=>cases h;exact ⟨rfl,_,rfl,.rng⟩
 | keys d ks=>
  obtain ⟨es,e,h⟩:=Option.bind_eq_some_iff.mp h;obtain ⟨hk,h⟩:=uLy h;subst hk;generalize e2:(es.map (·.1))[p]?=zz;induction zz using Option.casesOn with
  | none=>rw [e2] at h;cases h;exact ⟨rfl,_,rfl,.keyE (uLi e) e2⟩
  | some k=>
   rw [e2] at h;obtain ⟨hl,h⟩:=uLy h;cases h;exact ⟨rfl,_,rfl,.key (uLi e) e2 hl⟩
 | vals d n=>
  obtain ⟨es,e,h0⟩:=Option.bind_eq_some_iff.mp h;obtain ⟨hk,h1⟩:=uLy h0;clear h0 h;subst hk;cases h1;exact ⟨rfl,_,rfl,.val (uLi e)⟩
theorem uTl(hh:A.handled=none){I:Addr}{oI:Obj}{it:It}{p:Nat}{x:Option AV}(r:uA5 C G ⟨Lc,(I,oI)::X⟩ own σ s.heap)(hX:∀ q∈X,q.1≠I)(hi:ItAt (adr own) it p oI)(hx:it.at p σ=some (.ok x,σ))
  {Q:Option Value→Shared→Prop} {E:Value→Shared→Prop} (h:∀ rv h' tk,Step C G Lc X own σ I it p x rv h'→Q rv { s with heap:=h',toks:=tk }):wpAny (model C.prog C.w) A (pyNext (.ref I)) Q E s:=by
 have hI:=(r.xAt (I,oI) (.head _)).1;have go:∀ h',Heap.ExtBut I s.heap h'→uA5 C G ⟨Lc,X⟩ own σ h':=fun h' e=>r.xgo hX fun b o hb z=>e b o hb z;have on:∀ h' o',Heap.SameBut I s.heap h'→h'.get? I=some o'→uA5 C G ⟨Lc,(I,o')::X⟩ own σ h':=fun h' o' e z=>r.xupd hX (fun b o hb q=>(e.2 b hb).trans q) z;obtain ⟨_,y,ey,V⟩:=uO8 hx;clear hx;cases ey;cases V with
 | @lst i _ xs e1=>
  refine Classical.byContradiction fun hn=>?_;obtain ⟨a,ha,c,d⟩:=hi;refine hn ?_;clear hn;refine Classical.byContradiction fun hn=>?_;obtain ⟨vs,n,l1,v1,z1,_⟩:=uAv r e1 ha;refine hn ?_;clear hn;have hit:s.heap.IsListIter I a p:=⟨_,hI,c,d⟩
  generalize e2:(xs[p]?)=zz;induction zz using Option.casesOn with
  | none=>
   have w1:(List.toArray vs)[p]?=none:=by have:=uEe v1 e2;simpa using this
   exact wpAny_pyNext_list_end hh hit (uAm l1) w1 fun h' e=>h none h' s.toks (by rw [e2];exact ⟨rfl,go h' e⟩)
  | some v=>
   obtain ⟨u,w1,w2⟩:=uJe v1 e2;refine wpAny_pyNext_list_item hit (uAm l1) w1 fun h' e1' e2'=>h (some u) h' s.toks ?_;refine Classical.byContradiction fun hn=>?_;obtain ⟨o',z1,z2,z3⟩:=e1';refine hn ?_;clear hn;rw [e2];exact ⟨u,o',rfl,w2,on h' o' e2' z1,a,ha,z2,z3⟩
 | @tup i _ xs ys e1=>
  obtain ⟨a,ha,c,d⟩:=hi;obtain ⟨vs,n,l1,v1,z1,_⟩:=uD3 r e1 ha;have hit:s.heap.IsTupleIter I a p:=⟨_,hI,c,d⟩
  generalize e2:(xs[p]?)=zz;induction zz using Option.casesOn with
  | none=>
   have w1:(List.toArray vs)[p]?=none:=by have:=uEe v1 e2;simpa using this
   exact wpAny_pyNext_tuple_end hh hit (uBl l1) w1 fun h' e=>h none h' s.toks (by rw [e2];exact ⟨rfl,go h' e⟩)
  | some v=>
   refine Classical.byContradiction fun hn=>?_;obtain ⟨u,w1,w2⟩:=uJe v1 e2;refine hn ?_;clear hn;refine wpAny_pyNext_tuple_item hit (uBl l1) w1 fun h' e1' e2'=>h (some u) h' s.toks ?_;obtain ⟨o',z1,z2,z3⟩:=e1';rw [e2];exact ⟨u,o',rfl,w2,on h' o' e2' z1,a,ha,z2,z3⟩
 | @str l _=>
  obtain ⟨t,c,d⟩:=hi;have hit:s.heap.IsStrIter I "str_ascii_iterator" (mkS l) t p:=⟨_,hI,c,d⟩
  generalize e2:(l[p]?)=zz;induction zz using Option.casesOn with
  | none=>exact wpAny_pyNext_ascii_end hh hit (by show l.toArray[p]?=none;simpa using e2) fun h' e=>h none h' s.toks (by rw [e2];exact ⟨rfl,go h' e⟩)
  | some ch=>
   refine wpAny_pyNext_ascii_item hit (c:=ch) (by show l.toArray[p]?=some ch;simpa using e2) fun h' e1' e2'=>h _ h' _ ?_;refine Classical.byContradiction fun hn=>?_;obtain ⟨o',z1,z2,z3⟩:=e1';refine hn ?_;clear hn;rw [e2];exact ⟨_,o',rfl,.str [ch] none _ (by show 1≤sizeLine;decide) (fun _ e=>nomatch e),on h' o' e2' z1,t,z2,z3⟩
 | @rng a b _=>
  obtain ⟨c,d⟩:=hi;subst c;have hit:IsRangeIter s.heap I (a+(p:Int)) (((b-a).toNat:Int)-p) 1:=hI;by_cases hp:(p:Int)<b-a
  ·refine wpAny_pyNext_range_item hit (by lia) fun h' e1' e2'=>h _ h' _ ?_;rw [if_pos hp];refine ⟨_,_,rfl,.int _ _,on h' _ e2' e1',?_,by lia⟩;have q1:a+(p:Int)+1=a+((p+1:Nat):Int):=by lia
   have q2:((b-a).toNat:Int)-p-1=((b-a).toNat:Int)-((p+1:Nat):Int):=by lia
   rw [q1,q2]
  ·refine wpAny_pyNext_range_end hh hit (by lia) fun h' e=>h none h' s.toks ?_;rw [if_neg hp];exact ⟨rfl,go h' e⟩
 | @keyE dd _ es e1 e2=>
  obtain ⟨a,ha,c,d⟩:=hi;obtain ⟨bb,ob,h1,h2,h3,x1⟩:=r.at e1;rw [ha] at h2;cases h2;obtain ⟨kvs,ep,hd,hent,hep⟩:=uC0 h3 x1;have hl:kvs.length=(es.map (·.1)).length:=by rw [uCh hent,List.length_map]
  have hep':ep=kvs.length:=by rw [hep rfl,uCh hent]
  have hit:s.heap.IsKeyIter I a p kvs.length ep:=⟨_,hI,c,by rw [hep',hl];exact d⟩
  have w1:kvs[p]?=none:=by rw [List.getElem?_eq_none_iff] at e2 ⊢;rw [hl];exact e2
  exact wpAny_pyNext_dict_end hh hit hd w1 fun h' e=>h none h' s.toks ⟨rfl,go h' e⟩
 | @key dd _ es k e1 e2 hkl=>
  obtain ⟨a,ha,c,d⟩:=hi;obtain ⟨bb,ob,h1,h2,h3,x1⟩:=r.at e1;rw [ha] at h2;cases h2;obtain ⟨kvs,ep,hd,hent,hep⟩:=uC0 h3 x1;have hl:kvs.length=(es.map (·.1)).length:=by rw [uCh hent,List.length_map]
  have hep':ep=kvs.length:=by rw [hep rfl,uCh hent]
  have hit:s.heap.IsKeyIter I a p kvs.length ep:=⟨_,hI,c,by rw [hep',hl];exact d⟩
  have e3 : ∃ v,es[p]?=some (k,v):=by
   rw [List.getElem?_map] at e2;generalize q:(es[p]?)=zz;induction zz using Option.casesOn with
   | none=>rw [q] at e2;cases e2
   | some kv=>rw [q] at e2;cases e2;exact ⟨kv.2,rfl⟩
  obtain ⟨v,e3⟩:=e3;obtain ⟨⟨k',rv⟩,w1,w2,w3⟩:=uDo hent e3;simp only at w2;subst w2;refine wpAny_pyNext_dict_item hit hd w1 fun key h' hk e1' e2'=>h (some key) h' s.toks ?_;obtain ⟨t,rfl⟩:=uVu hk;obtain ⟨o',z1,z2,z3⟩:=e1';refine ⟨_,o',rfl,.str k none t (uBa hkl) (fun _ e=>nomatch e),on h' o' e2' z1,a,ha,z2,?_⟩;rw [hep',hl] at z3;exact z3
 | @val dd _ es e1=>
  obtain ⟨a,ha,c,d⟩:=hi;obtain ⟨bb,ob,h1,h2,h3,x1⟩:=r.at e1;rw [ha] at h2;cases h2;obtain ⟨kvs,ep,hd,hent,hep⟩:=uC0 h3 x1;have hl:kvs.length=es.length:=by rw [uCh hent]
  have hep':ep=kvs.length:=by rw [hep rfl,uCh hent]
  have hit:s.heap.IsValIter I a p kvs.length ep:=⟨_,hI,c,by rw [hep',hl];exact d⟩
  generalize e2:(es[p]?)=zz;induction zz using Option.casesOn with
  | none=>
   have w1:kvs[p]?=none:=uEe hent e2;exact wpAny_pyNext_values_end hh hit hd w1 fun h' e=>h none h' s.toks (by rw [e2];exact ⟨rfl,go h' e⟩)
  | some kv=>
   obtain ⟨⟨k',rv⟩,w1,w2,w3⟩:=uDo hent e2;refine wpAny_pyNext_values_item hit hd w1 fun h' e1' e2'=>h (some rv) h' s.toks ?_;obtain ⟨o',z1,z2,z3⟩:=e1';rw [e2];refine ⟨_,o',rfl,w3,on h' o' e2' z1,a,ha,z2,?_⟩;rw [hep',hl] at z3;exact z3
inductive IterV(σ:St):AV→It→Prop
 | str {l:List Nat} {g:Option Nat}:l.all (· < 128)=true→IterV σ (.str l g) (.str l)
 | lst {i:Nat} {xs:List AV}:σ.H[i]?=some (.list xs)→IterV σ (.ref i) (.lst i)
 | tup {i:Nat} {xs:List AV}:σ.H[i]?=some (.tup xs)→IterV σ (.ref i) (.tup i xs)
 | rng {i:Nat} {a b:Int}:σ.H[i]?=some (.rng a b)→(small a&&small b)=true→IterV σ (.ref i) (.rng a b)
 | keys {i:Nat} {es:List (List Nat×AV)}:σ.H[i]?=some (.dict es true)→IterV σ (.ref i) (.keys i (es.map (·.1)))
 | vals {i d:Nat} {es:List (List Nat×AV)}:σ.H[i]?=some (.dvals d)→σ.H[d]?=some (.dict es true)→IterV σ (.ref i) (.vals d es.length)
theorem uJn{x:AV}{z:Res It}{σ σ':St}(h:uB8 x σ=some (z,σ')):σ'=σ∧∃ it,z=.ok it∧IterV σ x it:=by
 induction x using AV.casesOn with
 | str l g=>obtain ⟨hl,h⟩:=uLy h;cases h;exact ⟨rfl,_,rfl,.str hl⟩
 | ref i=>
  obtain ⟨it,e,h⟩:=Option.map_eq_some_iff.mp h;cases h;refine ⟨rfl,it,rfl,?_⟩;obtain ⟨o,e1,e2⟩:=Option.bind_eq_some_iff.mp e;clear e;induction o using AO.casesOn with
  | list xs=>cases e2;exact .lst e1
  | tup xs=>cases e2;exact .tup e1
  | rng a b=>obtain ⟨hl,e2⟩:=uLy e2;cases e2;exact .rng e1 hl
  | dict es g=>cases g<;>cases e2;exact .keys e1
  | dvals d=>obtain ⟨es,e,h⟩:=Option.map_eq_some_iff.mp e2;subst h;exact .vals e1 (uLi e)
  | _=>cases e2
 | _=>cases h
theorem VR.ref'{τ:uBt}{φ:List Addr}{i:Nat}{u:Value}(h:VR τ φ (.ref i) u) : ∃ a,u=.ref a∧φ[i]?=some a:=by
 cases h with | ref h=>exact ⟨_,rfl,h⟩
theorem uV2(hsm:True)(r:uA5 C G ⟨Lc,X⟩ own σ s.heap){x:AV}{u:Value}(hx:VR C.τ (adr own) x u){it:It}{σ':St}(hi:uB8 x σ=some (.ok it,σ'))
  {Q:Value→Shared→Prop} {E:Value→Shared→Prop} (h:∀ I oI h' tk,σ'=σ→uA5 C G ⟨Lc,(I,oI)::X⟩ own σ h'→(∀ q∈X,q.1≠I)→ItAt (adr own) it 0 oI→Q (.ref I) { s with heap:=h',toks:=tk }) :
  wpAny (model C.prog C.w) A (pyIter u) Q E s:=by
 have push:∀ oI:Obj,oI.isFreed=false→uA5 C G ⟨Lc,(s.heap.objs.size,oI)::X⟩ own σ (s.heap.push oI)∧∀ q∈X,q.1≠s.heap.objs.size:=fun oI hf=>
  r.xnew (fun _ _ e=>Heap.get?_push_of_some _ e) (Heap.get?_push_size _ hf) uJh
 obtain ⟨e0,y,ey,V⟩:=uJn hi;subst e0;clear hi;cases ey;induction V using IterV.casesOn with
 | @str l g ha=>
  obtain ⟨t,rfl⟩:=hx.str';refine wpAny_pyIter_ascii (by simpa using ha) ?_;obtain ⟨r1,r2⟩:=push { cls:=.type "str_ascii_iterator",data:=.fields #[.str (mkS l) t,.int 0 0] } rfl;exact h _ _ _ s.toks rfl r1 r2 ⟨t,rfl,rfl⟩
 | @lst i xs e1=>
  obtain ⟨a,rfl,ha⟩:=hx.ref';obtain ⟨vs,n,l1,v1,z1,_⟩:=uAv r e1 ha;refine wpAny_pyIter_list (uAm l1) ?_;obtain ⟨r1,r2⟩:=push { cls:=.type "list_iterator",data:=.fields #[.ref a,.int 0 0] } rfl;exact h _ _ _ s.toks rfl r1 r2 ⟨a,ha,rfl,rfl⟩
 | @tup i xs e1=>
  obtain ⟨a,rfl,ha⟩:=hx.ref';obtain ⟨vs,n,l1,v1,z1,_⟩:=uD3 r e1 ha;refine wpAny_pyIter_tuple (uBl l1) ?_;obtain ⟨r1,r2⟩:=push { cls:=.type "tuple_iterator",data:=.fields #[.ref a,.int 0 0] } rfl;exact h _ _ _ s.toks rfl r1 r2 ⟨a,ha,rfl,rfl⟩
 | @rng i lo hi' e1 hsm'=>
  obtain ⟨a,rfl,ha⟩:=hx.ref';obtain ⟨c,ob,h1,h2,h3,t,u',v,x2⟩:=r.at e1;rw [ha] at h2;cases h2;subst x2;simp only [small,Bool.and_eq_true,decide_eq_true_eq] at hsm';refine wpAny_pyIter_range h3 (small_one (by lia) (by lia) (by lia) (by lia)) ?_;have hn:Builtin.Range.rangeSize lo hi' 1=((hi'-lo).toNat:Nat):=by
   unfold Builtin.Range.rangeSize;rw [if_pos (by decide)]
   split
   ·rw [Int.ediv_one];lia
   ·lia
  rw [hn];obtain ⟨r1,r2⟩:=push { cls:=.type "range_iterator",data:=.fields #[rawInt lo,rawInt ((hi'-lo).toNat:Nat),rawInt 1] } rfl;refine h _ _ _ s.toks rfl r1 r2 ⟨?_,Nat.zero_le _⟩;have q1:lo+((0:Nat):Int)=lo:=by lia
  have q2:((hi'-lo).toNat:Int)-((0:Nat):Int)=((hi'-lo).toNat:Int):=by lia
  rw [q1,q2]
 | @keys i es e1=>
  obtain ⟨a,rfl,ha⟩:=hx.ref';obtain ⟨b,ob,h1,h2,h3,x1⟩:=r.at e1;rw [ha] at h2;cases h2;obtain ⟨kvs,ep,hd,hent,hep⟩:=uC0 h3 x1;have hn:=uH6 r (List.mem_of_getElem? h1);refine wpAny_pyIter_dict hn hd ?_;have hl:kvs.length=es.length:=uCh hent;rw [hep rfl,hl];obtain ⟨r1,r2⟩:=push { cls:=.type "dict_keyiterator",data:=.fields #[.ref a,.int 0 0,.int es.length 0,.int es.length 0] } rfl;exact h _ _ _ s.toks rfl r1 r2 ⟨a,ha,rfl,by rw [List.length_map];rfl⟩
 | @vals i d es e1 e2=>
  obtain ⟨a,rfl,ha⟩:=hx.ref';obtain ⟨b,ob,h1,h2,h3,da,y1,y2,y3⟩:=r.at e1;rw [ha] at h2;cases h2;obtain ⟨b',ob',h1',h2',h3',x1⟩:=r.at e2;rw [y1] at h2';cases h2';obtain ⟨kvs,ep,hd,hent,hep⟩:=uC0 h3' x1;refine wpAny_pyIter_values ⟨_,h3,y2,y3⟩ hd ?_;have hl:kvs.length=es.length:=uCh hent;rw [hep rfl,hl];obtain ⟨r1,r2⟩:=push { cls:=.type "dict_valueiterator",data:=.fields #[.ref da,.int 0 0,.int es.length 0,.int es.length 0] } rfl;exact h _ _ _ s.toks rfl r1 r2 ⟨da,y1,rfl,rfl⟩
end iter
end
section
section blocks
variable {prog:Program}{w:World}{τ:uBt}{h₀ h h':Heap}{Lc L:Addr}{X own:Own}{σ:St}
theorem Rel.enter(r:Rel prog w τ h₀ Lc X own σ h){oL:Obj}(ho:h.get? Lc=some oL){t:String}:Rel prog w τ h₀ h.objs.size ((Lc,oL)::X) own ⟨[],σ.H⟩ (h.push { cls:=.type t,data:=.dict #[] }) where
 ns:=⟨fun _=>none,Heap.Ns.new h (.type t),fun x v e=>by cases e⟩
 keep:=fun b o e=>Heap.get?_push_of_some _ (r.keep b o e)
 above:=r.base_lt
 ownAt:=fun p hp=>⟨Heap.get?_push_of_some _ (r.ownAt p hp).1,Nat.ne_of_lt (Heap.lt_size (r.ownAt p hp).1),(r.ownAt p hp).2.2⟩
 xAt:=fun p hp=>by
  rcases List.mem_cons.mp hp with rfl|hp
  ·exact ⟨Heap.get?_push_of_some _ ho,Nat.ne_of_lt (Heap.lt_size ho),uA8 r.above⟩
  ·exact ⟨Heap.get?_push_of_some _ (r.xAt p hp).1,Nat.ne_of_lt (Heap.lt_size (r.xAt p hp).1),(r.xAt p hp).2.2⟩
 nd:=r.nd
 off:=fun p hp q hq=>by
  rcases List.mem_cons.mp hq with rfl|hq
  ·exact (r.ownAt p hp).2.1
  ·exact r.off p hp q hq
 objs:=r.objs
 big:=r.big
 low:=r.low
end blocks
noncomputable def uD5:List (Str×NameKind)→Nat
 | []=>0
 | (_,k)::ns=>if k=.cell then uD5 ns+1 else uD5 ns
noncomputable abbrev uDk:Obj:={ cls:=.type "cell",data:=.cell none }
inductive CNew(C:Cx)(G:Gm)(B:Bk)(own:Own)(σ:St)(h:Heap)(ns:List (Str×NameKind))(acc:List (Str×Addr)):Prop
 | mk (cs:List (Str×Nat)) (own':Own):(∀ l,uCs ns ⟨l,σ.H⟩=some (.ok cs,⟨l,σ.H++List.replicate (uD5 ns) (.cell none)⟩))→adr own<+:adr own'→uA5 C G B own' ⟨σ.L,σ.H++List.replicate (uD5 ns) (.cell none)⟩ (pushCells h ns)→
   (∀ x i,cs.lookup x=some i→∃ c,(cellsFrom h.objs.size ns acc).lookup x=some c∧(adr own')[i]?=some c)→(∀ x,cs.lookup x=none→(cellsFrom h.objs.size ns acc).lookup x=acc.lookup x)→(∀ x i,cs.lookup x=some i→x∈ns.map (·.1))→CNew C G B own σ h ns acc
theorem uO7{C:Cx}{G:Gm}{B:Bk}:∀ (ns:List (Str×NameKind)) {own:Own} {σ:St} {h:Heap} (acc:List (Str×Addr)),uA5 C G B own σ h→(ns.map (·.1)).Nodup→
  CNew C G B own σ h ns acc:=by
 intro zz;induction zz with
 | nil=>
  intro own σ h acc r hn;have e0:σ.H++List.replicate (uD5 []) (AO.cell none)=σ.H:=by unfold uD5;rw [List.replicate_zero,List.append_nil]
  refine ⟨[],own,?_,List.prefix_refl _,?_,?_,?_,?_⟩
  ·intro l;rw [e0];rfl
  ·rw [e0];exact r
  ·intro x i e;cases e
  ·intro x _;rfl
  ·intro x i e;cases e
 | cons zq ns ih=>
  obtain ⟨y,k⟩:=zq;intro own σ h acc r hn;rw [List.map_cons,List.nodup_cons] at hn;by_cases hk:k=.cell
  ·subst hk;have r':=r.push (ob:=uDk) (o:=.cell none) ⟨none,rfl,.none⟩;obtain ⟨cs,own',e1,e2,e3,e4,e5,e6⟩:=ih ((y,h.objs.size)::acc) r' hn.2;have hz:(h.push uDk).objs.size=h.objs.size+1:=Heap.size_push ..;rw [hz] at e4 e5;have q1:σ.H++[AO.cell none]++List.replicate (uD5 ns) (AO.cell none)=σ.H++List.replicate (uD5 ((y,NameKind.cell)::ns)) (AO.cell none):=by
    have:uD5 ((y,NameKind.cell)::ns)=uD5 ns+1:=rfl;rw [this,List.replicate_succ,List.append_assoc];rfl
   have q2:cellsFrom h.objs.size ((y,NameKind.cell)::ns) acc=cellsFrom (h.objs.size+1) ns ((y,h.objs.size)::acc):=rfl;have q3:pushCells h ((y,NameKind.cell)::ns)=pushCells (h.push uDk) ns:=rfl;have hy:cs.lookup y=none:=by
    generalize q:cs.lookup y=zz;induction zz using Option.casesOn with
    | none=>rfl
    | some i=>exact absurd (e6 y i q) hn.1
   refine ⟨(y,σ.H.length)::cs,own',?_,(uAj _ _).trans e2,?_,?_,?_,?_⟩
   ·intro l;show (if NameKind.cell=NameKind.cell then _ else _:M (List (Str×Nat))) ⟨l,σ.H⟩=_;rw [if_pos rfl];unfold M.bind newN;dsimp only;have e1':=e1 l;dsimp only at e1';rw [e1'];rw [← q1];rfl
   ·rw [← q1,q3];exact e3
   ·intro x i hx;rw [List.lookup_cons] at hx;by_cases hxy:x=y
    ·subst hxy;rw [beq_self_eq_true] at hx;cases hx;refine ⟨h.objs.size,?_,uA6 e2 (by rw [← r.len];exact uIe own _ _)⟩;rw [q2,e5 x hy,List.lookup_cons,beq_self_eq_true]
    ·rw [beq_false_of_ne hxy] at hx;rw [q2];exact e4 x i hx
   ·intro x hx;rw [List.lookup_cons] at hx;by_cases hxy:x=y
    ·subst hxy;rw [beq_self_eq_true] at hx;cases hx
    ·rw [beq_false_of_ne hxy] at hx;rw [q2,e5 x hx,List.lookup_cons,beq_false_of_ne hxy]
   ·intro x i hx;rw [List.lookup_cons] at hx;by_cases hxy:x=y
    ·subst hxy;exact .head _
    ·rw [beq_false_of_ne hxy] at hx;exact .tail _ (e6 x i hx)
  ·obtain ⟨cs,own',e1,e2,e3,e4,e5,e6⟩:=ih acc r hn.2;have hk':(k==NameKind.cell)=false:=by simpa using hk
   have q0:uD5 ((y,k)::ns)=uD5 ns:=by
    show (if k=NameKind.cell then _ else _)=_;rw [if_neg hk]
   have q2:cellsFrom h.objs.size ((y,k)::ns) acc=cellsFrom h.objs.size ns acc:=by
    show (if (k==NameKind.cell)=true then _ else _)=_;rw [hk'];rfl
   have q3:pushCells h ((y,k)::ns)=pushCells h ns:=by
    show (if (k==NameKind.cell)=true then _ else _)=_;rw [hk'];rfl
   refine ⟨cs,own',?_,e2,by rw [q0,q3];exact e3,fun x i hx=>by rw [q2];exact e4 x i hx,fun x hx=>by rw [q2];exact e5 x hx,fun x i hx=>.tail _ (e6 x i hx)⟩;intro l;show (if k=NameKind.cell then _ else uCs ns:M (List (Str×Nat))) ⟨l,σ.H⟩=_;rw [if_neg hk,q0];exact e1 l
end
section
noncomputable def clOf(env:Env):List (Str×NameKind)→List (Str×Addr)→List (Str×Addr)
 | [],acc=>acc
 | (n,k)::r,acc=>if k=.free then clOf env r ((n,(env.cells.lookup n).getD 0)::acc) else clOf env r acc
theorem uPt(env:Env)(f:Str×NameKind→List (Str×Addr)→Sem (ForInStep (List (Str×Addr))))
  (hf:∀ n k cs,f (n,k) cs=if (k == .free)=true then (do let c ← cellOf env n;pure (.yield ((n,c)::cs))) else pure (.yield cs)) :
  ∀ (ns:List (Str×NameKind)) (acc:List (Str×Addr)),(∀ x∈ns,x.2=.free→(env.cells.lookup x.1).isSome=true)→forIn ns acc f=(pure (clOf env ns acc):Sem _):=by
 intro zz;induction zz with
 | nil=>
  intro acc _;rw [List.forIn_nil];rfl
 | cons zq r ih=>
  obtain ⟨n,k⟩:=zq;intro acc h;rw [List.forIn_cons,hf];have hr:=ih;by_cases hk:k=.free
  ·subst hk;obtain ⟨c,hc⟩:=Option.isSome_iff_exists.mp (h (n,.free) (.head _) rfl);have e1:cellOf env n=pure c:=by unfold cellOf;dsimp only at hc;rw [hc]
   rw [if_pos (by rfl),e1];show forIn r ((n,c)::acc) f=_;rw [hr _ fun x hx=>h x (.tail _ hx)];have e2:clOf env ((n,NameKind.free)::r) acc=clOf env r ((n,(env.cells.lookup n).getD 0)::acc):=rfl;dsimp only at hc;rw [e2,hc];rfl
  ·have:(k==NameKind.free)=false:=by simpa using hk
   rw [this,if_neg (by decide)];show forIn r acc f=_;rw [hr _ fun x hx=>h x (.tail _ hx)]
   conv=>rhs;unfold clOf
   rw [if_neg hk]
theorem uI4{scope:Scope}{env:Env}(h:∀ x∈scope.names,x.2=.free→(env.cells.lookup x.1).isSome=true):closureFor scope env=pure (clOf env scope.names []):=by
 unfold closureFor;dsimp only;rw [uPt env _ (fun n k cs=>by cases hk:k==NameKind.free<;>simp [hk]) scope.names [] h];rfl
theorem uVn{F:FE}{env:Env}{φ:List Addr}(hc:∀ x i,F.cells.lookup x=some i→∃ c,env.cells.lookup x=some c∧φ[i]?=some c) :
  ∀ (ns:List (Str×NameKind)) (acc:List (Str×Addr)) {fc:List (Str×Nat)},uBc F ns=some fc→(ns.map (·.1)).Nodup→
   (∀ x∈ns,x.2=.free→(env.cells.lookup x.1).isSome=true)∧(∀ x i,fc.lookup x=some i→∃ c,(clOf env ns acc).lookup x=some c∧φ[i]?=some c)∧(∀ x,fc.lookup x=none→(clOf env ns acc).lookup x=acc.lookup x)∧∀ x i,fc.lookup x=some i→x∈ns.map (·.1):=by
 intro zz;induction zz with
 | nil=>
  intro acc fc h hn;cases h;exact ⟨fun x hx=>(by cases hx),fun x i e=>(by cases e),fun x _=>rfl,fun x i e=>(by cases e)⟩
 | cons zq ns ih=>
  obtain ⟨y,k⟩:=zq;intro acc fc h hn;rw [List.map_cons,List.nodup_cons] at hn;by_cases hk:k=.free
  ·subst hk;have h':(match F.cells.lookup y with | some i=>(uBc F ns).map ((y,i)::·) | none=>none)=some fc:=h;generalize q1:F.cells.lookup y=zz;induction zz using Option.casesOn with
   | none=>rw [q1] at h';cases h'
   | some i=>
    rw [q1] at h';obtain ⟨fc',q2,rfl⟩:=Option.map_eq_some_iff.mp h';obtain ⟨c,c1,c2⟩:=hc y i q1;obtain ⟨a1,a2,a3,a4⟩:=ih ((y,(env.cells.lookup y).getD 0)::acc) q2 hn.2;have hy:fc'.lookup y=none:=by
     generalize q:fc'.lookup y=zz;induction zz using Option.casesOn with
     | none=>rfl
     | some j=>exact absurd (a4 y j q) hn.1
    have e0:clOf env ((y,NameKind.free)::ns) acc=clOf env ns ((y,(env.cells.lookup y).getD 0)::acc):=rfl;refine ⟨?_,?_,?_,?_⟩
    ·intro x hx hxk;rcases List.mem_cons.mp hx with rfl|hx
     ·rw [c1];rfl
     ·exact a1 x hx hxk
    ·intro x j hx;rw [List.lookup_cons] at hx;by_cases hxy:x=y
     ·subst hxy;rw [beq_self_eq_true] at hx;cases hx;exact ⟨c,by rw [e0,a3 x hy,List.lookup_cons,beq_self_eq_true,c1];rfl,c2⟩
     ·rw [beq_false_of_ne hxy] at hx;rw [e0];exact a2 x j hx
    ·intro x hx;rw [List.lookup_cons] at hx;by_cases hxy:x=y
     ·subst hxy;rw [beq_self_eq_true] at hx;cases hx
     ·rw [beq_false_of_ne hxy] at hx;rw [e0,a3 x hx,List.lookup_cons,beq_false_of_ne hxy]
    ·intro x j hx;rw [List.lookup_cons] at hx;by_cases hxy:x=y
     ·subst hxy;exact .head _
     ·rw [beq_false_of_ne hxy] at hx;exact .tail _ (a4 x j hx)
  ·have h':uBc F ns=some fc:=by
    have:uBc F ((y,k)::ns)=(if k=.free then _ else uBc F ns):=rfl;rw [this,if_neg hk] at h;exact h
   obtain ⟨a1,a2,a3,a4⟩:=ih acc h' hn.2;have e0:clOf env ((y,k)::ns) acc=clOf env ns acc:=by
    show (if k=.free then _ else _)=_;rw [if_neg hk]
   refine ⟨fun x hx hxk=>?_,fun x i hx=>by rw [e0];exact a2 x i hx,fun x hx=>by rw [e0];exact a3 x hx,fun x i hx=>.tail _ (a4 x i hx)⟩;rcases List.mem_cons.mp hx with rfl|hx
   ·exact absurd hxk hk
   ·exact a1 x hx hxk
section env
variable {M:Model}{A:Around}{E:Value→Shared→Prop}{s:Shared}
theorem uOa{scope:Scope}{g:Addr}{cl:List (Str×Addr)}{qual:Str}{outer:Env}{Q:Env→Shared→Prop}
  (h:Q { scope,locals:=s.heap.objs.size,globals:=g,cells:=cellsFrom (s.heap.objs.size+1) scope.names cl,qual,func:=none,code:=outer.code,frame:=outer.frame,builtins:=outer.builtins }
   { s with heap:=pushCells (s.heap.push { cls:=.type "dict",data:=.dict #[] }) scope.names }) :
  wpAny M A (newFunctionEnv scope g cl [] qual none .none (some outer)) Q E s:=by
 simp only [newFunctionEnv,Option.isSome_some,if_true];refine wpAny_bind (wpAny_alloc ?_);refine wpAny_bind (wpAny_layCells _ (fun name kind cells=>by cases hkc:kind==NameKind.cell<;>simp [hkc]) _ _ _ _ ?_);rw [List.forIn_nil];refine wpAny_bind (wpAny_pure (wpAny_pure ?_));have e:({ s with heap:=s.heap.push { cls:=.type "dict",data:=.dict #[] } }:Shared).heap.objs.size=s.heap.objs.size+1:=Heap.size_push ..;rw [e];exact h
end env
end
section
theorem uIo{scope:Scope}{env:Env}(x:Str):(relabel scope env).names.lookup x=scope.names.lookup x∨(scope.names.lookup x=some .free∧(relabel scope env).names.lookup x=some .cell):=by
 unfold relabel;dsimp only;induction scope.names with
 | nil=>exact .inl rfl
 | cons a l ih=>
  obtain ⟨n,k⟩:=a;rw [List.map_cons];dsimp only;by_cases hc:(k==NameKind.free&&env.scope.kind == .function&&env.kindOf n==some .cell)=true
  ·rw [if_pos hc];by_cases hx:x=n
   ·subst hx;simp only [Bool.and_eq_true,beq_iff_eq] at hc;refine .inr ⟨?_,?_⟩
    ·rw [List.lookup_cons,beq_self_eq_true,hc.1.1]
    ·rw [List.lookup_cons,beq_self_eq_true]
   ·have e:(x==n)=false:=beq_false_of_ne hx;simp only [List.lookup_cons,e];exact ih
  ·rw [if_neg hc];by_cases hx:x=n
   ·subst hx;refine .inl ?_;rw [List.lookup_cons,List.lookup_cons,beq_self_eq_true]
   ·have e:(x==n)=false:=beq_false_of_ne hx;simp only [List.lookup_cons,e];exact ih
theorem uOb{it:It}{p:Nat}{σ σ':St}{x:Res (Option AV)}(h:it.at p σ=some (x,σ')):σ'=σ∧∃ v,x=.ok v:=
 (uO8 h).imp_right fun h=>h.elim fun x q=>⟨x,q.1⟩
section iter
variable {C:Cx}{G:Gm}{B:Bl}{A:Around}{own:Own}{σ:St}{s:Shared}
noncomputable abbrev Bl.add(B:Bl)(I:Addr)(oI:Obj):Bl:=⟨B.Lc,(I,(·=oI))::B.XP⟩
theorem uE0{XP:List (Addr×(Obj→Prop))}{X:Own}(f:Fit XP X){I:Addr}(h:∀ p∈XP,p.1≠I):∀ q∈X,q.1≠I:=by
 induction f with
 | nil=>intro q hq;cases hq
 | cons x _ ih=>
  intro q hq;rcases List.mem_cons.mp hq with rfl|hq
  ·rw [← x.1];exact h _ (.head _)
  ·exact ih (fun p hp=>h p (.tail _ hp)) q hq
theorem fit_off'{XP:List (Addr×(Obj→Prop))}{X:Own}(f:Fit XP X){I:Addr}(h:∀ q∈X,q.1≠I):∀ p∈XP,p.1≠I:=by
 induction f with
 | nil=>intro q hq;cases hq
 | cons x _ ih=>
  intro p hp;rcases List.mem_cons.mp hp with rfl|hp
  ·rw [x.1];exact h _ (.head _)
  ·exact ih (fun q hq=>h q (.tail _ hq)) p hp
theorem uSx(X₀:CxOk C)(R:uAs C G B own σ s.heap){x:AV}{u:Value}(hx:VR C.τ (adr own) x u){γ δ:Type}{f:It→M γ}{R':List Addr→γ→δ→Prop}{Q:δ→Shared→Prop}{E:Value→Shared→Prop}{P:Value→Shared→Prop}{E':Value→Shared→Prop}
  (gd:uAk C G B own σ s (M.bind (uB8 x) f) R' Q E)
  (k:∀ it I oI h' tk,uAs C G (B.add I oI) own σ h'→(∀ p∈B.XP,p.1≠I)→ItAt (adr own) it 0 oI→uAk C G B own σ { s with heap:=h',toks:=tk } (f it) R' Q E→P (.ref I) { s with heap:=h',toks:=tk }) :
  wpAny (model C.prog C.w) A (pyIter u) P E' s:=by
 obtain ⟨g,X,hg,hX,R⟩:=R;generalize q:uB8 x σ=zz;induction zz using Option.casesOn with
 | none=>
  exact gd.bad1 q
 | some z=>
  obtain ⟨z,σ'⟩:=z;induction z using Res.casesOn with
  | exc e=>
   exfalso;obtain ⟨_,_,h,_⟩:=uJn q;cases h
  | ok it=>
   refine uV2 (hg.hsm X₀) R hx q fun I oI h' tk e r1 r2 r3=>?_;subst e;have gd':uAk C G B own σ' { s with heap:=h',toks:=tk } (f it) R' Q E:=by
    unfold uAk M.bind at gd;rw [q] at gd;exact gd
   exact k it I oI h' tk ⟨g,(I,oI)::X,hg,.cons ⟨rfl,rfl⟩ hX,r1⟩ (fit_off' hX r2) r3 gd'
noncomputable def StepT(C:Cx)(G:Gm)(B:Bl)(own:Own)(σ:St)(I:Addr)(it:It)(p:Nat):Option AV→Option Value→Heap→Prop
 | none,rv,h'=>rv=none∧uAs C G B own σ h'
 | some v,rv,h'=>∃ u oI,rv=some u∧VR C.τ (adr own) v u∧uAs C G (B.add I oI) own σ h'∧ItAt (adr own) it (p+1) oI
set_option tactic.hygienic true in
theorem uSl(hh:A.handled=none){I:Addr}{oI:Obj}{it:It}{p:Nat}{x:Option AV}(R:uAs C G (B.add I oI) own σ s.heap)(hB:∀ q∈B.XP,q.1≠I)(hi:ItAt (adr own) it p oI)(hx:it.at p σ=some (.ok x,σ))
  {Q:Option Value→Shared→Prop} {E:Value→Shared→Prop} (h:∀ rv h' tk,StepT C G B own σ I it p x rv h'→Q rv { s with heap:=h',toks:=tk }):wpAny (model C.prog C.w) A (pyNext (.ref I)) Q E s:=by
 obtain ⟨g,X,hg,hX,R⟩:=R;cases hX with
 | cons h1 hX=>
  rename_i q X;obtain ⟨qa,qo⟩:=q;obtain ⟨e1,e2⟩:=h1;simp only at e1 e2;subst e1 e2;refine uTl (Lc:=B.Lc) hh R (uE0 hX hB) hi hx fun rv h' tk st=>h rv h' tk ?_;induction x using Option.casesOn with
  | none=>exact ⟨st.1,g,X,hg,hX,st.2⟩
  | some v=>
   obtain ⟨u,oI,s1,s2,s3,s4⟩:=st;exact ⟨u,oI,s1,s2,⟨g,(_,oI)::X,hg,.cons ⟨rfl,rfl⟩ hX,s3⟩,s4⟩
end iter
end
section
section good
variable {C:Cx}{G:Gm}{B:Bl}{own:Own}{σ:St}{s:Shared}{α γ β δ:Type}
theorem uAk.step{m:M α}{f:α→M γ}{R':List Addr→γ→δ→Prop}{Q:δ→Shared→Prop}{E:Value→Shared→Prop}(gd:uAk C G B own σ s (M.bind m f) R' Q E){a:α}{σ':St}(h:m σ=some (.ok a,σ'))
  {own':Own} (p:adr own<+:adr own') {h':Heap} {tk:Nat}:uAk C G B own' σ' { s with heap:=h',toks:=tk } (f a) R' Q E:=by
 unfold uAk M.bind at gd;rw [h] at gd;dsimp only at gd;unfold uAk;generalize q':f a σ'=zz;induction zz using Option.casesOn with
 | none=>rw [q'] at gd;exact gd.elim
 | some r2=>
  obtain ⟨r2,σ2⟩:=r2;rw [q'] at gd;induction r2 using Res.casesOn with
  | ok c=>exact fun own2 h2 tk2 b2 p2=>gd own2 h2 tk2 b2 (p.trans p2)
  | exc x=>exact fun own2 h2 tk2 b2 p2=>gd own2 h2 tk2 b2 (p.trans p2)
theorem uAk.some{m:M γ}{R':List Addr→γ→δ→Prop}{Q:δ→Shared→Prop}{E:Value→Shared→Prop}(gd:uAk C G B own σ s m R' Q E) : ∃ x σ',m σ=some (x,σ'):=by
 unfold uAk at gd;generalize q:m σ=zz;induction zz using Option.casesOn with
 | none=>rw [q] at gd;exact gd.elim
 | some z=>exact ⟨z.1,z.2,rfl⟩
theorem uAk.calm{m:M α}{f:α→M γ}{R':List Addr→γ→δ→Prop}{Q:δ→Shared→Prop}{E:Value→Shared→Prop}(gd:uAk C G B own σ s (M.bind (calm m) f) R' Q E) : ∃ a σ',m σ=Option.some (.ok a,σ')∧Mine.Internal.calm m σ=Option.some (.ok a,σ'):=by
 unfold uAk M.bind at gd;generalize q:Mine.Internal.calm m σ=zz;induction zz using Option.casesOn with
 | none=>rw [q] at gd;exact gd.elim
 | some z=>
  have q':=q;unfold Mine.Internal.calm at q';generalize e:m σ=y at q';rcases y with _|⟨a|e',σ'⟩
  ·exact nn q'
  ·cases q';exact ⟨a,σ',rfl,rfl⟩
  ·exact nn q'
end good
section iter
variable {prog:Program}{w:World}{A:Around}{E:Value→Shared→Prop}{s:Shared}
theorem uNj{φ:List Addr}{I:Addr}{oI:Obj}{it:It}{p:Nat}(hI:s.heap.get? I=some oI)(hi:ItAt φ it p oI){Q:Value→Shared→Prop}(h:Q (.ref I) s):wpAny (model prog w) A (pyIter (.ref I)) Q E s:=by
 induction it using It.casesOn with
 | lst i=>obtain ⟨a,_,c,d⟩:=hi;exact wpAny_pyIter_listiter (l:=a) (i:=p) ⟨_,hI,c,d⟩ h
 | tup i xs=>obtain ⟨a,_,c,d⟩:=hi;exact wpAny_pyIter_tupleiter (t:=a) (i:=p) ⟨_,hI,c,d⟩ h
 | str x=>obtain ⟨t,c,d⟩:=hi;exact wpAny_pyIter_striter_ascii (x:=mkS x) (t:=t) (i:=p) ⟨_,hI,c,d⟩ h
 | rng a b=>
  obtain ⟨c,d⟩:=hi;subst c;exact wpAny_pyIter_rangeiter (show IsRangeIter s.heap I _ _ _ from hI) h
 | keys d ks=>obtain ⟨a,_,c,d⟩:=hi;exact wpAny_pyIter_keyiter (d:=a) (i:=p) (n:=ks.length) (ep:=ks.length) ⟨_,hI,c,d⟩ h
 | vals d n=>obtain ⟨a,_,c,d⟩:=hi;exact wpAny_pyIter_valiter (d:=a) (i:=p) (n:=n) (ep:=n) ⟨_,hI,c,d⟩ h
end iter
end
section
section comp
variable {C:Cx}{G:Gm}{B:Bl}{A:Around}{F:FE}{r:Rec}{n:Nat}
noncomputable def testsM(r:Rec)(F:FE):List Expr→M Bool
 | []=>M.pure true
 | [c]=>r.tst c F
 | _=>M.fail
set_option tactic.hygienic true in
theorem uT2(S:Snd C r n){own:Own}{σ:St}{s:Shared}{env:Env}(H:uBj C G B A F own env n)(R:uAs C G B own σ s.heap)(ifs:List Expr) :
  uAg C G B A own σ s (testsM r F ifs) (forIn ifs true fun c r=>if r=true then do let ok ← isTrue c env (eval c env);pure (ForInStep.yield ok) else pure (ForInStep.yield r)) TR:=by
 match ifs with
 | []=>rw [List.forIn_nil];exact uAg.pure R rfl
 | [c]=>
  rw [List.forIn_cons];refine ⟨fun Q E gd=>?_⟩;refine wpAny_bind ?_;rw [if_pos rfl];refine wpAny_bind ((S.tst c H R).go _ _ ?_);unfold uAk at gd ⊢;have e:testsM r F [c]=r.tst c F:=rfl;rw [e] at gd
  split
  ·rename_i q;rw [q] at gd;exact gd
  ·rename_i a σ' q;rw [q] at gd;intro own' h' tk' b p r' x;refine wpAny_pure ?_;show wpAny _ _ (forIn ([]:List Expr) b _) _ _ _;rw [List.forIn_nil];exact wpAny_pure (gd own' h' tk' b p r' x)
  ·rename_i a σ' q;rw [q] at gd;exact gd
 | _::_::_=>exact uAg.fail rfl
inductive CompI(C:Cx)(G:Gm)(B:Bl)(I:Addr)(P:uBb)(r:Rec)(F:FE)(tx:Str)(tp:Pos)(elt:Expr)(ifs:List Expr)(it:It)(acc:Nat)(accA:Addr)(own₀:Own)(RR:Shared→Prop)(env:Env)(n:Nat)(A:Around)(m:Nat)(s:Shared):Prop
 | mk (p:Nat) (own:Own) (σ:St) (oI:Obj):uAs C G (B.add I oI) own σ s.heap→ItAt (adr own) it p oI→adr own₀<+:adr own→(adr own)[acc]?=some accA→(∃ σ',uDj P r F (.Name tx tp) elt ifs it acc m p σ=some (.ok (),σ'))→
  uAk C G B own σ s (uDj P r F (.Name tx tp) elt ifs it acc m p) (fun _ (_ _:Unit)=>True) (fun _ s'=>RR s') (fun _ _=>False)→CompI C G B I P r F tx tp elt ifs it acc accA own₀ RR env n A m s
theorem uPa{M:Model}{A:Around}{β:Type}{t:Sem β}{Q:β→Shared→Prop}{E:Value→Shared→Prop}{s:Shared}(h:∀ Q':β→Shared→Prop,(∀ a s,Q a s→Q' a s)→wpAny M A t Q' E s):wpAny M A t Q E s:=h Q fun _ _ q=>q
theorem fsi{iter:Expr}{env:Env}(h:uB3 iter=false)(x:Value):foldedSetIterable iter env x=pure x:=by
 cases iter<;>first | rfl | cases h
inductive LoopI(C:Cx)(G:Gm)(B:Bl)(own1:Own)(go:Nat→M Fl)(fl:Fl)(σe:St)(Q:Flow→Shared→Prop)(m:Nat)(s':Shared):Prop
 | mk (own':Own) (σ':St):uAs C G B own' σ' s'.heap→adr own1<+:adr own'→go m σ'=some (.ok fl,σe)→uAk C G B own' σ' s' (go m) (FR C.τ) Q (fun _ _=>False)→LoopI C G B own1 go fl σe Q m s'
inductive ForI(C:Cx)(G:Gm)(B:Bl)(I:Addr)(it:It)(own1:Own)(go:Nat→Nat→M Fl)(fl:Fl)(σe:St)(Q:Flow→Shared→Prop)(m:Nat)(s':Shared):Prop
 | mk (p:Nat) (own':Own) (σ':St) (oI:Obj):uAs C G (B.add I oI) own' σ' s'.heap→ItAt (adr own') it p oI→adr own1<+:adr own'→go m p σ'=some (.ok fl,σe)→uAk C G B own' σ' s' (go m p) (FR C.τ) Q (fun _ _=>False)→ForI C G B I it own1 go fl σe Q m s'
inductive BindOk{α β:Type}(m:M α)(f:α→M β)(σ σ':St)(b:β):Prop
 | mk (a:α) (σ1:St):m σ=some (.ok a,σ1)→f a σ1=some (.ok b,σ')→BindOk m f σ σ' b
theorem uDp{α β:Type}{m:M α}{f:α→M β}{σ σ':St}{b:β}(h:M.bind m f σ=some (.ok b,σ')):BindOk m f σ σ' b:=by
 unfold M.bind at h;generalize e:m σ=y at h;rcases y with _|⟨a|e',s1⟩
 ·exact nn h
 ·exact ⟨a,s1,e,h⟩
 ·cases h
theorem uAg.calmW{B':Bl}{α β γ δ:Type}{own:Own}{σ:St}{s:Shared}{m:M α}{f:α→M γ}{t:Sem β}{R:List Addr→α→β→Prop}{R':List Addr→γ→δ→Prop}(h:uAg C G B A own σ s m t R){Q:δ→Shared→Prop}{E E':Value→Shared→Prop}{P:β→Shared→Prop}
  {c:γ} {σe:St} (ok:M.bind m f σ=some (.ok c,σe))
  (k:∀ a σ' own' h' tk' b,m σ=some (.ok a,σ')→f a σ'=some (.ok c,σe)→adr own<+:adr own'→uAs C G B own' σ' h'→R (adr own') a b→uAk C G B' own' σ' { s with heap:=h',toks:=tk' } (f a) R' Q E→P b { s with heap:=h',toks:=tk' })
  (gd:uAk C G B' own σ s (M.bind m f) R' Q E):wpAny (model C.prog C.w) A t P E' s:=by
 obtain ⟨a,σ1,e1,e2⟩:=uDp ok;refine h.go _ _ ?_;exact .okI e1 fun own' h' tk' b p r x=>k a σ1 own' h' tk' b e1 e2 p r x (gd.step e1 p)
end comp
end
section
section comp
variable {C:Cx}{G:Gm}{B:Bl}{A:Around}{F:FE}{r:Rec}{n:Nat}
theorem uBj.add{own:Own}{env:Env}(H:uBj C G B A F own env n)(I:Addr)(oI:Obj)(hB:∀ q∈B.XP,q.1≠I):uBj C G (B.add I oI) A F own env n:=
 ⟨H.X,H.f,⟨H.env.kind,H.env.loc,H.env.glob,H.env.bi,H.env.frame,H.env.kinds,H.env.cells,H.env.names⟩,H.dep,H.uni,H.hd,H.blk.imp id fun ⟨⟨m,h⟩,st⟩=>⟨⟨m,.tail _ h⟩,fun p hp e=>by
  rcases List.mem_cons.mp hp with rfl|hp
  ·exact absurd e.symm (hB _ h)
  ·exact st p hp e⟩⟩
theorem uNf(S:Snd C r n){I:Addr}{tx:Str}{tp:Pos}{elt:Expr}{ifs:List Expr}{it:It}{acc:Nat}{accA:Addr}{own₀:Own}{RR:Shared→Prop}{env:Env}(H₀:uBj C G B A F own₀ env n)(hh:A.handled=none)(hB:∀ q∈B.XP,q.1≠I)
  {E₁:Value→Shared→Prop}:∀ m s,CompI C G B I C.P r F tx tp elt ifs it acc accA own₀ RR env n A m s→
   wpAny (model C.prog C.w) A (pyNext (.ref I)) (fun rr s₁=>match rr with
    | none=>RR s₁
    | some v=>wpAny (model C.prog C.w) A (assign (.Name tx tp) env v) (fun _ s₂=>
      wpAny (model C.prog C.w) A (forIn ifs true fun c r=>if r=true then do let ok ← isTrue c env (eval c env);pure (ForInStep.yield ok) else pure (ForInStep.yield r)) (fun ok s₃=>
       if ok=true then wpAny (model C.prog C.w) A (eval elt env) (fun x s₄=>
        wpAny (model C.prog C.w) A (PySem.call (.builtin "list.append") [.ref accA,x]) (fun _ s₅=>∃ m',m'<m∧CompI C G B I C.P r F tx tp elt ifs it acc accA own₀ RR env n A m' s₅) E₁ s₄) E₁ s₃
       else ∃ m',m'<m∧CompI C G B I C.P r F tx tp elt ifs it acc accA own₀ RR env n A m' s₃) E₁ s₂) E₁ s₁) E₁ s:=by
 rintro m s ⟨p,own,σ,oI,R,hi,pre,hacc,⟨σe,ok⟩,gd⟩;induction m using Nat.casesOn with
 | zero=>cases ok
 | succ m=>
  have e0:uDj C.P r F (.Name tx tp) elt ifs it acc (m+1) p=M.bind (it.at p) fun x=>match x with
    | Option.none=>M.pure ()
    | some v=>M.bind (storeName F tx v) fun _=>M.bind (testsM r F ifs) fun b=>
     M.bind (if b then M.bind (r.ev elt F) fun y=>M.bind (uDb (.ref acc) y) fun _=>M.pure () else M.pure ()) fun _=>uDj C.P r F (.Name tx tp) elt ifs it acc m (p+1):=by
   rcases ifs with _|⟨_,_|⟨_,_⟩⟩<;>rfl
  rw [e0] at ok gd;obtain ⟨x,σ1,a1,a2⟩:=uDp ok;obtain ⟨e1,_⟩:=uOb a1;subst e1;refine uSl hh R hB hi a1 fun rv h' tk st=>?_;have gd1:=gd.step a1 (List.prefix_refl _) (h':=h') (tk:=tk);induction x using Option.casesOn with
  | none=>
   obtain ⟨rfl,R'⟩:=st;exact gd1.ok (b:=()) (tk':=tk) rfl (List.prefix_refl _) R' trivial
  | some v=>
   refine Classical.byContradiction fun hn=>?_;obtain ⟨u,oI',rfl,hv,R',hi'⟩:=st;refine hn ?_;clear hn;dsimp only at a2 gd1 ⊢;have H1:=(H₀.grow pre).add I oI' hB;refine uAg.calmW (B:=B.add I oI') (s:={ s with heap:=h',toks:=tk }) (.lift R' fun g X hg hX R'=>uBs (H1.env.at g) R' hv) a2 (fun _ σ2 own2 h2 tk2 _ b1 b2 p2 R2 _ gd2=>?_) gd1;refine uAg.calmW (B:=B.add I oI') (s:={ s with heap:=h2,toks:=tk2 }) (uT2 S (H1.grow p2) R2 ifs) b2 (fun b σ3 own3 h3 tk3 c c1 c2 p3 R3 x3 gd3=>?_) gd2;subst x3;obtain ⟨_,σ4,d1,d2⟩:=uDp c2;induction c using Bool.casesOn with
   | false=>
    rw [if_neg (by decide)] at d1 gd3;cases d1;refine ⟨m,Nat.lt_succ_self _,p+1,own3,_,oI',R3,hi'.mono (p2.trans p3),pre.trans (p2.trans p3),uA6 (p2.trans p3) hacc,⟨σe,d2⟩,gd3.step rfl (List.prefix_refl _)⟩
   | true=>
    rw [if_pos rfl] at d1 gd3 ⊢;obtain ⟨y,σ5,f1,f2⟩:=uDp d1;obtain ⟨z,σ6,g1,g2⟩:=uDp f2;cases g2;have H3:=(H1.grow p2).grow p3;have full:∀ own' h' tk',adr own3<+:adr own'→uAk C G B own' σ6 { s with heap:=h',toks:=tk' } (uDj C.P r F (.Name tx tp) elt ifs it acc m (p+1)) (fun _ (_ _:Unit)=>True) (fun _ s'=>RR s') (fun _ _=>False):=fun own' h' tk' p=>gd3.step (s:={ s with heap:=h3,toks:=tk3 }) (show M.bind (r.ev elt F) (fun y=>M.bind (uDb (.ref acc) y) fun _=>M.pure ()) _=_ from d1) p;refine (S.ev elt (s:={ s with heap:=h3,toks:=tk3 }) H3 R3).go _ _ (.okI f1 fun own5 h5 tk5 rv p5 R5 x5=>?_);refine (uAg.lift (s:={ s with heap:=h5,toks:=tk5 }) R5 fun g X hg hX R5=>uG9 R5 (.ref (uA6 (p2.trans (p3.trans p5)) hacc)) x5).go _ _ (.okI g1 fun own6 h6 tk6 rv6 p6 R6 x6=>?_);exact ⟨m,Nat.lt_succ_self _,p+1,own6,_,oI',R6,hi'.mono (p2.trans (p3.trans (p5.trans p6))),pre.trans (p2.trans (p3.trans (p5.trans p6))),uA6 (p2.trans (p3.trans (p5.trans p6))) hacc,⟨σe,d2⟩,full own6 h6 tk6 (p5.trans p6)⟩
end comp
end
section
section blocks
variable {prog:Program}{w:World}{τ:uBt}{h₀ h h':Heap}{Lc L:Addr}{X own:Own}{σ:St}
theorem Rel.exit'{oL o:Obj}(r:Rel prog w τ h₀ L ((Lc,oL)::X) own σ h)(ab:h₀.objs.size≤Lc)(ho:h.get? L=some o){mc:Str→Option Value}(n:LCg.NsObj oL mc){l:List (Str×AV)}(hl:∀ x v,l.lookup x=some v→∃ rv,mc x=some rv∧VR τ (adr own) v rv)(hX:∀ p∈X,p.1≠Lc) :
  Rel prog w τ h₀ Lc ((L,o)::X) own ⟨l,σ.H⟩ h where
 ns:=⟨mc,n.ns (r.xAt _ (.head _)).1,hl⟩
 keep:=r.keep
 above:=ab
 ownAt:=fun p hp=>⟨(r.ownAt p hp).1,r.off p hp _ (.head _),(r.ownAt p hp).2.2⟩
 xAt:=fun p hp=>by
  rcases List.mem_cons.mp hp with rfl|hp
  ·exact ⟨ho,Ne.symm (r.xAt _ (.head _)).2.1,uA8 r.above⟩
  ·exact ⟨(r.xAt p (.tail _ hp)).1,hX p hp,(r.xAt p (.tail _ hp)).2.2⟩
 nd:=r.nd
 off:=fun p hp q hq=>by
  rcases List.mem_cons.mp hq with rfl|hq
  ·exact (r.ownAt p hp).2.1
  ·exact r.off p hp q (.tail _ hq)
 objs:=r.objs
 big:=r.big
 low:=r.low
end blocks
section comp
variable {C:Cx}{G:Gm}{B:Bl}{A:Around}{F:FE}{r:Rec}{n:Nat}
noncomputable abbrev Bl.sub(B:Bl)(L:Addr)(mc:Str→Option Value):Bl:=⟨L,(B.Lc,fun o=>LCg.NsObj o mc)::B.XP⟩
noncomputable abbrev Bl.put(B:Bl)(L:Addr)(m:Str→Option Value):Bl:=⟨B.Lc,(L,fun o=>LCg.NsObj o m)::B.XP⟩
inductive TEnt(C:Cx)(G:Gm)(B:Bl)(I:Addr)(oI:Obj)(own:Own)(σ:St)(h:Heap)(ns:List (Str×NameKind))(acc:List (Str×Addr)):Prop
 | mk (mc:Str→Option Value) (cs:List (Str×Nat)) (own':Own):(∀ x v,σ.L.lookup x=some v→∃ rv,mc x=some rv∧VR C.τ (adr own) v rv)→(∀ l,uCs ns ⟨l,σ.H⟩=some (.ok cs,⟨l,σ.H++List.replicate (uD5 ns) (.cell none)⟩))→adr own<+:adr own'→
   uAs C G ((B.sub h.objs.size mc).add I oI) own' ⟨[],σ.H++List.replicate (uD5 ns) (.cell none)⟩ (pushCells (h.push { cls:=.type "dict",data:=.dict #[] }) ns)→
   (∀ x i,cs.lookup x=some i→∃ c,(cellsFrom (h.objs.size+1) ns acc).lookup x=some c∧(adr own')[i]?=some c)→(∀ x,cs.lookup x=none→(cellsFrom (h.objs.size+1) ns acc).lookup x=acc.lookup x)→
   (∀ p∈(B.sub h.objs.size mc).XP,p.1≠I)→(∀ p∈B.XP,p.1≠B.Lc)→(∃ g,GT C G g∧g.objs.size≤B.Lc)→TEnt C G B I oI own σ h ns acc
set_option tactic.hygienic true in
theorem uUv{own:Own}{σ:St}{h:Heap}{I:Addr}{oI:Obj}(R:uAs C G (B.add I oI) own σ h)(hB:∀ p∈B.XP,p.1≠I)(ns:List (Str×NameKind))(hn:(ns.map (·.1)).Nodup)(acc:List (Str×Addr)) :
  TEnt C G B I oI own σ h ns acc:=by
 obtain ⟨g,X,hg,hX,r⟩:=R;cases hX with
 | cons h1 hX=>
  rename_i q X;obtain ⟨qa,qo⟩:=q;obtain ⟨e1,e2⟩:=h1;simp only at e1 e2;subst e1 e2;obtain ⟨mc,hns,hl⟩:=r.ns;obtain ⟨oL,ho,hN⟩:=LCg.ns_obj hns;have r1:=r.enter ho (t:="dict");have hi:=r.xAt _ (.head _);obtain ⟨cs,own',c1,c2,c3,c4,c5,_⟩:=uO7 (B:=⟨_,_⟩) ns acc r1 hn;rw [Heap.size_push] at c4 c5;refine ⟨mc,cs,own',hl,c1,c2,⟨g,(_,qo)::(B.Lc,oL)::X,hg,.cons ⟨rfl,rfl⟩ (.cons ⟨rfl,hN⟩ hX),?_⟩,c4,c5,?_,?_,g,hg,r.above⟩
  ·refine c3.xdrop fun p hp=>?_;rcases List.mem_cons.mp hp with rfl|hp
   ·exact .tail _ (.head _)
   ·rcases List.mem_cons.mp hp with rfl|hp
    ·exact .head _
    ·exact .tail _ (.tail _ hp)
  ·intro p hp;rcases List.mem_cons.mp hp with rfl|hp
   ·exact Ne.symm hi.2.1
   ·exact hB p hp
  ·exact fit_off' hX fun q hq=>(r.xAt q (.tail _ hq)).2.1
set_option tactic.hygienic true in
theorem uYm{own:Own}{σ:St}{h:Heap}{L:Addr}{mc:Str→Option Value}{l:List (Str×AV)}(R:uAs C G (B.sub L mc) own σ h)(hl:∀ x v,l.lookup x=some v→∃ rv,mc x=some rv∧VR C.τ (adr own) v rv)(hB:∀ p∈B.XP,p.1≠B.Lc)(ab : ∃ g,GT C G g∧g.objs.size≤B.Lc) :
  ∃ m,h.Ns L m∧uAs C G (B.put L m) own ⟨l,σ.H⟩ h∧∀ p∈B.XP,p.1≠L:=by
 obtain ⟨g,X,hg,hX,r⟩:=R;obtain ⟨g',hg',ab⟩:=ab;have hgs:g.objs.size≤B.Lc:=by rw [hg.turn.size,← hg'.turn.size];exact ab
 cases hX with
 | cons h1 hX=>
  rename_i q X;obtain ⟨qa,qo⟩:=q;obtain ⟨e1,e2⟩:=h1;simp only at e1 e2;subst e1;obtain ⟨m,hns,_⟩:=r.ns;obtain ⟨o,ho,hN⟩:=LCg.ns_obj hns;refine ⟨m,hns,⟨g,(L,o)::X,hg,.cons ⟨rfl,hN⟩ hX,r.exit' hgs ho e2 hl (uE0 hX hB)⟩,fit_off' hX fun q hq=>(r.xAt q (.tail _ hq)).2.1⟩
set_option tactic.hygienic true in
theorem uKu{own:Own}{σ:St}{h h':Heap}{L:Addr}{m:Str→Option Value}(R:uAs C G (B.put L m) own σ h)(hB:∀ p∈B.XP,p.1≠L)(k:∀ b o,b≠L→h.get? b=some o→h'.get? b=some o):uAs C G B own σ h':=by
 obtain ⟨g,X,hg,hX,r⟩:=R;cases hX with
 | cons h1 hX=>
  rename_i q X;obtain ⟨qa,qo⟩:=q;obtain ⟨e1,e2⟩:=h1;simp only at e1 e2;subst e1;exact ⟨g,X,hg,hX,r.xgo (uE0 hX hB) k⟩
end comp
end
section
theorem uB0{α β γ:Type}(m:M α)(k:α→M β)(f:β→M γ):M.bind (M.bind m k) f=M.bind m fun a=>M.bind (k a) f:=by
 funext σ
 unfold M.bind;generalize (m σ)=zz;induction zz using Option.casesOn with
 | none=>rfl
 | some z=>
  obtain ⟨z,σ'⟩:=z;cases z<;>rfl
theorem uIv{β:Type}{x:Str}{b:β}:∀ {l:List (Str×β)},(l.map (·.1)).Nodup→(x,b)∈l→l.lookup x=some b:=by
 intro zz;induction zz with
 | nil=>
  intro _ h;cases h
 | cons zq l ih=>
  obtain ⟨y,c⟩:=zq;intro hn h;rw [List.map_cons,List.nodup_cons] at hn;rcases List.mem_cons.mp h with e|h
  ·cases e;rw [List.lookup_cons,beq_self_eq_true]
  ·have:x≠y:=fun e=>hn.1 (e▸List.mem_map_of_mem (f:=(·.1)) h);rw [List.lookup_cons,beq_false_of_ne this];exact ih hn.2 h
theorem uC1{β:Type}{x:Str}:∀ {l r:List (Str×β)},(l++r).lookup x=match l.lookup x with | some b=>some b | none=>r.lookup x:=by
 intro zz;induction zz with
 | nil=>
  intro r;exact rfl
 | cons zq l ih=>
  obtain ⟨y,c⟩:=zq;intro r;rw [List.cons_append,List.lookup_cons,List.lookup_cons];generalize (x==y)=zz;induction zz using Bool.casesOn with
  | true=>rfl
  | false=>exact ih
section comp
variable {C:Cx}{G:Gm}{B:Bl}{A:Around}{F:FE}{r:Rec}{n:Nat}{own:Own}{σ:St}{s:Shared}{env:Env}
set_option tactic.hygienic true in
theorem uI2(S:Snd C r n){elt iter:Expr}{tx:Str}{tp pos pos':Pos}{ifs:List Expr}{scope:Scope}(H:uBj C G B A F own env n)(hm:F.hm=false)(hset:uB3 iter=false)(R:uAs C G B own σ s.heap)
  {γ δ:Type} {f:AV→M γ} {R':List Addr→γ→δ→Prop} {Qg:δ→Shared→Prop} {E:Value→Shared→Prop} {use:Option (Value→Sem Unit)} {QQ:Value→Shared→Prop}
  (gd:uAk C G B own σ s (M.bind (evE C.P r (.ListComp elt [⟨.Name tx tp,iter,ifs,0⟩] scope pos) F) f) R' Qg E)
  (fin:∀ own' σ' h' tk' (acc:Nat) accA L m,adr own<+:adr own'→uAs C G (B.put L m) own' σ' h'→(∀ p∈B.XP,p.1≠L)→h'.Ns L m→VR C.τ (adr own') (.ref acc) (.ref accA)→uAk C G B own' σ' { s with heap:=h',toks:=tk' } (f (.ref acc)) R' Qg E→
   compPost (model C.prog C.w) A E use QQ (.ref accA) L (.ok .next) { s with heap:=h',toks:=tk' }) :
  wpAny (model C.prog C.w) A (comprehension (.ListComp elt [⟨.Name tx tp,iter,ifs,0⟩] scope pos) scope env pos' (newList []) false (eval iter env) use) QQ E s:=by
 have e0:evE C.P r (.ListComp elt [⟨.Name tx tp,iter,ifs,0⟩] scope pos) F=match (if uCw scope∧scope.kind=.function then uBc F scope.names else Option.none) with
   | Option.none=>M.fail
   | some fc=>M.bind (r.ev iter F) fun xv=>M.bind (uB8 xv) fun it=>M.bind (newN (.list [])) fun acc=>M.bind (uCs scope.names) fun own=>
    M.bind (Mine.Internal.calm (uGu [] (uDj C.P r { scope:=scope,cells:=own++fc,hm:=F.hm } (.Name tx tp) elt ifs it acc lim 0))) fun _=>M.pure (.ref acc):=by
  show (if (F.hm||uB3 iter)=true then M.fail else _)=_;rw [hm,hset];rfl
 rw [e0] at gd;have hh:A.handled=none:=(H.hd hm).2;have hg : ∃ fc,uCw scope=true∧scope.kind=.function∧uBc F scope.names=some fc:=by
  by_cases hc:uCw scope∧scope.kind=.function
  ·generalize q:uBc F scope.names=zz;induction zz using Option.casesOn with
   | some fc=>exact ⟨fc,hc.1,hc.2,rfl⟩
   | none=>
    exfalso;rw [if_pos hc,q] at gd;obtain ⟨z,σ',hz⟩:=gd.some;cases hz
  ·exfalso;rw [if_neg hc] at gd;refine Classical.byContradiction fun hn=>?_;obtain ⟨z,σ',hz⟩:=gd.some;refine hn ?_;clear hn;cases hz
 obtain ⟨fc,hok,hk,hfc⟩:=hg;rw [if_pos ⟨hok,hk⟩,hfc] at gd;dsimp only at gd;rw [uB0] at gd;have hnd:(scope.names.map (·.1)).Nodup:=of_decide_eq_true (Bool.and_eq_true_iff.mp hok).2;refine Classical.byContradiction fun hn=>?_;obtain ⟨b1,b2,b3,_⟩:=uVn H.env.cells scope.names [] hfc hnd;refine hn ?_;clear hn;refine wpAny_comprehension_free rfl (fun x=>?_) (uI4 b1) hk (fun x hx hl=>by rw [← hl];exact uIv hnd hx) ?_
 ·exact fsi hset x
 refine (S.ev iter H R).bindP (fun xv σ1 own1 h1 tk1 u e1 p1 R1 x1 gd1=>?_) gd;rw [uB0] at gd1;refine uSx H.X R1 x1 gd1 fun it I oI h2 tk2 R2 hB2 hi2 gd2=>?_;rw [uB0] at gd2;refine wpAny_newObj_type ?_ (by show ([]:List Value).toArray.size≤sizeLine;decide);have hnew:newN (.list []) σ1=some (.ok σ1.H.length,⟨σ1.L,σ1.H++[.list []]⟩):=rfl;obtain ⟨R3,v3⟩:=uEj (s:={ s with heap:=h2,toks:=tk2 }) R2 (o:=.list []) (ob:={ cls:=.type "list",data:=.seq ([]:List Value).toArray }) fun D=>⟨0,[],rfl,.nil,Nat.zero_le _⟩
 have gd3:=gd2.step hnew (uAj own1 (h2.objs.size,({ cls:=.type "list",data:=.seq ([]:List Value).toArray }:Obj))) (h':=h2.push { cls:=.type "list",data:=.seq ([]:List Value).toArray }) (tk:=tk2);rw [uB0] at gd3;obtain ⟨mc,cs,own4,hl4,c1,c2,R4,c4,c5,hB4,hB5,hab⟩:=uUv R3 hB2 scope.names hnd (clOf env scope.names []);have gd4:=gd3.step (c1 _) c2 (h':=pushCells ((h2.push { cls:=.type "list",data:=.seq ([]:List Value).toArray }).push { cls:=.type "dict",data:=.dict #[] }) scope.names) (tk:=tk2);rw [uB0] at gd4;refine uOa ?_;refine Classical.byContradiction fun hn=>?_;obtain ⟨uu,σ5,d1,d2⟩:=gd4.calm;refine hn ?_;clear hn;have hcg : ∃ σ6,uDj C.P r { scope:=scope,cells:=cs++fc,hm:=F.hm } (.Name tx tp) elt ifs it σ1.H.length lim 0 ⟨[],σ1.H++[.list []]++List.replicate (uD5 scope.names) (.cell none)⟩=some (.ok (),σ6)∧σ5=⟨σ1.L,σ6.H⟩:=by
  unfold uGu at d1;dsimp only at d1
  split at d1
  ·rename_i x s' q;cases d1;exact ⟨s',q,rfl⟩
  ·cases d1
 refine Classical.byContradiction fun hn=>?_;obtain ⟨σ6,hcg,rfl⟩:=hcg;refine hn ?_;clear hn;have hsz:(h2.push { cls:=.type "list",data:=.seq ([]:List Value).toArray }).objs.size=h2.objs.size+1:=Heap.size_push ..;have pre14:adr own1<+:adr own4:=(uAj own1 _).trans c2;have H':uBj C G (B.sub (h2.push { cls:=.type "list",data:=.seq ([]:List Value).toArray }).objs.size mc) A { scope:=scope,cells:=cs++fc,hm:=F.hm } own4
   { scope:=relabel scope env,locals:=(h2.push { cls:=.type "list",data:=.seq ([]:List Value).toArray }).objs.size,globals:=env.globals,cells:=cellsFrom ((h2.push { cls:=.type "list",data:=.seq ([]:List Value).toArray }).objs.size+1) scope.names (clOf env scope.names []),qual:=env.qual,func:=none,code:=env.code,frame:=env.frame,builtins:=env.builtins } n:=by
  refine ⟨H.X,H.f,⟨hk,rfl,H.env.glob,H.env.bi,H.env.frame,fun x=>?_,fun x i hx=>?_,hok⟩,H.dep,H.uni,H.hd,?_⟩
  ·exact uIo x
  ·dsimp only at hx;rw [uC1] at hx;generalize q:cs.lookup x=zz;induction zz using Option.casesOn with
   | some j=>rw [q] at hx;cases hx;exact c4 x _ q
   | none=>
    rw [q] at hx;obtain ⟨c,z1,z2⟩:=b2 x i hx;exact ⟨c,by rw [c5 x q];exact z1,uA6 (p1.trans pre14) z2⟩
  ·rcases H.blk with e|⟨⟨m,hm'⟩,st⟩
   ·refine .inr ⟨⟨mc,by rw [← e];exact .head _⟩,fun p hp q=>?_⟩;rcases List.mem_cons.mp hp with rfl|hp
    ·exact uGi
    ·exact absurd (q.trans e.symm) (hB5 p hp)
   ·refine .inr ⟨⟨m,.tail _ hm'⟩,fun p hp q=>?_⟩;rcases List.mem_cons.mp hp with rfl|hp
    ·exact uGi
    ·exact st p hp q
 have hIat:(pushCells ((h2.push { cls:=.type "list",data:=.seq ([]:List Value).toArray }).push { cls:=.type "dict",data:=.dict #[] }) scope.names).get? I=some oI:=by
  obtain ⟨g,X,hg,hX,r4⟩:=R4;cases hX with
  | cons z1 hX=>
   rename_i q X;obtain ⟨qa,qo⟩:=q;obtain ⟨y1,y2⟩:=z1;simp only at y1 y2;subst y1 y2;exact (r4.xAt _ (.head _)).1
 have hacc:(adr own4)[σ1.H.length]?=some h2.objs.size:=by
  cases v3 with
  | ref v3=>exact uA6 c2 v3
 have loop:codeAny (model C.prog C.w) A (.compLoop (.ListComp elt [⟨.Name tx tp,iter,ifs,0⟩] scope pos) 0 (.ref I) (.ref h2.objs.size)
   { scope:=relabel scope env,locals:=(h2.push { cls:=.type "list",data:=.seq ([]:List Value).toArray }).objs.size,globals:=env.globals,cells:=cellsFrom ((h2.push { cls:=.type "list",data:=.seq ([]:List Value).toArray }).objs.size+1) scope.names (clOf env scope.names []),qual:=env.qual,func:=none,code:=env.code,frame:=env.frame,builtins:=env.builtins })
   (compPost (model C.prog C.w) A E use QQ (.ref h2.objs.size) (h2.push { cls:=.type "list",data:=.seq ([]:List Value).toArray }).objs.size)
   { s with heap:=pushCells ((h2.push { cls:=.type "list",data:=.seq ([]:List Value).toArray }).push { cls:=.type "dict",data:=.dict #[] }) scope.names,toks:=tk2 }:=by
  refine codeAny_compLoop_tests (CompI C G (B.sub (h2.push { cls:=.type "list",data:=.seq ([]:List Value).toArray }).objs.size mc) I C.P r { scope:=scope,cells:=cs++fc,hm:=F.hm } tx tp elt ifs it σ1.H.length h2.objs.size own4
   (fun s'=>compPost (model C.prog C.w) A E use QQ (.ref h2.objs.size) (h2.push { cls:=.type "list",data:=.seq ([]:List Value).toArray }).objs.size (.ok .next) s') _ n A) (uNf S H' hh hB4) lim ?_
  refine ⟨0,own4,_,oI,R4,hi2.mono pre14,List.prefix_refl _,hacc,⟨σ6,hcg⟩,.okI hcg fun own5 h5 tk5 _ p5 R5 _=>?_⟩;obtain ⟨m,hns,R6,hne⟩:=uYm (l:=σ1.L) R5 (fun x v e=>by
   obtain ⟨rv,q1,q2⟩:=hl4 x v e;exact ⟨rv,q1,(q2.mono c2).mono p5⟩) hB5 hab
  exact fin own5 ⟨σ1.L,σ6.H⟩ h5 tk5 σ1.H.length h2.objs.size _ m (p1.trans (pre14.trans p5)) R6 hne hns (.ref (uA6 p5 hacc)) (gd4.step d2 p5)
 exact codeAny_compStart_list loop (uNj hIat (hi2.mono pre14) loop)
end comp
end
section
theorem bind_pure'{α:Type}(m:M α):M.bind m M.pure=m:=by
 funext σ
 unfold M.bind;generalize m σ=zz;induction zz using Option.casesOn with
 | none=>rfl
 | some z=>
  obtain ⟨z,σ'⟩:=z;cases z<;>rfl
section comp
variable {C:Cx}{G:Gm}{B:Bl}{A:Around}{F:FE}{r:Rec}{n:Nat}{own:Own}{σ:St}{s:Shared}{env:Env}
theorem uYi(S:Snd C r n){elt iter:Expr}{tx:Str}{tp pos:Pos}{ifs:List Expr}{scope:Scope}(H:uBj C G B A F own env n)(R:uAs C G B own σ s.heap) :
  uAg C G B A own σ s (evE C.P r (.ListComp elt [⟨.Name tx tp,iter,ifs,0⟩] scope pos) F) (eval (.ListComp elt [⟨.Name tx tp,iter,ifs,0⟩] scope pos) env) (VR C.τ):=by
 by_cases hg:(F.hm||uB3 iter)=true
 ·exact uAg.fail (by show (if (F.hm||uB3 iter)=true then (M.fail:M AV) else _) σ=none;rw [if_pos hg];rfl)
 ·have hm:F.hm=false:=by generalize q:F.hm=zz;induction zz using Bool.casesOn with | false=>rfl | true=>rw [q] at hg;exact absurd rfl hg
  have hset:uB3 iter=false:=by generalize q:uB3 iter=zz;induction zz using Bool.casesOn with | false=>rfl | true=>rw [q,Bool.or_true] at hg;exact absurd rfl hg
  refine ⟨fun Q E gd=>?_⟩;rw [← bind_pure' (evE C.P r (.ListComp elt [⟨.Name tx tp,iter,ifs,0⟩] scope pos) F)] at gd;rw [eval_ListComp];refine uI2 (use:=none) S H hm hset R gd fun own' σ' h' tk' acc accA L m p R6 hne hns hv gd5=>?_;exact ⟨m,hns,fun h2 hs=>gd5.ok (tk':=tk') rfl (List.prefix_refl _) (uKu R6 hne fun b o hb z=>(hs.2 b hb).trans z) hv⟩
end comp
end
section
noncomputable def KeepH(M:Model)(f:Value)(h:Heap):Prop:=∃ k,(k=Keeper.frame∨k=Keeper.machine∨k=Keeper.boundFrame)∧Looks M h (keeperOf f) k
section calls
variable {C:Cx}{G:Gm}{B:Bl}{A:Around}{F:FE}{r:Rec}{n:Nat}{own:Own}{σ:St}{s:Shared}{env:Env}
theorem uUy(X₀:CxOk C)(f₀:uDg G){h:Heap}(R:uAs C G B own σ h){f:AV}{rf:Value}(hf:VR C.τ (adr own) f rf)(k:KeepA C.P σ f):KeepH (model C.prog C.w) rf h:=by
 obtain ⟨g,X,hg,hX,r⟩:=R;cases hf with
 | st=>induction rf using PySem.Value.casesOn with
  | ref a=>
   have hk:=X₀.keep a k;obtain ⟨q,q1,q2⟩:=looks_keep (M:=model C.prog C.w) hk ((hg.ok X₀ f₀).K.keeps r.keep);exact ⟨q,q1.elim .inl fun e=>.inr (.inl e),q2⟩
  | builtin id=>exact ⟨.machine,.inr (.inl rfl),Looks.of_pure rfl⟩
  | type t=>exact ⟨.machine,.inr (.inl rfl),Looks.of_pure rfl⟩
  | _=>cases k
 | @ref i a ha=>
  obtain ⟨id,self,e1⟩:=k;obtain ⟨b,ob,h1,h2,h3,sa,x1,x2,x3⟩:=r.at e1;rw [ha] at h2;cases h2;refine ⟨.machine,.inr (.inl rfl),(Looks.ld (part:=none) h3).andThen ?_⟩;rw [x3];rcases x2 with q|q<;>rw [q]<;>exact Looks.now
 | _=>cases k
theorem uJa{M:Model}{A:Around}{E:Value→Shared→Prop}{s:Shared}{f:Value}{a b:Bool×Sem Value}{rest:List (Bool×Sem Value)}{Q:Args→Shared→Prop}(h:wpAny M A (spliced (a::b::rest)) (fun vs s'=>Q ⟨vs,[]⟩ s') E s):wpAny M A (evalArgs f true (a::b::rest) []) Q E s:=by
 obtain ⟨t,x⟩:=a;cases t<;>(
  unfold evalArgs;refine wpAny_bind (wpAny_mono h (fun vs s' h'=>?_) fun _ _ x=>x)
  first
   | exact wpAny_bind (wpAny_pure (wpAny_holding (wpAny_bind (wpAny_pure (wpAny_bind (wpAny_pure (wpAny_pure (by simpa using h'))))))))
   | exact wpAny_holding (wpAny_bind (wpAny_pure (wpAny_bind (wpAny_pure (wpAny_pure (by simpa using h')))))))
theorem uKv(S:Snd C r n){pos:Pos}{rf:Value}:∀ (es:List Expr) {own:Own} {σ:St} {s:Shared} {γ δ:Type} {f:List AV→M γ} {R':List Addr→γ→δ→Prop} {Q:δ→Shared→Prop} {E:Value→Shared→Prop} {P:Args→Shared→Prop},uBj C G B A F own env n→uAs C G B own σ s.heap→
  uAk C G B own σ s (M.bind (evL r F es) f) R' Q E→(∀ xs σ' own' h' tk' us,adr own<+:adr own'→uAs C G B own' σ' h'→VRs C.τ (adr own') xs us→uAk C G B own' σ' { s with heap:=h',toks:=tk' } (f xs) R' Q E→P ⟨us,[]⟩ { s with heap:=h',toks:=tk' })→
  wpAny (model C.prog C.w) A (evalArgs rf true (backTo pos (starEach es env)) []) P E s:=by
 intro es own σ s γ δ f R' Q E P H R gd k;have all:wpAny (model C.prog C.w) A (spliced (backTo pos (starEach es env))) (fun vs s'=>P ⟨vs,[]⟩ s') E s:=
  (uF7 S es H R).bindP (fun xs σ1 own1 h1 tk1 us e1 p1 R1 x1 gd1=>k xs σ1 own1 h1 tk1 us p1 R1 x1 gd1) gd
 rcases es with _|⟨e,_|⟨e',es⟩⟩
 ·exact evalArgs_nil3 (k [] σ own s.heap s.toks [] (List.prefix_refl _) R .nil gd)
 ·by_cases hs : ∃ a p,e=.Starred a p
  ·obtain ⟨a,p,rfl⟩:=hs;refine ks_lone ?_;have e0:evL r F [.Starred a p]=M.bind (r.ev a F) fun v=>M.bind (uF6 v) fun xs=>M.bind (M.pure []) fun ys=>M.pure (xs++ys):=rfl;rw [e0,uB0] at gd;refine (S.ev a H R).bindP (fun v σ1 own1 h1 tk1 rv e1 p1 R1 x1 gd1=>?_) gd;rw [uB0] at gd1;refine uMu R1 x1 gd1 fun xs own2 h2 tk2 ws p2 R2 x2 gd2=>?_;have e2:(M.bind (M.bind (M.pure ([]:List AV)) fun ys=>M.pure (xs++ys)) f)=f xs:=by
    show f (xs++[])=_;rw [List.append_nil]
   rw [e2] at gd2;exact k xs σ1 own2 h2 tk2 ws (p1.trans p2) R2 x2 gd2
  ·have hs' : ∀ a p,e≠.Starred a p:=fun a p q=>hs ⟨a,p,q⟩;rw [uA2 hs'] at all ⊢;exact evalArgs_plain all
 ·have : ∃ a b,backTo pos (starEach (e::e'::es) env)=a::b::backTo pos (starEach es env):=by
   by_cases hs : ∃ a p,e=.Starred a p
   ·obtain ⟨a,p,rfl⟩:=hs;by_cases hs2 : ∃ a p,e'=.Starred a p
    ·obtain ⟨a',p',rfl⟩:=hs2;exact ⟨_,_,rfl⟩
    ·rw [uEl,uA2 fun a p q=>hs2 ⟨a,p,q⟩];exact ⟨_,_,rfl⟩
   ·rw [uA2 fun a p q=>hs ⟨a,p,q⟩];by_cases hs2 : ∃ a p,e'=.Starred a p
    ·obtain ⟨a',p',rfl⟩:=hs2;exact ⟨_,_,rfl⟩
    ·rw [uA2 fun a p q=>hs2 ⟨a,p,q⟩];exact ⟨_,_,rfl⟩
  obtain ⟨a,b,hab⟩:=this;rw [hab] at all ⊢;exact uJa all
theorem uBj.frames(H:uBj C G B A F own env n)(hm:F.hm=false){σ:St}{h:Heap}(R:uAs C G B own σ h):A.frames=some (G.fenv::G.outer):=by
 obtain ⟨g,X,hg,hX,r⟩:=R;rw [(H.hd hm).1];exact Around.frames_deeper hg.below.stack
theorem uM2(S:Snd C r n)(H:uBj C G B A F own env n)(R:uAs C G B own σ s.heap){f:AV}{rf:Value}{xs:List AV}{us:List Value}(hf:VR C.τ (adr own) f rf)(hx:VRs C.τ (adr own) xs us) :
  uAg C G B A own σ s (uA0 r F f xs) (PySem.call rf us) (VR C.τ):=by
 unfold uA0;generalize hm:F.hm=zz;induction zz using Bool.casesOn with
 | true=>
  rw [if_pos rfl];by_cases hp:f=.st (.builtin "list.pop")
  ·subst hp;rw [if_pos rfl];cases hf with
   | st=>
   induction hx using FA.casesOn with
   | nil=>exact uAg.fail rfl
   | cons h1 hr=>
    induction hr using FA.casesOn with
    | nil=>exact .lift R fun g X hg hX R=>uMs R h1
    | cons=>exact uAg.fail rfl
  ·rw [if_neg hp];exact uAg.fail rfl
 | false=>
  rw [if_neg (by decide)];exact S.call H.X H.f H.blk (H.frames hm R) H.dep H.uni (H.hd hm).2 R hf hx
theorem uIs(S:Snd C r n){f:AV}{xs:List AV}(h:uA0 r F f xs σ≠none):KeepA C.P σ f:=by
 unfold uA0 at h;generalize hm:F.hm=zz;induction zz using Bool.casesOn with
 | true=>
  rw [hm,if_pos rfl] at h;by_cases hp:f=.st (.builtin "list.pop")
  ·subst hp;trivial
  ·rw [if_neg hp] at h;exact absurd rfl h
 | false=>
  rw [hm,if_neg (by decide)] at h;exact S.keeper _ _ _ h
theorem uHl(S:Snd C r n)(H:uBj C G B A F own env n)(R:uAs C G B own σ s.heap){args:List Expr}{pos:Pos}{f:AV}{rf:Value}{first:List AV}{rfirst:List Value}(hf:VR C.τ (adr own) f rf)(h1:VRs C.τ (adr own) first rfirst) :
  uAg C G B A own σ s (M.bind (evL r F args) fun vs=>uA0 r F f (first++vs)) (callWith pos rf rfirst (backTo pos (starEach args env)) []) (VR C.τ):=⟨fun Q E gd=>by
 have main:wpAny (model C.prog C.w) A (evalArgs rf true (backTo pos (starEach args env)) []) (fun a s₁=>KeepH (model C.prog C.w) rf s₁.heap∧wpAny (model C.prog C.w) A (PySem.call rf (rfirst++a.pos) a.kw) Q E s₁) E s:=by
  refine uKv S args H R gd fun xs σ1 own1 h1' tk1 us p1 R1 x1 gd1=>⟨?_,?_⟩
  ·obtain ⟨z,σ',hz⟩:=gd1.some;exact uUy H.X H.f R1 (hf.mono p1) (uIs S (by rw [hz];exact fun h=>nomatch h))
  ·exact (uM2 S (H.grow p1) R1 (hf.mono p1) (uCv (VRs.mono p1 h1) x1)).go _ _ gd1
 generalize hst:(backTo pos (starEach args env)).any (·.1)=zz;induction zz using Bool.casesOn with
 | false=>exact callWith_of (P:=KeepH (model C.prog C.w) rf) (by rw [hst];rfl) (fun h p=>p) main
 | true=>exact ks_call (P:=KeepH (model C.prog C.w) rf) hst (fun h p=>p) main⟩
end calls
end
section
theorem uMj{β:Type}:∀ (ns:List Str) (us:List β),ns.length≤us.length→∀ n∈ns,((ns.zip us).lookup n).isNone=false:=by
 intro ns;induction ns with
 | nil=>exact fun _ _ _ h=>absurd h List.not_mem_nil
 | cons m ns ih=>
  intro us h n hn;rcases us with _|⟨u,us⟩
  ·cases h
  rw [List.zip_cons_cons,List.lookup_cons];generalize q:(n==m)=zz;induction zz using Bool.casesOn with
  | true=>rfl
  | false=>
   refine ih us (Nat.le_of_succ_le_succ h) n ?_;rcases List.mem_cons.mp hn with e|e
   ·rw [e,beq_self_eq_true] at q;cases q
   ·exact e
theorem uGy{β:Type}{ns:List Str}{us:List β}(h:ns.length≤us.length)(k:Nat):(ns.take k).filter (fun n=>((ns.zip us).lookup n).isNone)=[]:=by
 rw [List.filter_eq_nil_iff];intro n hn;rw [uMj ns us h n (List.mem_of_mem_take hn)];decide
theorem uLn{β:Type}:∀ (ns:List Str) (us:List β),ns.length≤us.length→ns.Nodup→ns.filterMap (fun n=>((ns.zip us).lookup n).map fun x=>(n,x))=ns.zip us:=by
 intro ns;induction ns with
 | nil=>exact fun _ _ _=>rfl
 | cons m ns ih=>
  intro us h hn;rcases us with _|⟨u,us⟩
  ·cases h
  rw [List.nodup_cons] at hn;rw [List.zip_cons_cons,List.filterMap_cons,List.lookup_cons,beq_self_eq_true];dsimp only [Option.map_some];have e:∀ n∈ns,(((m,u)::ns.zip us).lookup n).map (fun x=>(n,x))=((ns.zip us).lookup n).map fun x=>(n,x):=fun n hn'=>by
   rw [List.lookup_cons];have:(n==m)=false:=beq_false_of_ne fun q=>hn.1 (q▸hn');rw [this]
  have f:∀ (f g:Str→Option (Str×β)) (l:List Str),(∀ n∈l,f n=g n)→l.filterMap f=l.filterMap g:=fun f g l h=>by
   induction l with
   | nil=>rfl
   | cons a l ih=>rw [List.filterMap_cons,List.filterMap_cons,h a (.head _),ih fun n hn=>h n (.tail _ hn)]
  rw [f _ _ _ e,ih us (Nat.le_of_succ_le_succ h) hn.2]
section
variable {M:Model}{A:Around}{E:Value→Shared→Prop}{s:Shared}{us:List Value}{Q:List (Str×Value)→Shared→Prop}
theorem uEg{β:Type}{c:Prop}[Decidable c]{a b:Sem β}{Q:β→Shared→Prop}(h:¬ c)(k:wpAny M A b Q E s):wpAny M A (if c then a else b) Q E s:=by rw [if_neg h];exact k
theorem uYg{β:Type}{c:Prop}[Decidable c]{a b:Sem β}{Q:β→Shared→Prop}(h:c)(k:wpAny M A a Q E s):wpAny M A (if c then a else b) Q E s:=by rw [if_pos h];exact k
theorem uIt{α β:Type}{l:List α}{b:β}{f:α→β→Sem (ForInStep β)}{Q:β→Shared→Prop}(h:l=[])(k:Q b s):wpAny M A (forIn l b f) Q E s:=by subst h;exact wpAny_pure k
theorem nt{b:Bool}(h:b=false):¬ (b=true):=by rw [h];decide
theorem uGt{fd:FuncData}(h1:fd.params.posonlyargs=[])(h2:fd.params.kwonlyargs=[])(h3:fd.params.kwarg=none)(hv:fd.params.vararg=none)(hd:fd.defaults=.none)
  (hn:(fd.params.args.map (·.arg)).Nodup) (hl:us.length=(fd.params.args.map (·.arg)).length) (h:Q ((fd.params.args.map (·.arg)).zip us) s):wpAny M A (bindArgs fd ⟨us,[]⟩) Q E s:=by
 obtain ⟨_,_,⟨po,as,va,ko,kd,kw,df⟩,_,_,_,_,dfl,_,_,_,_,_,_,_⟩:=fd;dsimp only at h1 h2 h3 hv hd hn hl h;subst h1 h2 h3 hv hd;have z:us.length≤(as.map (·.arg)).length:=Nat.le_of_eq hl;have z2:(as.map (·.arg)).length≤us.length:=Nat.le_of_eq hl.symm;refine wpAny_bind (wpAny_pure ?_);refine wpAny_bind (wpAny_bind (wpAny_pure (wpAny_pure ?_)));refine uEg (c:=(decide (us.length > (as.map (·.arg)).length)&&true)=true) (nt (by rw [decide_eq_false (Nat.not_lt_of_le z)];rfl)) ?_;refine uEg (nt (congrArg (fun l=>!List.isEmpty l) (uGy z2 _))) ?_;refine wpAny_bind (uIt ((congrArg _ (List.drop_nil ..)).trans (List.zip_nil_right ..)) ?_);refine wpAny_bind (wpAny_pure ?_);refine uEg Bool.false_ne_true (wpAny_pure ?_);exact ((congrArg _ (List.append_nil _)).trans (uLn _ us z2 hn)).symm▸h
theorem uL6{fd:FuncData}{a:Arg}(h1:fd.params.posonlyargs=[])(h2:fd.params.kwonlyargs=[])(h3:fd.params.kwarg=none)(hv:fd.params.vararg=some a)(hd:fd.defaults=.none)
  (hn:(fd.params.args.map (·.arg)).Nodup) (hl:(fd.params.args.map (·.arg)).length≤us.length)
  (h:wpAny M A (newTuple (us.drop (fd.params.args.map (·.arg)).length)) (fun v s'=>Q ((fd.params.args.map (·.arg)).zip us++[(a.arg,v)]) s') E s):wpAny M A (bindArgs fd ⟨us,[]⟩) Q E s:=by
 obtain ⟨_,_,⟨po,as,va,ko,kd,kw,df⟩,_,_,_,_,dfl,_,_,_,_,_,_,_⟩:=fd;dsimp only at h1 h2 h3 hv hd hn hl h;subst h1 h2 h3 hv hd;refine wpAny_bind (wpAny_pure ?_);refine wpAny_bind (wpAny_bind (wpAny_pure (wpAny_pure ?_)));refine uEg (c:=(decide (us.length > (as.map (·.arg)).length)&&false)=true) (nt (Bool.and_false _)) ?_;refine uEg (nt (congrArg (fun l=>!List.isEmpty l) (uGy hl _))) ?_;refine wpAny_bind (uIt ((congrArg _ (List.drop_nil ..)).trans (List.zip_nil_right ..)) ?_);refine wpAny_bind (wpAny_pure ?_);refine uEg Bool.false_ne_true ?_;refine wpAny_bind (wpAny_mono h (fun v s' q=>wpAny_pure ?_) fun _ _ e=>e);exact (congrArg (·++[(a.arg,v)]) ((congrArg _ (List.append_nil _)).trans (uLn _ us hl hn))).symm▸q
theorem uLr{fd:FuncData}{a b:Str}{T:Addr}{o:Obj}{n:Nat}{u:Value}(h1:fd.params.posonlyargs=[])(h2:fd.params.kwonlyargs=[])(h3:fd.params.kwarg=none)(hv:fd.params.vararg=none)(hd:fd.defaults=.ref T)(ho:s.heap.get? T=some o)(hs:o.data=.seq #[.none] n)
  (hn:fd.params.args.map (·.arg)=[a,b]) (hab:a≠b) (h:Q [(a,u),(b,.none)] s):wpAny M A (bindArgs fd ⟨[u],[]⟩) Q E s:=by
 obtain ⟨_,_,⟨po,as,va,ko,kd,kw,df⟩,_,_,_,_,dfl,_,_,_,_,_,_,_⟩:=fd;dsimp only at h1 h2 h3 hv hd hn h;subst h1 h2 h3 hv hd;unfold bindArgs;dsimp only [List.map_nil,List.nil_append];rw [hn];obtain ⟨c,d,dt,sl⟩:=o;have hs:dt=.seq #[.none] n:=hs;subst hs;have e1:(b==a)=false:=beq_false_of_ne hab.symm;refine wpAny_bind (wpAny_pure ?_);refine wpAny_bind (wpAny_bind (wpAny_load ho (wpAny_pure ?_)));refine uEg Bool.false_ne_true ?_;refine uEg (nt (by simp [List.lookup_cons])) ?_;refine wpAny_bind ?_;have e2:List.lookup b [(a,u)]=none:=by rw [List.lookup_cons,e1];rfl
 refine wpAny_bind (m:=if (List.lookup b [(a,u)]).isNone=true then pure (ForInStep.yield ([(a,u)]++[(b,Value.none)])) else pure (ForInStep.yield [(a,u)])) (uYg (by rw [e2];rfl) (wpAny_pure (wpAny_pure ?_)));refine wpAny_bind (wpAny_pure ?_);refine uEg Bool.false_ne_true (wpAny_pure ?_);have e3:List.filterMap (fun n=>Option.map (fun x=>(n,x)) (List.lookup n [(a,u),(b,Value.none)])) [a,b]=[(a,u),(b,.none)]:=by
  have l1:List.lookup a [(a,u),(b,Value.none)]=some u:=by rw [List.lookup_cons,beq_self_eq_true]
  have l2:List.lookup b [(a,u),(b,Value.none)]=some .none:=by rw [List.lookup_cons,e1,List.lookup_cons,beq_self_eq_true]
  simp only [List.filterMap_cons,l1,l2,Option.map_some,List.filterMap_nil]
 exact e3.symm▸h
end
end
section
noncomputable def notAt(L:Addr)(X:Own):Own:=X.filter fun p=>!(p.1==L)
theorem uGs{L:Addr}{X:Own}{p:Addr×Obj}:p∈notAt L X↔p∈X∧p.1≠L:=by
 unfold notAt;rw [List.mem_filter];simp
section side
variable {C:Cx}{G:Gm}{B:Bl}{A:Around}{own own':Own}{σ σ':St}{g g' g'' h h':Heap}{X:Own}
structure Side(G:Gm)(B:Bl)(own X:Own)(σ:St)(g h:Heap)(τ:uBt)(m:Str→Option Value)(N:Own):Prop where
 fr:Fr g G.Lf h m
 news:News g G.Lf h (own++N)
 off:∀ p∈own,∀ q∈N,p.1≠q.1
 xs:∀ p∈X,p.1≠G.Lf→p∈N
 lc:B.Lc≠G.Lf→∃ oL mc,(B.Lc,oL)∈N∧LCg.NsObj oL mc∧∀ x v,σ.L.lookup x=some v→∃ rv,mc x=some rv∧VR τ (adr own) v rv
 same:B.Lc=G.Lf→N=X∧∀ x v,σ.L.lookup x=some v→∃ rv,m x=some rv∧VR τ (adr own) v rv
set_option tactic.hygienic true in
theorem uTo(f₀:uDg G)(bk:BkOk G B)(hg:GT C G g)(hX:Fit B.XP X)(r:uA5 C (G.at g) (B.ex X) own σ h) : ∃ m N,Side G B own X σ g h C.τ m N:=by
 by_cases e:B.Lc=G.Lf
 ·obtain ⟨mc,F,hF⟩:=r.fr;refine ⟨mc,X,?_,?_,r.off,fun p hp _=>hp,fun q=>absurd e q,fun _=>⟨rfl,hF⟩⟩
  ·rw [← e];exact F
  ·rw [← e];exact r.news
 ·rcases bk with q|⟨⟨m,hm⟩,st⟩
  ·exact absurd q e
  ·have : ∃ o,(G.Lf,o)∈X∧LCg.NsObj o m:=by
    clear r st;generalize B.XP=XP at hX hm;induction hX with
    | nil=>cases hm
    | cons x _ ih=>
     rcases List.mem_cons.mp hm with q|q
     ·rename_i a b l r' _;obtain ⟨b1,b2⟩:=b;subst q;obtain ⟨x1,x2⟩:=x;dsimp only at x1 x2;subst x1;exact ⟨_,.head _,x2⟩
     ·obtain ⟨o,o1,o2⟩:=ih q;exact ⟨o,.tail _ o1,o2⟩
   obtain ⟨o,o1,o2⟩:=this;obtain ⟨mc,hns,hl⟩:=r.ns;obtain ⟨oL,ho,hN⟩:=LCg.ns_obj hns;have x1:=r.xAt _ o1;have nL:g.get? B.Lc=none:=uA8 r.above;refine ⟨m,(B.Lc,oL)::notAt G.Lf X,⟨o2.ns x1.1,r.keep,?_⟩,?_,?_,?_,fun _=>⟨oL,mc,.head _,hN,hl⟩,fun q=>absurd q e⟩
   ·show g.objs.size≤G.Lf;rw [hg.turn.size];exact f₀.lf
   ·intro p hp;rcases List.mem_append.mp hp with hp|hp
    ·exact ⟨(r.ownAt p hp).1,r.off p hp _ o1,(r.ownAt p hp).2.2⟩
    ·rcases List.mem_cons.mp hp with rfl|hp
     ·exact ⟨ho,e,nL⟩
     ·obtain ⟨h1,h2⟩:=uGs.mp hp;exact ⟨(r.xAt p h1).1,h2,(r.xAt p h1).2.2⟩
   ·intro p hp q hq;rcases List.mem_cons.mp hq with rfl|hq
    ·exact (r.ownAt p hp).2.1
    ·exact r.off p hp q (uGs.mp hq).1
   ·exact fun p hp hn=>.tail _ (uGs.mpr ⟨hp,hn⟩)
noncomputable abbrev Gm.call(G:Gm)(A:Around)(env:Env)(L:Addr)(g:Heap):Gm:=⟨g,A,env,L,G.fenv::G.outer⟩
noncomputable abbrev callB(L:Addr)(N:Own):Bl:=⟨L,N.map fun p=>(p.1,(·=p.2))⟩
set_option tactic.hygienic true in
theorem uIm(N:Own):∀ {X:Own},Fit (N.map fun p=>(p.1,(·=p.2))) X↔X=N:=by
 induction N with
 | nil=>
  intro X;constructor
  ·intro h;cases h;rfl
  ·intro h;subst h;exact .nil
 | cons a N ih=>
  intro X;constructor
  ·intro h;cases h with
   | cons x y=>
    rename_i b l;rw [ih.mp y];obtain ⟨x1,x2⟩:=x;obtain ⟨b1,b2⟩:=b;dsimp only at x1 x2;rw [← x1,x2]
  ·intro h;subst h;exact .cons ⟨rfl,rfl⟩ (ih.mpr rfl)
theorem uKa(f₀:uDg G)(A:Around)(env:Env)(L:Addr)(g:Heap):fs (G.call A env L g)=G.Lf::fs G:=by
 show (G.fenv::G.outer).filterMap (·.frame)=_;rw [List.filterMap_cons,f₀.fl];rfl
theorem uGx(f₀:uDg G)(hg:GT C G g){m:Str→Option Value}(F:Fr g G.Lf g' m)(T:KtsTurn (G.Lf::fs G) g' g'')(keep:∀ b o,g''.get? b=some o→h'.get? b=some o) :
  ∃ g₂,GT C G g₂∧(∀ b o,g₂.get? b=some o→g''.get? b=some o)∧(∀ b,g.get? b=none→g₂.get? b=none)∧g₂.objs.size=g.objs.size:=by
 have K:=hg.below;have nL:∀ b o,g.get? b=some o→b≠G.Lf:=fun b o e q=>by
  have:=Heap.lt_size e;rw [q] at this;exact absurd this (Nat.not_lt.mpr F.above)
 obtain ⟨T₂,S⟩:=kts_turn_at (h:=g'') (fs:=fs G) (g:=g)
  (fun b hb=>by
   obtain ⟨_,o,ho,_⟩:=K.frames.mem hb;exact ⟨o,ho⟩)
  (fun b o e nm=>T.other b o (F.keep b o e) fun hm=>by
   rcases List.mem_cons.mp hm with q|q
   ·exact nL b o e q
   ·exact nm q)
  (fun b o e hm=>T.frame b o (F.keep b o e) (.tail _ hm))
 refine ⟨_,⟨hg.turn.trans T₂,⟨K.stack,fun b o e=>T₂.other b o (K.stays b o e) (fun hm=>by
  rw [(K.frames.mem hm).1] at e;cases e),K.frames.of_keeps fun b o e _=>?_⟩,hg.dicts.turn T₂⟩,S,T₂.none_,T₂.size⟩
 obtain ⟨sl,hs⟩:=T₂.up e;exact ⟨_,hs,rfl⟩
set_option tactic.hygienic true in
theorem uRh(f₀:uDg G)(bk:BkOk G B)(hg:GT C G g)(hX:Fit B.XP X){m:Str→Option Value}{N:Own}(r:uA5 C (G.at g) (B.ex X) own σ h)(sd:Side G B own X σ g h C.τ m N)
  (F:Fr g G.Lf g' m) (gx:∀ b o,h.get? b=some o→b∉adr own→b∉adr N→g'.get? b=some o) (T:KtsTurn (G.Lf::fs G) g' g'') {L':Addr} (r':Rel C.prog C.w C.τ g'' L' N own' σ' h') (p:adr own<+:adr own') :
  uAs C G B own' ⟨σ.L,σ'.H⟩ h':=by
 obtain ⟨g₂,hg₂,S,nn,sz⟩:=uGx f₀ hg F T r'.keep;have S' : ∀ b o,g₂.get? b=some o→h'.get? b=some o:=fun b o e=>r'.keep b o (S b o e);have nL:∀ b o,g₂.get? b=some o→b≠G.Lf:=fun b o e q=>by
  have:=Heap.lt_size e;rw [q,sz] at this;exact absurd this (Nat.not_lt.mpr F.above)
 obtain ⟨oF,hoF,hNF⟩:=LCg.ns_obj F.ns;obtain ⟨sl,hoF2⟩:=T.up hoF;have hoF3:=r'.keep _ _ hoF2;have ne:∀ b o,g''.get? b=some o→∀ q∈own',q.1≠b:=fun b o e q hq z=>by
  have:=(r'.ownAt q hq).2.2;rw [z,e] at this;cases this
 have g2n:∀ b,g''.get? b=none→g₂.get? b=none:=fun b e=>by
  generalize q:g₂.get? b=zz;induction zz using Option.casesOn with
  | none=>rfl
  | some o=>rw [S b o q] at e;cases e
 by_cases e:B.Lc=G.Lf
 ·obtain ⟨rfl,hl⟩:=sd.same e;refine ⟨g₂,N,hg₂,hX,⟨⟨m,?_,fun x v q=>?_⟩,S',?_,fun p hp=>⟨(r'.ownAt p hp).1,?_,g2n _ (r'.ownAt p hp).2.2⟩,fun p hp=>⟨(r'.xAt p hp).1,(r.xAt p hp).2.1,g2n _ (r'.xAt p hp).2.2⟩,r'.nd,r'.off,r'.objs,(by show sysModules<g₂.objs.size;rw [sz];exact r.big),r'.low⟩⟩
  ·show h'.Ns B.Lc m;rw [e];exact LCg.NsObj.ns (o:={ oF with slots:=sl }) hNF hoF3
  ·obtain ⟨rv,a,b⟩:=hl x v q;exact ⟨rv,a,b.mono p⟩
  ·show g₂.objs.size≤B.Lc;rw [sz];exact r.above
  ·show p.1≠B.Lc;rw [e];exact ne _ _ hoF2 p hp
 ·obtain ⟨oL,mc,hm,hN,hl⟩:=sd.lc e;rcases bk with q|⟨_,st⟩
  ·exact absurd q e
  have hL:=r'.xAt _ hm;let X₂:Own:=X.map fun p=>if p.1=G.Lf then (p.1,{ p.2 with slots:=sl }) else p
  have hF₁:∀ p∈X,p.1=G.Lf→p.2=oF:=fun p hp q=>by
   have h1:=(r.xAt p hp).1;have h2:h.get? G.Lf=some oF:=by
    obtain ⟨o2,ho2,_⟩:=LCg.ns_obj sd.fr.ns;have n1:G.Lf∉adr own:=fun hm=>by
     obtain ⟨p,hp,q⟩:=List.mem_map.mp hm;exact (sd.news p (List.mem_append_left _ hp)).2.1 q
    have n2:G.Lf∉adr N:=fun hm=>by
     obtain ⟨p,hp,q⟩:=List.mem_map.mp hm;exact (sd.news p (List.mem_append_right _ hp)).2.1 q
    have:=gx _ _ ho2 n1 n2;rw [hoF] at this;cases this;exact ho2
   rw [q,h2] at h1;exact (Option.some.inj h1).symm
  have mem2:∀ p∈X₂,(p.1=G.Lf∧h'.get? p.1=some p.2)∨(p∈X∧p.1≠G.Lf):=fun p hp=>by
   obtain ⟨q,hq,rfl⟩:=List.mem_map.mp hp;by_cases z:q.1=G.Lf
   ·rw [if_pos z];refine .inl ⟨z,?_⟩;rw [z,hF₁ q hq z];exact hoF3
   ·rw [if_neg z];exact .inr ⟨hq,z⟩
  have hLc:B.Lc≠G.Lf:=e;refine ⟨g₂,X₂,hg₂,?_,⟨⟨mc,?_,fun x v q=>?_⟩,S',?_,fun p hp=>⟨(r'.ownAt p hp).1,?_,g2n _ (r'.ownAt p hp).2.2⟩,fun p hp=>?_,r'.nd,fun p hp q hq=>?_,r'.objs,(by show sysModules<g₂.objs.size;rw [sz];exact r.big),r'.low⟩⟩
  ·clear mem2 sd r gx hF₁;show Fit B.XP (X.map _);have st':=st;generalize B.XP=XP at hX st';clear st;induction hX with
   | nil=>exact .nil
   | cons x _ ih=>
    refine .cons ?_ (ih fun p hp=>st' p (.tail _ hp));rename_i a b _ _ _;by_cases z:b.1=G.Lf
    ·dsimp only;rw [if_pos z];exact ⟨x.1,st' a (.head _) (x.1.trans z) b.2 sl x.2⟩
    ·dsimp only;rw [if_neg z];exact x
  ·exact hN.ns hL.1
  ·obtain ⟨rv,a,b⟩:=hl x v q;exact ⟨rv,a,b.mono p⟩
  ·show g₂.objs.size≤B.Lc;rw [sz];exact r.above
  ·exact r'.off p hp _ hm
  ·rcases mem2 p hp with ⟨z1,z2⟩|⟨z1,z2⟩
   ·refine ⟨z2,fun q=>hLc (q.symm.trans z1),?_⟩;show g₂.get? p.1=none;generalize q:g₂.get? p.1=zz;induction zz using Option.casesOn with
    | none=>rfl
    | some o=>exact absurd z1 (nL _ _ q)
   ·have:=r'.xAt p (sd.xs p z1 z2);exact ⟨this.1,(r.xAt p z1).2.1,g2n _ this.2.2⟩
  ·rcases mem2 q hq with ⟨z1,z2⟩|⟨z1,z2⟩
   ·rw [z1];exact ne _ _ hoF2 p hp
   ·exact r'.off p hp q (sd.xs q z1 z2)
end side
end
section
noncomputable def uBv(n:Nat):List (Str×NameKind)→List (Str×Nat)
 | []=>[]
 | (x,k)::r=>if k=.cell then (x,n)::uBv (n+1) r else uBv n r
theorem uBk(n:Nat)(x:Str)(k:NameKind)(r:List (Str×NameKind)):uBv n ((x,k)::r)=if k=.cell then (x,n)::uBv (n+1) r else uBv n r:=rfl
theorem uCo:∀ (ns:List (Str×NameKind)) (n:Nat) (x:Str) (i:Nat),(x,i)∈uBv n ns→x∈ns.map (·.1)∧n≤i:=by
 intro zz;induction zz with
 | nil=>
  intro _ _ _ h;cases h
 | cons zq ns ih=>
  obtain ⟨y,k⟩:=zq;intro n x i h;rw [uBk] at h;by_cases hk:k=.cell
  ·rw [if_pos hk] at h;rcases List.mem_cons.mp h with e|h
   ·cases e;exact ⟨.head _,Nat.le_refl _⟩
   ·obtain ⟨a,b⟩:=ih _ _ _ h;exact ⟨.tail _ a,by lia⟩
  ·rw [if_neg hk] at h;obtain ⟨a,b⟩:=ih _ _ _ h;exact ⟨.tail _ a,b⟩
theorem uFb:∀ (ns:List (Str×NameKind)) (n:Nat) (acc:List (Str×Addr)),cellsFrom n ns acc=(uBv n ns).reverse++acc:=by
 intro zz;induction zz with
 | nil=>
  intro _ _;exact rfl
 | cons zq ns ih=>
  obtain ⟨y,k⟩:=zq;intro n acc;rw [uBk];by_cases hk:k=.cell
  ·subst hk;have:cellsFrom n ((y,NameKind.cell)::ns) acc=cellsFrom (n+1) ns ((y,n)::acc):=rfl;rw [this,ih,if_pos rfl,List.reverse_cons,List.append_assoc];rfl
  ·have hk':(k==NameKind.cell)=false:=by simpa using hk
   have:cellsFrom n ((y,k)::ns) acc=cellsFrom n ns acc:=by
    show (if (k==NameKind.cell)=true then _ else _)=_;rw [hk'];rfl
   rw [this,ih,if_neg hk]
theorem uF2{β:Type}{x y:Str}{v:β}:∀ (l:List (Str×β)),(l++[(y,v)]).lookup x=match l.lookup x with | some u=>some u | none=>if x=y then some v else none:=by
 intro zz;induction zz with
 | nil=>
  rw [List.nil_append,List.lookup_cons];by_cases h:x=y
  ·rw [if_pos h,h,beq_self_eq_true];rfl
  ·rw [if_neg h,beq_false_of_ne h];rfl
 | cons zq l ih=>
  obtain ⟨z,u⟩:=zq;rw [List.cons_append,List.lookup_cons,List.lookup_cons,ih];cases x==z<;>rfl
theorem uN6:∀ (ns:List (Str×NameKind)) (n:Nat) (x:Str),(ns.map (·.1)).Nodup→(uBv n ns).reverse.lookup x=(uBv n ns).lookup x:=by
 intro zz;induction zz with
 | nil=>
  intro _ _ _;exact rfl
 | cons zq ns ih=>
  obtain ⟨y,k⟩:=zq;intro n x h;rw [List.map_cons,List.nodup_cons] at h;rw [uBk];by_cases hk:k=.cell
  ·rw [if_pos hk,List.reverse_cons,uF2,ih _ x h.2,List.lookup_cons];by_cases hx:x=y
   ·have:(uBv (n+1) ns).lookup x=none:=by
     generalize q:((uBv (n+1) ns).lookup x)=zz;induction zz using Option.casesOn with
     | none=>rfl
     | some i=>exact absurd (uCo ns _ _ _ (uBz q)).1 (by rw [hx];exact h.1)
    rw [this,hx,beq_self_eq_true];simp
   ·rw [beq_false_of_ne hx,if_neg hx];cases (uBv (n+1) ns).lookup x<;>rfl
  ·rw [if_neg hk];exact ih _ x h.2
theorem uOk:∀ (ns:List (Str×NameKind)) (n m:Nat) (φ rest:List Addr),φ.drop m=(uBv n ns).map (·.2)++rest→∀ x i,(uBv m ns).lookup x=some i→∃ c,(uBv n ns).lookup x=some c∧φ[i]?=some c:=by
 intro zz;induction zz with
 | nil=>
  intro _ _ _ _ _ _ _ h;cases h
 | cons zq ns ih=>
  obtain ⟨y,k⟩:=zq;intro n m φ rest hd x i h;rw [uBk] at h hd ⊢;by_cases hk:k=.cell
  ·rw [if_pos hk] at h hd ⊢;rw [List.map_cons,List.cons_append] at hd;rw [List.lookup_cons] at h ⊢;generalize q:(x==y)=zz;induction zz using Bool.casesOn with
   | true=>
    rw [q] at h;cases h;refine ⟨n,rfl,?_⟩;have:=congrArg (fun l:List Addr=>l[0]?) hd;simpa using this
   | false=>
    rw [q] at h;refine ih (n+1) (m+1) φ rest ?_ x i h;have:=congrArg (fun l:List Addr=>l.drop 1) hd;simpa using this
  ·rw [if_neg hk] at h hd ⊢;exact ih n m φ rest hd x i h
noncomputable abbrev uFf(bs:List (Str×AV))(ns:List (Str×NameKind)):List AO:=(uBv 0 ns).map fun p=>.cell (bs.lookup p.1)
theorem uGm{β:Type}(f:Str→β):∀ (ns:List (Str×NameKind)) (n m:Nat),(uBv n ns).map (fun p=>f p.1)=(uBv m ns).map fun p=>f p.1:=by
 intro zz;induction zz with
 | nil=>
  intro _ _;exact rfl
 | cons zq ns ih=>
  obtain ⟨y,k⟩:=zq;intro n m;rw [uBk,uBk];by_cases hk:k=.cell
  ·rw [if_pos hk,if_pos hk,List.map_cons,List.map_cons,ih]
  ·rw [if_neg hk,if_neg hk];exact ih n m
theorem uIh(bs:List (Str×AV)):∀ (ns:List (Str×NameKind)) (σ:St),uA7 bs ns σ=some (.ok (uBv σ.H.length ns),⟨σ.L,σ.H++uFf bs ns⟩):=by
 intro zz;induction zz with
 | nil=>
  intro σ;show some (Res.ok [],σ)=_;unfold uFf uBv;rw [List.map_nil,List.append_nil]
 | cons zq ns ih=>
  obtain ⟨y,k⟩:=zq;intro σ;have e:uA7 bs ((y,k)::ns)=if k=.cell then M.bind (newN (.cell (bs.lookup y))) fun i=>M.bind (uA7 bs ns) fun c=>M.pure ((y,i)::c) else uA7 bs ns:=rfl
  rw [e,uBk];unfold uFf;rw [uBk];by_cases hk:k=.cell
  ·rw [if_pos hk,if_pos hk,if_pos hk];unfold M.bind newN;dsimp only;rw [ih];dsimp only;unfold M.pure;rw [List.length_append,List.length_singleton,List.map_cons,List.append_assoc];unfold uFf;rw [uGm (fun x=>AO.cell (bs.lookup x)) ns 0 (0+1)];rfl
  ·rw [if_neg hk,if_neg hk,if_neg hk];exact ih σ
noncomputable abbrev BindR(τ:uBt)(φ:List Addr)(bs:List (Str×AV))(rbs:List (Str×Value)):Prop:=FA (fun (b:Str×AV) (rb:Str×Value)=>b.1=rb.1∧VR τ φ b.2 rb.2) bs rbs
theorem uHo{τ:uBt}{φ:List Addr}{bs:List (Str×AV)}{rbs:List (Str×Value)}(h:BindR τ φ bs rbs)(x:Str):OVR τ φ (bs.lookup x) (rbs.lookup x):=by
 induction h with
 | nil=>exact .none
 | @cons b c _ _ a _ ih=>
  obtain ⟨b1,b2⟩:=b;obtain ⟨c1,c2⟩:=c;obtain ⟨a1,a2⟩:=a;dsimp only at a1 a2;subst a1;rw [List.lookup_cons,List.lookup_cons];cases x==b1
  ·exact ih
  ·exact .some a2
theorem uJu{τ:uBt}{φ:List Addr}{bs:List (Str×AV)}{rbs:List (Str×Value)}(h:BindR τ φ bs rbs):rbs.map (·.1)=bs.map (·.1):=by
 induction h with
 | nil=>rfl
 | cons a _ ih=>rw [List.map_cons,List.map_cons,ih,a.1]
theorem uCe{β:Type}{x:Str}{l:List (Str×β)}(h:x∉l.map (·.1)):l.lookup x=none:=by
 generalize q:l.lookup x=zz;induction zz using Option.casesOn with
 | none=>rfl
 | some v=>exact absurd (List.mem_map_of_mem (uBz q)) h
theorem uK0(k:Str→Option NameKind):∀ (r:List (Str×Value)) (m:Str→Option Value) (y:Str),(r.map (·.1)).Nodup→k y=some .local→bindL k r m y=match r.lookup y with | some v=>some v | none=>m y
 | [],_,_,_,_=>rfl
 | (n,v)::r,m,y,h,hy=>by
  rw [List.map_cons,List.nodup_cons] at h;have:bindL k ((n,v)::r) m=bindL k r (if k n=some .local then fun y=>if y=n then some v else m y else m):=rfl;rw [this,uK0 k r _ y h.2 hy,List.lookup_cons];by_cases q:y=n
  ·subst q;rw [beq_self_eq_true,uCe h.1,if_pos hy];simp
  ·rw [beq_false_of_ne q];generalize r.lookup y=zz;induction zz using Option.casesOn with
   | some u=>rfl
   | none=>dsimp only;split<;>simp [q]
theorem uK8(k:Str→Option NameKind):∀ (r:List (Str×Value)) (m:Str→Option Value) (y:Str),(r.map (·.1)).Nodup→k y≠some .local→bindC k r m y=match r.lookup y with | some v=>some v | none=>m y
 | [],_,_,_,_=>rfl
 | (n,v)::r,m,y,h,hy=>by
  rw [List.map_cons,List.nodup_cons] at h;have:bindC k ((n,v)::r) m=bindC k r (if k n=some .local then m else fun y=>if y=n then some v else m y):=rfl;rw [this,uK8 k r _ y h.2 hy,List.lookup_cons];by_cases q:y=n
  ·subst q;rw [beq_self_eq_true,uCe h.1,if_neg hy];simp
  ·rw [beq_false_of_ne q];generalize r.lookup y=zz;induction zz using Option.casesOn with
   | some u=>rfl
   | none=>dsimp only;split<;>simp [q]
theorem uNy{prog:Program}{w:World}{τ:uBt}{φ:List Addr}{h:Heap}{bs:List (Str×AV)}{cm:Str→Option Value}:∀ (l:List (Str×Nat)),(∀ p∈l,h.IsCell p.2 (cm p.1)∧OVR τ φ (bs.lookup p.1) (cm p.1))→
  ∃ cells:Own,adr cells=l.map (·.2)∧(∀ p∈cells,h.get? p.1=some p.2)∧FA (fun o (p:Addr×Obj)=>uG1 prog w τ φ o p.2) (l.map fun p=>AO.cell (bs.lookup p.1)) cells:=by
 intro zz;induction zz with
 | nil=>
  intro _;exact ⟨[],rfl,fun p hp=>(by cases hp),.nil⟩
 | cons zq l ih=>
  obtain ⟨x,c⟩:=zq;intro hl;refine Classical.byContradiction fun hn=>?_;obtain ⟨⟨o,ho,hd⟩,hv⟩:=hl (x,c) (.head _);refine hn ?_;clear hn;obtain ⟨cells,e1,e2,e3⟩:=ih fun p hp=>hl p (.tail _ hp);refine ⟨(c,o)::cells,by rw [adr,List.map_cons,List.map_cons];exact congrArg _ e1,fun p hp=>?_,.cons ⟨_,hd,hv⟩ e3⟩;rcases List.mem_cons.mp hp with rfl|hp
  ·exact ho
  ·exact e2 p hp
end
section
noncomputable def uB1(f:Fn):List Str:=f.params.args.map (·.arg)++(match f.params.vararg with | some a=>[a.arg] | none=>[])
inductive FnAt(K:Frag)(a:Addr)(f:Fn):Prop
 | mk oc od osl (dV kV doc pm:Value) (an:Option Addr) (cdv ct:Value):K.lookup a=some ⟨oc,od,.func (fnX f.name f.qual f.params f.body f.scope [] dV kV doc pm an cdv ct),osl⟩→codeIn K cdv f.qual=true→
  (f.dflt=false→dV=.none)→(f.dflt=true→∃ T o n,dV=.ref T∧K.lookup T=some o∧o.data=.seq #[.none] n)→FnAt K a f
structure FnOk(C:Cx)(a:Addr)(f:Fn):Prop where
 at_:FnAt C.K a f
 po:f.params.posonlyargs=[]
 ko:f.params.kwonlyargs=[]
 kw:f.params.kwarg=none
 nd:(uB1 f).Nodup
 loc:∀ x∈uB1 f,f.scope.names.lookup x=some .local∨f.scope.names.lookup x=some .cell
 names:uCw f.scope=true
 kind:f.scope.kind=.function
 co:f.scope.isCoroutine=false
 gen:f.scope.isGenerator=false
theorem uGj{β:Type}:∀ (ns:List Str) (us:List β),ns.length≤us.length→(ns.zip us).map (·.1)=ns:=by
 intro ns;induction ns with
 | nil=>exact fun _ _=>rfl
 | cons n ns ih=>
  intro us h;rcases us with _|⟨u,us⟩
  ·cases h
  ·exact congrArg (n::·) (ih us (Nat.le_of_succ_le_succ h))
theorem uJi{τ:uBt}{φ:List Addr}(ns:List Str){xs:List AV}{us:List Value}(q:VRs τ φ xs us):BindR τ φ (ns.zip xs) (ns.zip us):=by
 induction q generalizing ns with
 | nil=>induction ns using List.casesOn<;>exact .nil
 | cons h t ih=>
  induction ns using List.casesOn with
  | nil=>exact .nil
  | cons n ns=>exact .cons ⟨rfl,h⟩ (ih ns)
theorem uMp{τ:uBt}{φ ψ:List Addr}{bs:List (Str×AV)}{rbs:List (Str×Value)}(p:φ<+:ψ)(h:BindR τ φ bs rbs):BindR τ ψ bs rbs:=uDd (fun _ _ x=>⟨x.1,x.2.mono p⟩) h
section
variable {C:Cx}{G:Gm}{B:Bl}{A:Around}{own:Own}{σ σ₁:St}{s:Shared}
theorem uKx{ns:List Str}{xs:List AV}{s:St}{z:Res (List (Str×AV))×St}(h:bindD ns xs s=some z) : ∃ x y v,ns=[x,y]∧xs=[v]∧z=(.ok [(x,v),(y,.none)],s):=by
 rcases ns with _|⟨x,_|⟨y,_|⟨w,ns⟩⟩⟩
 ·exact nn h
 ·exact nn h
 ·rcases xs with _|⟨v,_|⟨u,xs⟩⟩
  ·exact nn h
  ·exact ⟨x,y,v,rfl,rfl,(Option.some.inj h).symm⟩
  ·exact nn h
 ·exact nn h
theorem uQf(f₀:uDg G)(X₀:CxOk C){a:Addr}{f:Fn}(fo:FnOk C a f)(R:uAs C G B own σ s.heap){xs:List AV}{us:List Value}(hx:VRs C.τ (adr own) xs us){dV kV doc pm:Value}{an:Option Addr}{cdv ct:Value}
  (d1:f.dflt=false→dV=.none) (d2:f.dflt=true→∃ T o n,dV=.ref T∧C.K.lookup T=some o∧o.data=.seq #[.none] n) {bs:List (Str×AV)} (hb:bindP f xs σ=some (.ok bs,σ₁))
  {M:Model} {Q:List (Str×Value)→Shared→Prop} {E:Value→Shared→Prop}
  (k:∀ own1 h1 tk rbs,adr own<+:adr own1→uAs C G B own1 σ₁ h1→BindR C.τ (adr own1) bs rbs→bs.map (·.1)=uB1 f→Q rbs { s with heap:=h1,toks:=tk }) :
  wpAny M A (bindArgs (fnX f.name f.qual f.params f.body f.scope [] dV kV doc pm an cdv ct) ⟨us,[]⟩) Q E s:=by
 have hlen:=uAn hx;have nd:=fo.nd;unfold uB1 at nd;unfold bindP at hb;have k':=k;unfold uB1 at k';generalize hv:f.params.vararg=zz;induction zz using Option.casesOn with
 | some ar=>
  rw [hv] at hb nd;dsimp only at hb nd;by_cases hc:f.dflt=false∧(f.params.args.map (·.arg)).length≤xs.length∧xs.length≤lz
  ·replace hb:=(if_pos hc).symm.trans hb;obtain ⟨c1,c2,c3⟩:=hc;cases hb;rw [hv] at k';dsimp only at k';have c2':(f.params.args.map (·.arg)).length≤us.length:=by rw [← hlen];exact c2
   refine uL6 (a:=ar) fo.po fo.ko fo.kw hv (d1 c1) (List.nodup_append.mp nd).1 c2' ?_;have hd:(xs.drop (f.params.args.map (·.arg)).length).length≤lz:=by rw [List.length_drop];exact Nat.le_trans (Nat.sub_le _ _) c3
   have hdl:=uAn (uH0 hx (f.params.args.map (·.arg)).length);refine wpAny_newObj_type ?_ (by show (us.drop _).toArray.size≤sizeLine;rw [List.size_toArray,← hdl];exact uBa hd);obtain ⟨R2,v2⟩:=uEj R (o:=.tup (xs.drop (f.params.args.map (·.arg)).length)) (ob:={ cls:=.type "tuple",data:=.seq (us.drop (f.params.args.map (·.arg)).length).toArray }) fun D=>⟨0,_,rfl,VRs.mono (uAj _ _) (uH0 hx _),uBa hd⟩
   refine k' _ _ s.toks _ (uAj _ _) R2 (uCv (uMp (uAj _ _) (uJi _ hx)) (.cons ⟨rfl,v2⟩ .nil)) ?_;rw [List.map_append,uGj _ _ c2];rfl
  ·rw [if_neg hc] at hb;exact nn hb
 | none=>
  rw [hv] at hb nd;dsimp only at hb nd;rw [List.append_nil] at nd;rw [hv] at k';dsimp only at k';rw [List.append_nil] at k';by_cases hd:f.dflt=false
  ·rw [if_pos hd] at hb;by_cases hc:xs.length=(f.params.args.map (·.arg)).length
   ·rw [if_pos hc] at hb;cases hb;refine uGt fo.po fo.ko fo.kw hv (d1 hd) nd (by show us.length=_;rw [← hlen];exact hc) ?_;exact k' own s.heap s.toks _ (List.prefix_refl _) R (uJi _ hx) (uGj _ _ (Nat.le_of_eq hc.symm))
   ·rw [if_neg hc] at hb;exact nn hb
  ·replace hb:=(if_neg hd).symm.trans hb;have hd':f.dflt=true:=by simpa using hd
   obtain ⟨T,o,n,t1,t2,t3⟩:=d2 hd';obtain ⟨x,y,v,e,e',q⟩:=uKx hb;subst e';cases q;cases hx with
   | cons v1 vr=>
    cases vr;obtain ⟨g,X,hg,hX,r⟩:=R;rw [e] at nd k';refine uLr (a:=x) (b:=y) fo.po fo.ko fo.kw hv t1 ((hg.ok X₀ f₀).K.keeps r.keep _ _ t2) t3 e (fun q=>?_) ?_
    ·rw [q] at nd;simp at nd
    ·exact k' own s.heap s.toks _ (List.prefix_refl _) ⟨g,X,hg,hX,r⟩ (.cons ⟨rfl,v1⟩ (.cons ⟨rfl,.none⟩ .nil)) rfl
end
section enter
variable {C:Cx}{G:Gm}{B:Bl}{A:Around}{own:Own}{σ:St}{s:Shared}
theorem uKg{l:List (Str×AV)}{p:Str→Bool}{x:Str}{v:AV}:(l.filter fun b=>p b.1).lookup x=some v→l.lookup x=some v∧p x=true:=by
 induction l with
 | nil=>intro h;cases h
 | cons a l ih=>
  obtain ⟨y,u⟩:=a;intro h;rw [List.filter_cons] at h;rw [List.lookup_cons];by_cases hp:p y=true
  ·rw [if_pos hp,List.lookup_cons] at h;generalize q:(x==y)=zz;induction zz using Bool.casesOn with
   | true=>rw [q] at h;rw [eq_of_beq q];exact ⟨h,hp⟩
   | false=>rw [q] at h;exact ih h
  ·rw [if_neg hp] at h;obtain ⟨h1,h2⟩:=ih h;generalize q:(x==y)=zz;induction zz using Bool.casesOn with
   | true=>rw [eq_of_beq q] at h2;exact absurd h2 hp
   | false=>exact ⟨h1,h2⟩
noncomputable abbrev uCa(f:Fn)(L a:Addr)(cdv:Value):Env:=newEnv f.scope L mainGlobals (cellsFrom (L+1) f.scope.names []) (f.qual++".<locals>.") (some a) cdv none builtinsNs
theorem uQz(X₀:CxOk C)(f₀:uDg G){a:Addr}{f:Fn}(fo:FnOk C a f)(hA:A.frames=some (G.fenv::G.outer)){g:Heap}{X:Own}(hg:GT C G g)(r:uA5 C (G.at g) (B.ex X) own σ s.heap){m:Str→Option Value}{N:Own}(sd:Side G B own X σ g s.heap C.τ m N)
  {bs:List (Str×AV)} {rbs:List (Str×Value)} (hb:BindR C.τ (adr own) bs rbs) (hn:bs.map (·.1)=uB1 f) {cdv:Value} {Q:Env→Shared→Prop} {E:Value→Shared→Prop}
  (h:∀ g' h₂ tk own₂,adr own<+:adr own₂→Rel C.prog C.w C.τ g' s.heap.objs.size N own₂ ⟨uCd f.scope bs,σ.H++uFf bs f.scope.names⟩ h₂→
   (∀ x i,(uBv σ.H.length f.scope.names).lookup x=some i→∃ c,(uCa f s.heap.objs.size a cdv).cells.lookup x=some c∧(adr own₂)[i]?=some c)→
   Fr g G.Lf g' m→(∀ b o,s.heap.get? b=some o→b∉adr own→b∉adr N→g'.get? b=some o)→Below A C.base (G.fenv::G.outer) g'→KtsDicts (G.Lf::fs G) g'→g'.objs.size≤s.heap.objs.size→h₂.NoLimit→
   Q (uCa f s.heap.objs.size a cdv) { s with heap:=h₂,toks:=tk }) :
  wpAny (model C.prog C.w) A.in1 (newFunctionEnv f.scope mainGlobals [] rbs (f.qual++".<locals>.") (some a) cdv none builtinsNs) Q E s:=by
 refine Classical.byContradiction fun hn=>?_;obtain ⟨FG,BG,st,-⟩:=groundX (s:=s) (R:=fun _ _=>True) hg.below sd.fr sd.news hA f₀.fl f₀.fk;refine hn ?_;clear hn;have hnames:=uJu hb;have hnd:(rbs.map (·.1)).Nodup:=by rw [hnames,hn];exact fo.nd
 have hnn:=fo.names;unfold uCw at hnn;simp only [Bool.and_eq_true,decide_eq_true_eq] at hnn;have hk:∀ n,∀ x∈rbs,f.scope.names.lookup x.1=some .local∨(f.scope.names.lookup x.1=some .cell∧((cellsFrom n f.scope.names []).lookup x.1).isSome=true):=fun n x hx=>by
  rcases fo.loc x.1 (by rw [← hn,← hnames];exact List.mem_map_of_mem hx) with q | q
  ·exact .inl q
  ·exact .inr ⟨q,cellsFrom_some _ _ _ (.inl q)⟩
 refine wpAny_newFunctionEnv_cells fo.kind (hk _) fun env he s' x=>?_;subst he;obtain ⟨h₂,tk,rfl,-⟩:=x.done;have hk₁:∀ b o,s.heap.get? b=some o→h₂.get? b=some o:=x.toInCall.keep;let ce:=uBv (s.heap.objs.size+1) f.scope.names;have hce:∀ n,(cellsFrom (s.heap.objs.size+1) f.scope.names []).lookup n=ce.lookup n:=fun n=>by
  rw [uFb,List.append_nil,uN6 _ _ _ hnn.2]
 have hkind:∀ y,(uCa f s.heap.objs.size a cdv).kindOf y=f.scope.names.lookup y:=fun y=>rfl;have cnd:∀ (ns:List (Str×NameKind)) n,(ns.map (·.1)).Nodup→(uBv n ns).Nodup∧((uBv n ns).map (·.1)).Nodup∧((uBv n ns).map (·.2)).Nodup:=fun ns=>by
  induction ns with
  | nil=>intro n _;exact ⟨List.nodup_nil,List.nodup_nil,List.nodup_nil⟩
  | cons b ns ih=>
   obtain ⟨y,k⟩:=b;intro n h;rw [List.map_cons,List.nodup_cons] at h;rw [uBk];by_cases hk:k=.cell
   ·rw [if_pos hk];obtain ⟨i1,i2,i3⟩:=ih (n+1) h.2;refine ⟨List.nodup_cons.mpr ⟨fun q=>?_,i1⟩,?_,?_⟩
    ·exact h.1 (uCo _ _ _ _ q).1
    ·rw [List.map_cons];refine List.nodup_cons.mpr ⟨fun q=>?_,i2⟩;obtain ⟨⟨a,b⟩,h1,h2⟩:=List.mem_map.mp q;dsimp only at h2;subst h2;exact h.1 (uCo _ _ _ _ h1).1
    ·rw [List.map_cons];refine List.nodup_cons.mpr ⟨fun q=>?_,i3⟩;obtain ⟨⟨a,b⟩,h1,h2⟩:=List.mem_map.mp q;have:=(uCo _ _ _ _ h1).2;dsimp only at h2;lia
   ·rw [if_neg hk];exact ih n h.2
 obtain ⟨cn1,cn2,cn3⟩:=cnd f.scope.names (s.heap.objs.size+1) hnn.2;have look_of:∀ (l:List (Str×Nat)),(l.map (·.1)).Nodup→∀ p∈l,l.lookup p.1=some p.2:=fun l=>by
  induction l with
  | nil=>intro _ p hp;cases hp
  | cons b l ih=>
   obtain ⟨y,c⟩:=b;intro hd p hp;rw [List.map_cons,List.nodup_cons] at hd;rw [List.lookup_cons];rcases List.mem_cons.mp hp with rfl|hp
   ·rw [beq_self_eq_true]
   ·have:(p.1==y)=false:=beq_false_of_ne fun q=>hd.1 (q▸List.mem_map.mpr ⟨p,hp,rfl⟩);rw [this];exact ih hd.2 p hp
 have cellkind:∀ p∈ce,f.scope.names.lookup p.1=some .cell:=fun p hp=>by
  have:∀ (ns:List (Str×NameKind)) n,(ns.map (·.1)).Nodup→∀ p∈uBv n ns,ns.lookup p.1=some .cell:=fun ns=>by
   induction ns with
   | nil=>intro n _ p hp;cases hp
   | cons b ns ih=>
    obtain ⟨y,k⟩:=b;intro n hd p hp;rw [List.map_cons,List.nodup_cons] at hd;rw [uBk] at hp;rw [List.lookup_cons];by_cases hk:k=.cell
    ·rw [if_pos hk] at hp;rcases List.mem_cons.mp hp with rfl|hp
     ·rw [beq_self_eq_true,hk]
     ·have:(p.1==y)=false:=beq_false_of_ne fun q=>hd.1 (q▸(uCo _ _ _ _ (show (p.1,p.2)∈_ from hp)).1);rw [this];exact ih _ hd.2 p hp
    ·rw [if_neg hk] at hp;have:(p.1==y)=false:=beq_false_of_ne fun q=>hd.1 (q▸(uCo _ _ _ _ (show (p.1,p.2)∈_ from hp)).1);rw [this];exact ih _ hd.2 p hp
  exact this _ _ hnn.2 p hp
 have hcm:∀ p∈ce,bindC (uCa f s.heap.objs.size a cdv).kindOf rbs (fun _=>none) p.1=rbs.lookup p.1:=fun p hp=>by
  rw [uK8 _ _ _ _ hnd (by rw [hkind,cellkind p hp];decide)];cases rbs.lookup p.1<;>rfl
 have hcells:∀ p∈ce,h₂.IsCell p.2 (bindC (uCa f s.heap.objs.size a cdv).kindOf rbs (fun _=>none) p.1)∧s.heap.objs.size<p.2:=fun p hp=>by
  have e:(cellsFrom (s.heap.objs.size+1) f.scope.names []).lookup p.1=some p.2:=by rw [hce];exact look_of _ cn2 p hp
  exact ⟨x.cell p.1 p.2 e,(uCo _ _ _ _ (show (p.1,p.2)∈_ from hp)).2⟩
 obtain ⟨cells,k1,k2,k3⟩:=uNy (prog:=C.prog) (w:=C.w) (τ:=C.τ) (φ:=adr own++ce.map (·.2)) (bs:=bs) ce fun p hp=>by
  refine ⟨(hcells p hp).1,?_⟩;rw [hcm p hp];exact OVR.mono (List.prefix_append _ _) (uHo hb p.1)
 have hadr:adr (own++cells)=adr own++ce.map (·.2):=by rw [adr,List.map_append];exact congrArg _ k1
 have pre:adr own<+:adr (own++cells):=by rw [hadr];exact List.prefix_append _ _
 have cellAbove:∀ p∈cells,s.heap.objs.size<p.1:=fun p hp=>by
  have:p.1∈ce.map (·.2):=by rw [← k1];exact List.mem_map_of_mem hp
  obtain ⟨q,hq,e⟩:=List.mem_map.mp this;rw [← e];exact (hcells q hq).2
 have gsz:(hideAll s.heap ((own++N).map (·.1))).objs.size=s.heap.objs.size:=hideAll_size _ _;refine h (hideAll s.heap ((own++N).map (·.1))) h₂ tk (own++cells) pre ⟨⟨bindL (uCa f s.heap.objs.size a cdv).kindOf rbs (fun _=>none),x.toInCall.ns,fun y v hy=>?_⟩,fun b o e=>hk₁ b o (of_hideAll _ e),Nat.le_of_eq gsz,fun p hp=>?_,fun p hp=>?_,?_,fun p hp q hq=>?_,?_,?_,fun p hp=>?_⟩ ?_ FG ?_ BG ?_ (Nat.le_of_eq gsz) ?_
 ·obtain ⟨y1,y2⟩:=uKg (p:=fun x=>decide (f.scope.names.lookup x=some .local)) hy;have y2':f.scope.names.lookup y=some .local:=by simpa using y2
  have:=uHo hb y;rw [y1] at this;rw [uK0 _ _ _ _ hnd (by rw [hkind];exact y2')];generalize rbs.lookup y=z at this;cases this with
  | some hv=>exact ⟨_,rfl,hv.mono pre⟩
 ·rcases List.mem_append.mp hp with hp|hp
  ·have n1:=sd.news p (List.mem_append_left _ hp);exact ⟨hk₁ _ _ n1.1,Nat.ne_of_lt (Heap.lt_size n1.1),hideAll_none _ (List.mem_map_of_mem (List.mem_append_left _ hp))⟩
  ·refine ⟨k2 p hp,Nat.ne_of_gt (cellAbove p hp),uA8 ?_⟩;rw [gsz];exact Nat.le_of_lt (cellAbove p hp)
 ·have n1:=sd.news p (List.mem_append_right _ hp);exact ⟨hk₁ _ _ n1.1,Nat.ne_of_lt (Heap.lt_size n1.1),hideAll_none _ (List.mem_map_of_mem (List.mem_append_right _ hp))⟩
 ·rw [hadr];refine List.nodup_append.mpr ⟨r.nd,cn3,fun a ha b hb e=>?_⟩;obtain ⟨p,hp,rfl⟩:=List.mem_map.mp ha;obtain ⟨q,hq,rfl⟩:=List.mem_map.mp hb;have h1:=Heap.lt_size (sd.news p (List.mem_append_left _ hp)).1;have h2:=(hcells q hq).2;rw [e] at h1;exact absurd (Nat.lt_trans h1 h2) (Nat.lt_irrefl _)
 ·rcases List.mem_append.mp hp with hp|hp
  ·exact sd.off p hp q hq
  ·have h1:=Heap.lt_size (sd.news q (List.mem_append_right _ hq)).1;exact Nat.ne_of_gt (Nat.lt_trans h1 (cellAbove p hp))
 ·refine uCv (uDd (fun _ _ x=>x.mono pre) r.objs) ?_;rw [hadr];have:uFf bs f.scope.names=ce.map fun p=>AO.cell (bs.lookup p.1):=uGm (fun x=>AO.cell (bs.lookup x)) _ _ _;rw [this];exact k3
 ·rw [gsz];exact Nat.lt_of_lt_of_le r.big r.base_lt
 ·rcases List.mem_append.mp hp with hp|hp
  ·exact r.low p hp
  ·exact Nat.lt_trans (Nat.lt_of_lt_of_le r.big r.base_lt) (cellAbove p hp)
 ·intro y i hy;obtain ⟨c,c1,c2⟩:=uOk f.scope.names (s.heap.objs.size+1) σ.H.length (adr (own++cells)) [] (by
   rw [hadr,List.append_nil,List.drop_append_of_le_length (by rw [List.length_map,r.len];exact Nat.le_refl _),List.drop_eq_nil_of_le (by rw [List.length_map,r.len];exact Nat.le_refl _),List.nil_append]) y i hy
  exact ⟨c,(hce y).trans c1,c2⟩
 ·intro b o e n1 n2;refine hideAll_get _ e fun q=>?_;rw [List.map_append] at q;rcases List.mem_append.mp q with q|q
  ·exact n1 q
  ·exact n2 q
 ·intro b hb;rcases List.mem_cons.mp hb with rfl|hb
  ·obtain ⟨o,es,n,e1,e2,_⟩:=FG.ns;exact ⟨o,es,n,e1,e2⟩
  ·refine Classical.byContradiction fun hn=>?_;obtain ⟨o,es,n,e1,e2⟩:=hg.dicts b hb;refine hn ?_;clear hn;exact ⟨o,es,n,st _ _ e1,e2⟩
 ·exact ((X₀.T g hg.below.stays).nolimit.keeps r.keep).keeps hk₁
end enter
end
section
section
variable {C:Cx}{G:Gm}{B:Bl}{A:Around}{own:Own}{σ:St}{s:Shared}{r:Rec}{n:Nat}
theorem uSe{f:Fn}{xs:List AV}{z:Res (List (Str×AV))}{σ':St}(h:bindP f xs σ=some (z,σ')) : ∃ bs,z=.ok bs:=by
 unfold bindP at h;generalize f.params.vararg=y at h;rcases y with _|ar
 ·dsimp only at h;by_cases hd:f.dflt=false
  ·rw [if_pos hd] at h;by_cases hc:xs.length=(f.params.args.map (·.arg)).length
   ·rw [if_pos hc] at h;cases h;exact ⟨_,rfl⟩
   ·rw [if_neg hc] at h;exact nn h
  ·replace h:=(if_neg hd).symm.trans h;obtain ⟨x,y,v,_,_,e⟩:=uKx h;cases e;exact ⟨_,rfl⟩
 ·dsimp only at h;by_cases hc:f.dflt=false∧(f.params.args.map (·.arg)).length≤xs.length∧xs.length≤lz
  ·rw [if_pos hc] at h;cases h;exact ⟨_,rfl⟩
  ·rw [if_neg hc] at h;exact nn h
theorem uIw{f:Fn}{L a:Addr}{cdv:Value}{n:Nat}(h:uBv n f.scope.names=[]):uCa f L a cdv=envOf f.qual f.scope L a cdv:=by
 have:∀ (ns:List (Str×NameKind)) n m,uBv n ns=[]→uBv m ns=[]:=fun ns n m h=>by
  have:=uGm (fun x=>x) ns n m;rw [h] at this;exact List.map_eq_nil_iff.mp this.symm
 have e:cellsFrom (L+1) f.scope.names []=[]:=by rw [uFb,this _ _ _ h];rfl
 show newEnv f.scope L mainGlobals (cellsFrom (L+1) f.scope.names []) _ _ _ _ _=_;rw [e];rfl
theorem uKf(S:Snd C r n)(X₀:CxOk C)(f₀:uDg G)(bk:BkOk G B){a:Addr}{f:Fn}(fo:FnOk C a f)(hA:A.frames=some (G.fenv::G.outer))(dep:A.depth+2*n+1<recursionLimit)(uni:A.units+8*n+3<cLine)(hh:A.handled=none)
  (R:uAs C G B own σ s.heap) {xs:List AV} {us:List Value} (hx:VRs C.τ (adr own) xs us) {Q E:Value→Shared→Prop} (gd:uAk C G B own σ s (uBr r f xs) (VR C.τ) Q E) :
  codeAny (model C.prog C.w) A (.call (.ref a) ⟨us,[]⟩) (CRes Q E) s:=by
 obtain ⟨oc,od,osl,dV,kV,doc,pm,an,cdv,ct,ho,hcd,d1,d2⟩:=fo.at_;have hK:C.K.In s.heap:=by
  obtain ⟨g,X,hg,hX,r⟩:=R;exact (hg.ok X₀ f₀).K.keeps r.keep
 refine codeAny_call_function (fd:=fnX f.name f.qual f.params f.body f.scope [] dV kV doc pm an cdv ct) (body:=f.body) (by lia) (hK _ _ ho) rfl fo.co fo.gen rfl (codeRec_of hK hcd) ?_;have hb : ∃ bs σ1,bindP f xs σ=some (.ok bs,σ1):=by
  unfold uAk uBr M.bind at gd;generalize q:bindP f xs σ=zz;induction zz using Option.casesOn with
  | none=>rw [q] at gd;exact gd.elim
  | some z=>
   obtain ⟨z,σ1⟩:=z;obtain ⟨bs,rfl⟩:=uSe q;exact ⟨bs,σ1,rfl⟩
 refine Classical.byContradiction fun hn=>?_;obtain ⟨bs,σ1,hb⟩:=hb;refine hn ?_;clear hn;refine uQf f₀ X₀ fo R hx d1 d2 hb fun own1 h1 tk1 rbs p1 R1 hbr hn=>?_;have gd1:=gd.step hb p1 (h':=h1) (tk:=tk1);obtain ⟨g,X,hg,hX,r1⟩:=R1;refine Classical.byContradiction fun hn=>?_;obtain ⟨m,N,sd⟩:=uTo f₀ bk hg hX r1;refine hn ?_;clear hn;show wpAny _ A.in1 (newFunctionEnv f.scope mainGlobals [] rbs (f.qual++".<locals>.") (some a) cdv none builtinsNs) _ _ _;refine uQz (s:={ s with heap:=h1,toks:=tk1 }) X₀ f₀ fo hA hg r1 sd hbr hn fun g' h₂ tk own₂ p2 r2 hcs FG gx BG KD gsz nl=>⟨nl,codeAny_func ?_⟩
 dsimp only at hcs r2 gsz ⊢;have gd2:=gd1.step (uIh bs f.scope.names σ1) p2 (h':=h₂) (tk:=tk);have GF':uDg (G.call A (uCa f h1.objs.size a cdv) h1.objs.size g'):=⟨rfl,fo.kind,gsz,r2.big⟩
 have R2:uAs C (G.call A (uCa f h1.objs.size a cdv) h1.objs.size g') (callB h1.objs.size N) own₂ ⟨uCd f.scope bs,σ1.H++uFf bs f.scope.names⟩ h₂:=
  ⟨g',N,⟨KtsTurn.refl,BG,by rw [uKa f₀];exact KD⟩,(uIm N).mpr rfl,r2⟩
 have H':uBj C (G.call A (uCa f h1.objs.size a cdv) h1.objs.size g') (callB h1.objs.size N) (A.deeper (uCa f h1.objs.size a cdv)) { scope:=f.scope,cells:=uBv σ1.H.length f.scope.names } own₂ (uCa f h1.objs.size a cdv) n:=
  ⟨X₀,GF',⟨fo.kind,rfl,rfl,rfl,rfl,fun x=>.inl rfl,hcs,fo.names⟩,by rw [depth_deeper];lia,by rw [units_deeper];lia,fun _=>⟨rfl,hh⟩,.inl rfl⟩
 refine (S.ex (s:={ s with heap:=h₂,toks:=tk }) f.body H' rfl R2).go _ _ ?_;have back:∀ {own3:Own} {σ3:St} {h3:Heap},adr own₂<+:adr own3→uAs C (G.call A (uCa f h1.objs.size a cdv) h1.objs.size g') (callB h1.objs.size N) own3 σ3 h3→uAs C G B own3 ⟨σ1.L,σ3.H⟩ h3:=fun p3 R3=>by
  obtain ⟨g'',N',hg'',hN',r3⟩:=R3;obtain rfl:=(uIm N).mp hN';have T:=hg''.turn;rw [uKa f₀] at T;exact uRh f₀ bk hg hX r1 sd FG gx T r3 (p2.trans p3)
 unfold uAk at gd2 ⊢;unfold uG8 at gd2;dsimp only at gd2;generalize q:r.ex f.body { scope:=f.scope,cells:=uBv σ1.H.length f.scope.names } ⟨uCd f.scope bs,σ1.H++uFf bs f.scope.names⟩=zz;induction zz using Option.casesOn with
 | none=>rw [q] at gd2;exact gd2.elim
 | some z=>
  obtain ⟨z,σ3⟩:=z;rw [q] at gd2;induction z using Res.casesOn with
  | ok fl=>
   dsimp only at gd2 ⊢;intro own3 h3 tk3 fl' p3 R3 x3;have R3':=back p3 R3;generalize FR.view x3=zz;induction zz using FRv.casesOn with
   | next=>exact gd2 own3 h3 tk3 .none p3 R3' .none
   | @ret v rv hv=>exact gd2 own3 h3 tk3 rv p3 R3' x3
   | brk=>exact gd2.elim
   | cont=>exact gd2.elim
  | exc x=>
   dsimp only at gd2 ⊢;intro own3 h3 tk3 e p3 y;induction x using AX.casesOn with
   | stop=>exact gd2.elim
   | cycL=>exact gd2.elim
   | cyc=>
    dsimp only at gd2;generalize hc:uBv σ1.H.length f.scope.names=zz;induction zz using List.casesOn with
    | cons b l=>rw [hc] at gd2;exact gd2.elim
    | nil=>
     rw [hc] at gd2;dsimp only at gd2;refine Classical.byContradiction fun hn=>?_;obtain ⟨g'',N',hg'',hN',a',rfl,hb',vs,r3,hmade⟩:=y;refine hn ?_;clear hn;obtain rfl:=(uIm N).mp hN';have T:=hg''.turn;rw [uKa f₀] at T;refine Classical.byContradiction fun hn=>?_;obtain ⟨g₂,hg₂,S₂,nn,sz⟩:=uGx (h':=g'') f₀ hg FG T fun _ _ e=>e;refine hn ?_;clear hn;obtain ⟨m3,F3,_⟩:=r3.fr;rw [uIw hc];refine leave_raiseS (vs:=vs) hg''.below hmade F3 r3.news (fun h' t x1 x2 x3=>?_) fo.kind;refine gd2 own3 h' tk3 (.ref a') p3 ⟨g₂,X,hg₂,hX,a',rfl,fun e=>?_⟩;obtain ⟨rfl,hl⟩:=sd.same e;obtain ⟨oF,hoF,hNF⟩:=LCg.ns_obj FG.ns;obtain ⟨sl,hoF2⟩:=T.up hoF;refine ⟨g'',m,t,vs,⟨LCg.NsObj.ns (o:={ oF with slots:=sl }) hNF hoF2,S₂,?_⟩,fun x v q=>?_,x3,x1,r3.nd,r3.off,r3.objs,r3.low⟩
     ·show g₂.objs.size≤G.Lf;rw [sz];exact FG.above
     ·obtain ⟨rv,z1,z2⟩:=hl x v q;exact ⟨rv,z1,z2.mono (p2.trans p3)⟩
end
end
section
structure uEd(C:Cx):Prop where
 fn:∀ a f,C.P.fn.lookup a=some f→FnOk C a f
 cls:∀ D init,(C.P.cls.lookup D=some (.plain init)∨∃ ns,C.P.cls.lookup D=some (.slots ns init))→makesIn C.K D=true∧findIn C.K (.ref D) (Str.ofString "__init__")=some (some (.ref init))∧isFn C.K (.ref init)=true
 star:∀ D l x f,C.P.meth.lookup D=some l→l.lookup x=some f→hasDictIn C.K D=true∧specialIn C.K (.ref f) (Str.ofString "__get__")=some (some (.builtin "function.__get__"))∧takesIn C.K (.ref f)=some false∧copiedNames.contains x=false∧fnIn C.K f=true
section
variable {C:Cx}{G:Gm}{B:Bl}{A:Around}{own:Own}{σ:St}{s:Shared}{r:Rec}{n:Nat}
theorem uQ9(S:Snd C r n)(X₀:CxOk C)(PC:uEd C)(f₀:uDg G)(bk:BkOk G B)(hA:A.frames=some (G.fenv::G.outer))(dep:A.depth+2*n+2<recursionLimit)(uni:A.units+8*n+4<cLine)(hh:A.handled=none)
  (R:uAs C G B own σ s.heap) {D:Addr} {xs:List AV} {us:List Value} (hx:VRs C.τ (adr own) xs us):uAg C G B A own σ s (uA1 C.P r D xs) (PySem.call (.ref D) us) (VR C.τ):=by
 have main:∀ (init:Addr) (o:AO),(makesIn C.K D=true∧findIn C.K (.ref D) (Str.ofString "__init__")=some (some (.ref init))∧isFn C.K (.ref init)=true)→(∀ φ d a,φ[d]?=some a→d=σ.H.length→uG1 C.prog C.w C.τ φ o (instObj D a))→
   uAg C G B A own σ s (M.bind (newN (.idict [])) fun d=>M.bind (newN o) fun i=>match C.P.fn.lookup init with
    | some f=>M.bind (calm (uBr r f (.ref i::xs))) fun v=>if v=.none then M.pure (.ref i) else M.fail
    | Option.none=>M.fail) (PySem.call (.ref D) us) (VR C.τ):=by
  rintro init o ⟨k1,k2,k3⟩ ho;refine ⟨fun Q E gd=>?_⟩;obtain ⟨g,X,hg,hX,r₀⟩:=R;have hKs:C.K.In s.heap:=(hg.ok X₀ f₀).K.keeps r₀.keep;refine wpAny_call ?_;obtain ⟨h,gs,dr,tk,os⟩:=s;refine make_core (makes_of hKs k1) (looks_findIn hKs k2) (fun self=>bind_fn hKs self (beq_iff_eq.mp k3)) (.inl rfl) ?_;have r1:=r₀.push (ob:=emptyDict) (o:=.idict []) ⟨[],0,rfl,.nil⟩;have hz:(h.push emptyDict).objs.size=h.objs.size+1:=Heap.size_push ..;have r2:=r1.push (ob:=instObj D h.objs.size) (o:=o) (ho _ _ _ (uA6 (uAj _ _) (uIe own h.objs.size emptyDict)) r₀.len);rw [hz] at r2;have R2:uAs C G B (own++[(h.objs.size,emptyDict)]++[(h.objs.size+1,instObj D h.objs.size)]) ⟨σ.L,σ.H++[.idict []]++[o]⟩ ((h.push emptyDict).push (instObj D h.objs.size)):=⟨g,X,hg,hX,r2⟩
  have p2:adr own<+:adr (own++[(h.objs.size,emptyDict)]++[(h.objs.size+1,instObj D h.objs.size)]):=(uAj _ _).trans (uAj _ _);have gd1:=(gd.step (a:=σ.H.length) (σ':=⟨σ.L,σ.H++[.idict []]⟩) rfl (uAj own (h.objs.size,emptyDict)) (h':=(h.push emptyDict).push (instObj D h.objs.size)) (tk:=tk)).step (a:=(σ.H++[AO.idict []]).length) (σ':=⟨σ.L,σ.H++[.idict []]++[o]⟩) rfl (uAj _ (h.objs.size+1,instObj D h.objs.size)) (h':=(h.push emptyDict).push (instObj D h.objs.size)) (tk:=tk);dsimp only at gd1;generalize hf:C.P.fn.lookup init=zz;induction zz using Option.casesOn with
  | none=>rw [hf] at gd1;exact gd1.elim
  | some f=>
   rw [hf] at gd1;dsimp only at gd1;refine Classical.byContradiction fun hn=>?_;obtain ⟨v,σ3,c1,c2⟩:=gd1.calm;refine hn ?_;clear hn;have hself:VR C.τ (adr (own++[(h.objs.size,emptyDict)]++[(h.objs.size+1,instObj D h.objs.size)])) (.ref (σ.H++[AO.idict []]).length) (.ref (h.objs.size+1)):=.ref (by
    have:=uIe (own++[(h.objs.size,emptyDict)]) (h.objs.size+1) (instObj D h.objs.size);rw [show (σ.H++[AO.idict []]).length=(own++[(h.objs.size,emptyDict)]).length from r1.len.symm];exact this)
   have gd3:uAk C G B (own++[(h.objs.size,emptyDict)]++[(h.objs.size+1,instObj D h.objs.size)]) ⟨σ.L,σ.H++[.idict []]++[o]⟩ ⟨(h.push emptyDict).push (instObj D h.objs.size),gs,dr,tk,os⟩ (uBr r f (.ref (σ.H++[AO.idict []]).length::xs)) (VR C.τ) (fun v s'=>v=.none∧Q (.ref (h.objs.size+1)) s') E:=by
    unfold uAk;rw [c1];intro own' h'' tk' b p R3 x3;have gd4:=gd1.step c2 p (h':=h'') (tk:=tk');by_cases hv:v=.none
    ·rw [if_pos hv] at gd4;subst hv;cases x3;exact ⟨rfl,gd4.ok (tk':=tk') rfl (List.prefix_refl _) R3 (hself.mono p)⟩
    ·rw [if_neg hv] at gd4;exact gd4.elim
   have hd:(A.under (.builtin "type.__call__" ⟨.ref D::us,[]⟩)).depth=A.depth+1:=rfl;have hu:(A.under (.builtin "type.__call__" ⟨.ref D::us,[]⟩)).units=A.units+1:=rfl;refine codeAny_mono (uKf (s:=⟨(h.push emptyDict).push (instObj D h.objs.size),gs,dr,tk,os⟩) S X₀ f₀ bk (PC.fn _ _ hf) (A:=A.under (.builtin "type.__call__" ⟨.ref D::us,[]⟩)) hA (by rw [hd];lia) (by rw [hu];lia) hh R2 (.cons hself (VRs.mono p2 hx)) gd3) fun res s' q=>?_;induction res using Except.casesOn with
   | ok fl=>cases fl<;>exact q
   | error e=>exact q
 generalize hc:C.P.cls.lookup D=zz;induction zz using Option.casesOn with
 | none=>exact uAg.fail (by unfold uA1;rw [hc];rfl)
 | some cl=>
  induction cl using Cl.casesOn with
  | plain init=>
   refine (main init (.inst D σ.H.length) (PC.cls D init (.inl hc)) fun φ d a e q=>⟨a,q▸e,rfl⟩).congr ?_;unfold uA1;rw [hc];rfl
  | slots ns init=>
   refine (main init (.slots D σ.H.length (ns.map fun _=>none)) (PC.cls D init (.inr ⟨ns,hc⟩)) fun φ d a e q=>⟨a,#[],q▸e,rfl,fun j v hj=>?_⟩).congr ?_
   ·rw [List.getElem?_map] at hj;obtain ⟨_,_,q⟩:=Option.map_eq_some_iff.mp hj;cases q
   ·unfold uA1;rw [hc];rfl
  | exc=>exact uAg.fail (by unfold uA1;rw [hc];rfl)
theorem uQo(S:Snd C r n)(X₀:CxOk C)(PC:uEd C)(f₀:uDg G)(bk:BkOk G B)(hA:A.frames=some (G.fenv::G.outer))(dep:A.depth+2*(n+1)<recursionLimit)(uni:A.units+8*(n+1)<cLine)(hh:A.handled=none)
  (R:uAs C G B own σ s.heap) {f:AV} {rf:Value} {xs:List AV} {us:List Value} (hf:VR C.τ (adr own) f rf) (hx:VRs C.τ (adr own) xs us):uAg C G B A own σ s (uF8 C.P r f xs) (PySem.call rf us) (VR C.τ):=by
 cases hf with
 | st=>
  induction rf using PySem.Value.casesOn with
  | ref a=>
   generalize q:(C.P.fn.lookup a)=zz;induction zz using Option.casesOn with
   | some fn=>
    refine ⟨fun Q E gd=>wpAny_call ?_⟩;have e:uF8 C.P r (.st (.ref a)) xs=uBr r fn xs:=by
     show (match C.P.fn.lookup a with | some fn=>uBr r fn xs | none=>uA1 C.P r a xs)=_;rw [q]
    rw [e] at gd;exact uKf S X₀ f₀ bk (PC.fn _ _ q) hA (by lia) (by lia) hh R hx gd
   | none=>
    have e:uF8 C.P r (.st (.ref a)) xs=uA1 C.P r a xs:=by
     show (match C.P.fn.lookup a with | some fn=>uBr r fn xs | none=>uA1 C.P r a xs)=_;rw [q]
    rw [e];exact uQ9 S X₀ PC f₀ bk hA (by lia) (by lia) hh R hx
  | builtin id=>exact .lift R fun g X hg hX R=>uX1 X₀.PT (hg.ok X₀ f₀) X₀.htr (hg.hsm X₀) hh R hx
  | type t=>
   generalize q:(tyTab.lookup t)=zz;induction zz using Option.casesOn with
   | none=>exact uAg.fail (by show (match tyTab.lookup t with | some t=>uBg t xs | none=>M.fail) σ=none;rw [q];rfl)
   | some ty=>
    have e:uF8 C.P r (.st (.type t)) xs=uBg ty xs:=by
     show (match tyTab.lookup t with | some t=>uBg t xs | none=>M.fail)=_;rw [q]
    rw [e];exact .lift R fun g X hg hX R=>uYb hh R (uGo q) hx
  | _=>exact uAg.fail rfl
 | @ref i a ha=>
  by_cases e1 : ∃ id self,σ.H[i]?=some (.meth id self)
  ·obtain ⟨id,self,e1⟩:=e1;refine uAg.congr (m:=uC8 id self xs) (.lift R fun g X hg hX R=>uPg hh R ha e1 hx) ?_;exact ob (ob (f:=pM) e1 rfl) rfl
  ·rcases q:σ.H[i]?.bind pM with _|⟨id,self⟩
   ·exact uAg.fail (obn q)
   ·exact absurd ⟨id,self,uYa q⟩ e1
 | _=>exact uAg.fail rfl
theorem uJ2{C:Cx}{r:Rec}{f:AV}{xs:List AV}{σ:St}(h:uF8 C.P r f xs σ≠none):KeepA C.P σ f:=by
 induction f using AV.casesOn with
 | st v=>
  induction v using Value.casesOn with
  | ref a=>
   have h':(match C.P.fn.lookup a with | some fn=>uBr r fn xs | none=>uA1 C.P r a xs) σ≠none:=h;generalize q:C.P.fn.lookup a=zz;induction zz using Option.casesOn with
   | some fn=>exact .inl (by rw [q];rfl)
   | none=>
    rw [q] at h';dsimp only at h';generalize q2:C.P.cls.lookup a=zz;induction zz using Option.casesOn with
    | none=>unfold uA1 at h';rw [q2] at h';exact absurd rfl h'
    | some c=>exact .inr (by rw [q2];rfl)
  | builtin id=>trivial
  | type t=>trivial
  | _=>exact absurd rfl h
 | ref i=>
  rcases q:σ.H[i]?.bind pM with _|⟨id,self⟩
  ·exact absurd (obn q) h
  ·exact ⟨id,self,uYa q⟩
 | _=>exact absurd rfl h
end
end
section
section drop
variable {C:Cx}{G:Gm}{B:Bl}{own:Own}{σ:St}{s:Shared}
theorem uAs.drop{h:Heap}{I:Addr}{oI:Obj}(R:uAs C G (B.add I oI) own σ h):uAs C G B own σ h:=by
 obtain ⟨g,X,hg,hX,r⟩:=R;cases hX with
 | cons _ hX=>exact ⟨g,_,hg,hX,r.xdrop fun p hp=>.tail _ hp⟩
theorem uEu.drop{h:Heap}{I:Addr}{oI:Obj}{x:AX}{e:Value}(R:uEu C G (B.add I oI) own σ x e h):uEu C G B own σ x e h:=by
 obtain ⟨g,X,hg,hX,a,rfl,t⟩:=R;cases hX with
 | cons _ hX=>
  refine ⟨g,_,hg,hX,a,rfl,?_⟩;induction x using AX.casesOn with
  | stop=>obtain ⟨hb,r,k⟩:=t;exact ⟨hb,r.xdrop fun p hp=>.tail _ hp,k⟩
  | cyc=>obtain ⟨hb,vs,r,k⟩:=t;exact ⟨hb,vs,r.xdrop fun p hp=>.tail _ hp,k⟩
  | cycL=>
   intro q;obtain ⟨g₂,m,t,vs,k1,k2,k3,⟨⟨Bb,y1,y2,y3,y4⟩,y5⟩,k5,k6,k7,k8⟩:=t q;refine ⟨g₂,m,t,vs,k1,k2,k3,⟨⟨Bb,y1,y2,fun p hp=>y3 p ?_,y4⟩,y5⟩,k5,fun p hp q hq=>k6 p hp q (.tail _ hq),k7,k8⟩;rcases List.mem_append.mp hp with hp|hp
   ·exact List.mem_append_left _ hp
   ·exact List.mem_append_right _ (.tail _ hp)
set_option tactic.hygienic true in
theorem uAk.drop{α β:Type}{m:M α}{R:List Addr→α→β→Prop}{Q:β→Shared→Prop}{E:Value→Shared→Prop}(gd:uAk C G B own σ s m R Q E)(I:Addr)(oI:Obj):uAk C G (B.add I oI) own σ s m R Q E:=by
 unfold uAk at gd ⊢
 split
 ·rename_i e;rw [e] at gd;exact gd
 ·rename_i a σ' e;rw [e] at gd;exact fun own' h' tk' b p r x=>gd own' h' tk' b p r.drop x
 ·rename_i x σ' e;rw [e] at gd;exact fun own' h' tk' e p y=>gd own' h' tk' e p y.drop
set_option tactic.hygienic true in
theorem uAk.at{α β:Type}{m:M α}{R:List Addr→α→β→Prop}{Q:β→Shared→Prop}{E:Value→Shared→Prop}(gd:uAk C G B own σ s m R Q E)(h':Heap)(tk':Nat):uAk C G B own σ { s with heap:=h',toks:=tk' } m R Q E:=by
 unfold uAk at gd ⊢
 split
 ·rename_i e;rw [e] at gd;exact gd
 ·rename_i a σ' e;rw [e] at gd;exact gd
 ·rename_i x σ' e;rw [e] at gd;exact gd
end drop
theorem uIk(env:Env)(pos:Pos):∀ (es:List Expr),(backTo pos (starEach es env)).all (fun x=>!x.1)=uAz es:=by
 intro zz;induction zz with
 | nil=>
  exact rfl
 | cons e es ih=>
  by_cases hs : ∃ a p,e=.Starred a p
  ·obtain ⟨a,p,rfl⟩:=hs;rfl
  ·have hs' : ∀ a p,e≠.Starred a p:=fun a p q=>hs ⟨a,p,q⟩;rw [uA2 hs'];have:uAz (e::es)=uAz es:=by
    unfold uAz;rw [List.all_cons];cases e<;>first | rfl | exact absurd ⟨_,_,rfl⟩ hs
   rw [this,← ih];rfl
theorem uPz(env:Env)(pos:Pos)(es:List Expr)(h:uAz es=false):(backTo pos (starEach es env)).any (·.1)=true:=by
 rw [← uIk env pos es,List.all_eq_false] at h;obtain ⟨x,hx,h⟩:=h;exact List.any_eq_true.mpr ⟨x,hx,by simpa using h⟩
theorem uDa{P:uBb}{X:AV×List AV→Prop}{id:String}{v:AV}{σ σ':St}{z:Res (AV×List AV)}(h:some (Res.ok (AV.st (.builtin id),[v]),σ)=some (z,σ')):σ'=σ∧∃ m,z=.ok m∧(uGv P m.1=true→X m):=by
 cases h;exact ⟨rfl,_,rfl,fun q=>by cases q⟩
theorem uHy{β:Type}{c:Prop}[Decidable c]{a b:Option β}{r:β}{K:Prop}(h:(if c then a else b)=some r)(k1:a=some r→K)(k2:b=some r→K):K:=by
 split at h
 ·exact k1 h
 ·exact k2 h
inductive FnM(P:uBb)(v:AV)(x:Str)(σ:St)(m:AV×List AV):Prop
 | mk (i D d:Nat) (l:List (Str×Addr)) (f:Addr) (es:List (Str×AV)):v=.ref i→σ.H[i]?=some (.inst D d)→P.meth.lookup D=some l→l.lookup x=some f→σ.H[d]?=some (.idict es)→es.lookup x=none→m=(.st (.ref f),[v])→FnM P v x σ m
theorem uV8{P:uBb}{i D d:Nat}{x:Str}{σ σ':St}{z:Res (AV×List AV)}(e1:σ.H[i]?=some (.inst D d))(h:Mine.Internal.getMethodO P (.ref i) x σ (some (.inst D d))=some (z,σ')) :
  σ'=σ∧∃ m,z=.ok m∧(uGv P m.1=true→FnM P (.ref i) x σ m):=by
 obtain ⟨f,e2,h⟩:=Option.bind_eq_some_iff.mp h;obtain ⟨l,e3,e4⟩:=Option.bind_eq_some_iff.mp e2;obtain ⟨es,e5,h⟩:=Option.bind_eq_some_iff.mp h;by_cases e6:(es.lookup x).isNone=true
 ·cases (if_pos e6).symm.trans h;exact ⟨rfl,_,rfl,fun _=>⟨i,D,d,l,f,es,rfl,e1,e3,e4,uL4 e5,Option.isNone_iff_eq_none.mp e6,rfl⟩⟩
 ·exact nn ((if_neg e6).symm.trans h)
theorem uJd{P:uBb}{v:AV}{x:Str}{σ σ':St}{z:Res (AV×List AV)}(h:Mine.Internal.getMethod P v x σ=some (z,σ')) :
  σ'=σ∧∃ m,z=.ok m∧(uGv P m.1=true→FnM P v x σ m):=by
 induction v using AV.casesOn with
 | ref i=>
  have h:Mine.Internal.getMethodO P (.ref i) x σ σ.H[i]?=some (z,σ'):=h;generalize e1:σ.H[i]?=zz;induction zz using Option.casesOn with
  | none=>rw [e1] at h;cases h
  | some o=>
   rw [e1] at h;induction o using AO.casesOn with
   | inst D d=>exact uV8 e1 h
   | list xs=>exact uHy h uDa fun h=>uHy h uDa fun h=>uHy h uDa nofun
   | dict es g=>exact uHy h uDa fun h=>uHy h uDa nofun
   | sset ks=>exact uHy h uDa nofun
   | _=>cases h
 | str l g=>exact uHy h uDa fun h=>uHy h uDa fun h=>uHy h uDa nofun
 | _=>cases h
theorem uIx{gens:List Comprehension}{tx:Str}{tp:Pos}{iter:Expr}{ifs:List Expr}(h:compOf gens=some (tx,tp,iter,ifs)):gens=[⟨.Name tx tp,iter,ifs,0⟩]:=by
 rcases gens with _|⟨⟨t,it,fs,a⟩,_|⟨_,_⟩⟩
 ·cases h
 ·rcases a with (_|k)|k
  ·cases t<;>cases h;rfl
  ·cases h
  ·cases h
 ·cases h
theorem uLh{P:uBb}{r:Rec}{F:FE}{elt:Expr}{gens:List Comprehension}{sc:Scope}{p:Pos}(q:compOf gens=none):evE P r (.ListComp elt gens sc p) F=M.fail:=congrArg (compE P r F elt sc) q
section arms
variable {C:Cx}{G:Gm}{B:Bl}{A:Around}{own:Own}{σ:St}{s:Shared}{F:FE}{env:Env}{r:Rec}{n:Nat}
theorem uL1(S:Snd C r n)(PC:uEd C)(H:uBj C G B A F own env n)(R:uAs C G B own σ s.heap){o:Expr}{x:Str}{ap pos:Pos}{args:List Expr} :
  uAg C G B A own σ s (evE C.P r (.Call (.Attribute o x ap) args [] pos) F) (eval (.Call (.Attribute o x ap) args [] pos) env) (VR C.τ):=by
 by_cases hg:(uCb o&&(ap.endLine==pos.line)&&decide (args.length<30)&&(uAz args || !F.hm))=true
 ·have e0:evE C.P r (.Call (.Attribute o x ap) args [] pos) F=M.bind (r.ev o F) fun ov=>M.bind (Mine.Internal.getMethod C.P ov x) fun m=>if uAz args||uGv C.P m.1 then M.bind (evL r F args) fun vs=>uA0 r F m.1 (m.2++vs) else M.fail:=by
   show (if (uCb o&&(ap.endLine==pos.line)&&decide (args.length<30)&&(uAz args || !F.hm))=true then _ else _)=_;rw [if_pos hg]
  simp only [Bool.and_eq_true,decide_eq_true_eq] at hg;obtain ⟨⟨⟨g1,g2⟩,g3⟩,g4⟩:=hg;rw [e0,PySem.arm_eval_Call,uG4 g1];refine (S.ev o H R).bind fun v σ1 own1 h1 tk1 rv e1 p1 R1 x1=>.standAt ⟨fun Q E gd=>?_⟩;have H1:=H.grow p1;have form:methodCallForm (args.length+([]:List Keyword).length) (backTo pos (starEach args env)) (backToKw pos (keywordEach [] env))=uAz args:=by
   unfold methodCallForm;rw [uIk];have:decide (args.length+([]:List Keyword).length+(if (backToKw pos (keywordEach [] env)).isEmpty=true then 0 else 1)<30)=true:=by
    rw [decide_eq_true_eq];exact g3
   rw [this];show (uAz args&&true&&true)=uAz args;rw [Bool.and_true,Bool.and_true]
  unfold methodCall;rw [form];generalize hst:uAz args=zz;induction zz using Bool.casesOn with
  | true=>
   have mp:methodCallPos true o env ap pos=pure pos:=by
    unfold methodCallPos;rw [g2];rfl
   rw [mp];have ctx:uAg C G B A own1 σ1 { s with heap:=h1,toks:=tk1 } (Mine.Internal.getMethod C.P v x) (calleeOf true o env rv x) (MR C.τ):=.lift R1 fun g X hg hX R1=>uHz H.X.PA (hg.ok H.X H.f) R1 x1;refine wpAny_bind (wpAny_holding (ctx.bindP (fun m σ2 own2 h2 tk2 b e2 p2 R2 x2 gd2=>?_) gd));obtain ⟨f,first⟩:=b;refine wpAny_bind (wpAny_pure ?_);rw [if_pos (by rw [hst];rfl)] at gd2;exact (uHl S (H1.grow p2) R2 x2.1 x2.2).go Q E gd2
  | false=>
   have mp:methodCallPos false o env ap pos=pure pos:=rfl;rw [mp];have hm:F.hm=false:=by
    rw [hst,Bool.false_or] at g4;simpa using g4
   obtain ⟨z,σ2,q⟩ : ∃ z σ2,Mine.Internal.getMethod C.P v x σ1=some (z,σ2):=by
    unfold uAk M.bind at gd;generalize q:Mine.Internal.getMethod C.P v x σ1=zz;induction zz using Option.casesOn with
    | none=>rw [q] at gd;exact gd.elim
    | some z=>exact ⟨z.1,z.2,rfl⟩
   refine Classical.byContradiction fun hn=>?_;obtain ⟨rfl,m,rfl,hfn⟩:=uJd q;refine hn ?_;clear hn;have gd2:=gd.step q (List.prefix_refl _) (h':=h1) (tk:=tk1);rw [hst,Bool.false_or] at gd2;by_cases hf:uGv C.P m.1=true
   ·rw [if_pos hf] at gd2;refine Classical.byContradiction fun hn=>?_;obtain ⟨i,D,d,l,f,es,rfl,q1,q2,q3,q4,q5,rfl⟩:=hfn hf;refine hn ?_;clear hn;cases x1 with
    | @ref _ a ha=>
    obtain ⟨g,X,hg,hX,r1⟩:=R1;refine Classical.byContradiction fun hn=>?_;obtain ⟨k1,k2,k3⟩:=H.X.PA.meth D l x f q2 q3;refine hn ?_;clear hn;refine Classical.byContradiction fun hn=>?_;obtain ⟨j1,j2,j3,j4,j5⟩:=PC.star D l x f q2 q3;refine hn ?_;clear hn;obtain ⟨dx,ds,nn,i1,i2,i3,I⟩:=uH4 (s:={ s with heap:=h1,toks:=tk1 }) r1 q1 q4 ha;refine Classical.byContradiction fun hn=>?_;obtain ⟨o',o1,o2⟩:=uHs (x:=x) i3;refine hn ?_;clear hn;rw [q5] at o2;cases o2;obtain ⟨mc,Fm,hF⟩:=r1.fr;have k1':plainGet C.K D x=true:=k1;refine wpAny_bind (wpAny_holding ?_);refine wpAny_bind (kbm_bound (s:={ s with heap:=h1,toks:=tk1 }) Fm (hg.ok H.X H.f).K r1.news I k1' j1 k2 k3 j2 j3 j4 o1 fun q h' F' N' ql=>?_);refine wpAny_pure ?_;refine wpAny_bind (wpAny_pure ?_);have r2:=r1.ofSame F' (fun p hp=>N' p (.tail _ hp)) hF;have r3:uA5 C (G.at g) (⟨B.Lc,(q,methodObj (.ref f) (.ref a))::X⟩) own1 σ2 h':=⟨r2.ns,r2.keep,r2.above,r2.ownAt,fun p hp=>by
     rcases List.mem_cons.mp hp with rfl|hp
     ·exact N' _ (.head _)
     ·exact r2.xAt p hp,r2.nd,fun p hp z hz=>by
     rcases List.mem_cons.mp hz with rfl|hz
     ·exact Nat.ne_of_lt (ql p (List.mem_append_left _ hp))
     ·exact r2.off p hp z hz,r2.objs,r2.big,r2.low⟩
    have hB:∀ p∈B.XP,p.1≠q:=fit_off' hX fun p hp=>Nat.ne_of_lt (ql p (List.mem_append_right _ hp));have R3:uAs C G (B.add q (methodObj (.ref f) (.ref a))) own1 σ2 h':=⟨g,_,hg,.cons ⟨rfl,rfl⟩ hX,r3⟩
    refine ks_call (P:=MethP C.K q f (.ref a)) (uPz env pos args hst) (keeps_M j5) ?_;have H3:=H1.add q (methodObj (.ref f) (.ref a)) hB;refine uKv (s:={ s with heap:=h',toks:=tk1+1 }) S args H3 R3 ((gd2.at h' (tk1+1)).drop q (methodObj (.ref f) (.ref a))) fun xs σ4 own4 h4 tk4 us p4 R4 x4 gd4=>?_;have hq:h4.get? q=some (methodObj (.ref f) (.ref a))∧C.K.In h4:=by
     obtain ⟨g4,X4,hg4,hX4,r4⟩:=R4;cases hX4 with
     | @cons _ b _ _ z hX4=>
      obtain ⟨b1,b2⟩:=b;obtain ⟨z1,z2⟩:=z;dsimp only at z1 z2;subst z1 z2;exact ⟨(r4.xAt _ (.head _)).1,(hg4.ok H.X H.f).K.keeps r4.keep⟩
    refine ⟨hq,?_⟩;have gd5:uAk C G (B.add q (methodObj (.ref f) (.ref a))) own4 σ4 { s with heap:=h4,toks:=tk4 } (r.call (.st (.ref f)) (.ref i::xs)) (VR C.τ) Q E:=by
     have e:uA0 r F (.st (.ref f)) ([.ref i]++xs)=r.call (.st (.ref f)) (.ref i::xs):=by
      unfold uA0;rw [hm];rfl
     rw [← e];exact gd4
    refine wpAny_call (method_call (s:={ s with heap:=h4,toks:=tk4 }) hq.1 ?_);exact S.fn (s:={ s with heap:=h4,toks:=tk4 }) H.X H.f H3.blk ((H3.grow p4).frames hm R4) H.dep H.uni (H.hd hm).2 hf R4 (.cons (.ref (uA6 p4 ha)) x4) Q E gd5
   ·rw [if_neg hf] at gd2;exact gd2.elim
 ·exact uAg.fail (by
   show (if (uCb o&&(ap.endLine==pos.line)&&decide (args.length<30)&&(uAz args || !F.hm))=true then _ else (M.fail:M AV)) σ=none;rw [if_neg hg];rfl)
theorem uJs(S:Snd C r n)(H:uBj C G B A F own env n)(R:uAs C G B own σ s.heap){f:Expr}{pos:Pos}{args:List Expr}
  (e2:eval (.Call f args [] pos) env=(do callWith pos (← eval f env) [] (backTo pos (starEach args env)) [])) (e1:evE C.P r (.Call f args [] pos) F=M.bind (r.ev f F) fun fv=>M.bind (evL r F args) fun vs=>uA0 r F fv vs) :
  uAg C G B A own σ s (evE C.P r (.Call f args [] pos) F) (eval (.Call f args [] pos) env) (VR C.τ):=by
 rw [e1,e2];exact (S.ev f H R).bind fun v σ1 own1 h1 tk1 rv e1 p1 R1 x1=>uHl S (H.grow p1) R1 x1 (first:=[]) (rfirst:=[]) .nil
set_option tactic.hygienic true in
theorem uSy(S:Snd C r n)(PC:uEd C)(H:uBj C G B A F own env (n+1))(R:uAs C G B own σ s.heap)(e:Expr):uAg C G B A own σ s (evE C.P r e F) (eval e env) (VR C.τ):=by
 have H':=H.less (Nat.le_succ n);induction e using PySem.Expr.casesOn with
 | Constant c k p=>exact uNx R
 | Name x p=>exact uYq H' R
 | BoolOp op vs p=>
  match vs with
  | [a,b]=>exact uQ5 S H' R C.P rfl
  | []=>cases op<;>exact uAg.fail rfl
  | [_]=>cases op<;>exact uAg.fail rfl
  | _::_::_::_=>cases op<;>exact uAg.fail rfl
 | NamedExpr t v p=>
  induction t using PySem.Expr.casesOn with
  | Name x q=>exact uVo S H' R
  | _=>exact uAg.fail rfl
 | BinOp a op b p=>exact uWk S H' R
 | UnaryOp op v p=>
  induction op using PySem.UnaryOp.casesOn with
  | USub=>exact uZa S H' R
  | Invert=>exact u0d S H' R
  | _=>exact uAg.fail rfl
 | IfExp t a b p=>exact uVe S H' R
 | List es p=>exact uZh S H' R
 | Dict ks vs p=>
  match ks,vs with
  | [],[]=>exact uW2 R
  | [],_::_=>exact uAg.fail rfl
  | _::_,_=>exact uAg.fail rfl
 | Tuple es k p=>exact uVj S H' R
 | Compare a ops cs p=>
  match ops,cs with
  | [op],[b]=>exact uJp S H R
  | [],_=>exact uAg.fail rfl
  | [_],[]=>exact uAg.fail rfl
  | [_],_::_::_=>exact uAg.fail rfl
  | _::_::_,_=>exact uAg.fail rfl
 | Call f args kws p=>
  match kws with
  | []=>
   induction f using PySem.Expr.casesOn with
   | Attribute o x ap=>exact uL1 S PC H' R
   | _=>exact uJs S H' R rfl rfl
  | _::_=>cases f<;>exact uAg.fail rfl
 | JoinedStr es p=>
  match es with
  | []=>exact uAg.fail rfl
  | [e]=>
   induction e using PySem.Expr.casesOn with
   | Constant c k q=>
    cases c with
    | str x=>
     show uAg C G B A own σ s (uD2 (.str x)) (eval (.Constant (.str x) k q) env) (VR C.τ);exact uNx R
    | _=>exact uAg.fail rfl
   | _=>exact uAg.fail rfl
  | e₁::e₂::es=>
   have e0:evE C.P r (.JoinedStr (e₁::e₂::es) p) F=uB4 r F [] (e₁::e₂::es):=by cases e₁<;>first | rfl | (rename_i c _ _;cases c<;>rfl)
   rw [e0];exact uQe S H' R
 | Attribute o x p=>exact uWv S H' R
 | Subscript o i p=>
  induction i using PySem.Expr.casesOn with
  | Slice a b c q=>
   induction c using Option.casesOn with
   | none=>exact uTs S H' R
   | some c=>exact uWx S H' R fun a b p e=>by cases e
  | _=>exact uWx S H' R fun a b p e=>by cases e
 | ListComp elt gens scope p=>
  generalize q:compOf gens=zz;induction zz using Option.casesOn with
  | none=>exact uAg.fail (by rw [uLh q];rfl)
  | some z=>
   obtain ⟨tx,tp,iter,ifs⟩:=z;obtain rfl:=uIx q;exact uYi S H' R
 | _=>exact uAg.fail rfl
end arms
end
section
noncomputable abbrev UR(_:List Addr)(_:Unit)(_:Unit):Prop:=True
section post
variable {C:Cx}{G:Gm}{B:Bl}{A:Around}{own:Own}{σ:St}{s:Shared}{α β δ:Type}
set_option tactic.hygienic true in
theorem uAg.post{m:M α}{t:Sem β}{g:β→Sem δ}{R:List Addr→α→β→Prop}{R':List Addr→α→δ→Prop}(h:uAg C G B A own σ s m t R)(c:β→δ)(k:∀ b Q E s,Q (c b) s→wpAny (model C.prog C.w) A (g b) Q E s)(kr:∀ φ a b,R φ a b→R' φ a (c b)) :
  uAg C G B A own σ s m (t>>=g) R':=⟨fun Q E gd=>by
 refine wpAny_bind (h.go _ _ ?_);unfold uAk at gd ⊢
 split
 ·rename_i e;rw [e] at gd;exact gd
 ·rename_i a σ' e;rw [e] at gd;exact fun own' h' tk' b p r x=>k b Q E _ (gd own' h' tk' (c b) p r (kr _ _ _ x))
 ·rename_i x σ' e;rw [e] at gd;exact gd⟩
theorem uAg.unit{m:M Unit}{t:Sem β}{R:List Addr→Unit→β→Prop}(h:uAg C G B A own σ s m t R):uAg C G B A own σ s (M.bind m fun _=>M.pure ()) t R:=by
 have e:(M.bind m fun _=>M.pure ())=m:=by
  funext σ
  unfold M.bind;generalize m σ=zz;induction zz using Option.casesOn with
  | none=>rfl
  | some z=>
   obtain ⟨z,σ'⟩:=z;cases z<;>rfl
 rw [e];exact h
end post
section stm
variable {C:Cx}{G:Gm}{B:Bl}{A:Around}{own:Own}{σ:St}{s:Shared}{F:FE}{env:Env}{r:Rec}{n:Nat}
theorem uAs.keeps{h h':Heap}(R:uAs C G B own σ h)(k:∀ b o,h.get? b=some o→h'.get? b=some o):uAs C G B own σ h':=by
 obtain ⟨g,X,hg,hX,r⟩:=R;exact ⟨g,X,hg,hX,r.grow k⟩
theorem uMo:∀ (ts:List Expr) (xs:List AV) (us:List Value) {own:Own} {σ:St} {s:Shared},uBj C G B A F own env n→uAs C G B own σ s.heap→VRs C.τ (adr own) xs us→
  uAg C G B A own σ s (uBn F ts xs) (assignInOrder ((assignEach ts env).map (·.2)) us) UR:=by
 intro ts;induction ts with
 | nil=>
  intro xs us own σ s H R h;cases h with
  | nil=>exact uAg.pure R trivial
  | cons=>exact uAg.fail rfl
 | cons t ts ih=>
  intro xs us own σ s H R h;cases h with
  | nil=>exact uAg.fail (by cases t<;>rfl)
  | @cons v u vs us hv hvs=>
  induction t using PySem.Expr.casesOn with
  | Name x p=>
   exact uAg.bind (t:=PySem.holding us (assign (.Name x p) env u)) (.holding (.lift R fun g X hg hX R=>uBs (H.env.at g) R hv)) fun _ σ1 own1 h1 tk1 _ e1 p1 R1 _=>
    ih vs us (H.grow p1) R1 (VRs.mono p1 hvs)
  | _=>exact uAg.fail rfl
theorem uQi{α β:Type}{m:M α}{f:α→M β}{σ:St}{z:Res β×St}(h:M.bind m f σ=some z):(∃ s',(∃ a,f a s'=some z))∨∃ e,(∃ s',m σ=some (.exc e,s')):=by
 unfold M.bind at h;generalize e:m σ=y at h;rcases y with _|⟨a|e',s1⟩
 ·exact nn h
 ·exact .inl ⟨s1,a,h⟩
 ·exact .inr ⟨e',s1,rfl⟩
theorem uZu{x:Str}{v:AV}{σ σ':St}{z:Res Unit}(h:Mine.Internal.storeName F x v σ=some (z,σ')):z=.ok ():=by
 unfold Mine.Internal.storeName at h;generalize F.kind x=k at h;rcases k with _|k
 ·exact nn h
 ·induction k using NameKind.casesOn with
  | «local»=>cases h;rfl
  | cell=>
   obtain ⟨i,_,h⟩:=Option.bind_eq_some_iff.mp h;obtain ⟨o,_,h⟩:=Option.bind_eq_some_iff.mp h;cases h;rfl
  | _=>exact nn h
theorem uFe{z:Res Unit×St}:∀ (ts:List Expr) (xs:List AV) {σ:St},uBn F ts xs σ=some z→(assignEach ts env).length=xs.length∧(assignEach ts env).findIdx? (·.1)=none:=by
 intro ts;induction ts with
 | nil=>
  intro xs σ h;induction xs using List.casesOn with
  | nil=>exact ⟨rfl,rfl⟩
  | cons=>cases h
 | cons t ts ih=>
  intro xs σ h;induction xs using List.casesOn with
  | nil=>cases t<;>cases h
  | cons v vs=>
  induction t using PySem.Expr.casesOn with
  | Name x p=>
   have h':(M.bind (storeName F x v) fun _=>uBn F ts vs) σ=some z:=h;rcases uQi h' with ⟨σ',_,q⟩|⟨e,σ',q⟩
   ·obtain ⟨a,b⟩:=ih vs q;refine ⟨congrArg Nat.succ a,?_⟩;show ((false,assign (.Name x p) env)::assignEach ts env).findIdx? (·.1)=none;rw [List.findIdx?_cons,b];rfl
   ·exact absurd (uZu q) fun z=>by injection z
  | _=>cases h
theorem uVb{P:uBb}{ts:List Expr}{k:Nat}{p:Pos}{v:AV}:asg P r F (.Tuple ts k p) v=if F.hm=true then M.fail else unTup F ts v:=rfl
theorem uUa(S:Snd C r n)(H:uBj C G B A F own env n)(R:uAs C G B own σ s.heap)(t:Expr){v:AV}{rv:Value}(hv:VR C.τ (adr own) v rv):uAg C G B A own σ s (asg C.P r F t v) (assign t env rv) UR:=by
 induction t using PySem.Expr.casesOn with
 | Name x p=>exact .lift R fun g X hg hX R=>uBs (H.env.at g) R hv
 | Attribute o x p=>
  rw [PySem.arm_assign_Attribute];exact uAg.bind (t:=PySem.holding [rv] (eval o env)) (.holding (S.ev o H R)) fun ov σ1 own1 h1 tk1 ru e1 p1 R1 x1=>.standAt
   (uAg.post (t:=PySem.holding [rv,ru] (PySem.setAttr ru x rv)) (.holding (.lift R1 fun g X hg hX R1=>uGg H.X.PA (hg.ok H.X H.f) R1 x1 (hv.mono p1))) (fun _=>()) (fun _ Q E s q=>wpAny_release q) fun _ _ _ x=>x)
 | Subscript o i p=>
  rw [PySem.arm_assign_Subscript];exact uAg.bind (t:=PySem.holding [rv] (eval o env)) (.holding (S.ev o H R)) fun ov σ1 own1 h1 tk1 ru e1 p1 R1 x1=>
   uAg.bind (t:=PySem.holding [rv,ru] (eval i env)) (.holding (S.ev i (H.grow p1) R1)) fun iv σ2 own2 h2 tk2 rw e2 p2 R2 x2=>.standAt
   (uAg.post (t:=PySem.holding [rv,ru,rw] (PySem.setItem ru rw rv)) (.holding (.lift R2 fun g X hg hX R2=>uJo R2 (x1.mono p2) x2 (hv.mono (p1.trans p2)))) (fun _=>()) (fun _ Q E s q=>wpAny_release q) fun _ _ _ x=>x)
 | Tuple ts k p=>
  rw [uVb];generalize hm:F.hm=zz;induction zz using Bool.casesOn with
  | true=>exact uAg.fail rfl
  | false=>
   rw [if_neg (by decide)];induction hv using VR.casesOn with
   | @ref i a ha=>
    by_cases e1 : ∃ xs,σ.H[i]?=some (.tup xs)
    ·obtain ⟨xs,e1⟩:=e1;have e2:unTup F ts (.ref i) σ=uBn F ts xs σ:=Mine.Internal.ob (Mine.Internal.ob (f:=pT) e1 rfl) rfl;refine uAg.congr (m:=uBn F ts xs) ⟨fun Q E gd=>?_⟩ e2;obtain ⟨z,σ',hz⟩:=gd.some;obtain ⟨l1,l2⟩:=uFe (env:=env) ts xs hz;obtain ⟨g,X,hg,hX,r₀⟩:=R;refine Classical.byContradiction fun hn=>?_;obtain ⟨b,ob,h1,h2,h3,nn,vs,x1,x2,x3⟩:=r₀.at e1;refine hn ?_;clear hn;rw [ha] at h2;cases h2;subst x1;have ht:IsTup s.heap a vs.toArray:=⟨_,h3,rfl,_,rfl⟩
     refine assign_Tuple_tuple (H.hd hm).2 ht (by rw [l1,uAn x2];simp) l2 fun h' he=>?_;have R':uAs C G B own σ h':=⟨g,X,hg,hX,r₀.grow fun b o e=>he b o (Nat.ne_of_lt (Heap.lt_size e)) e⟩
     exact (uMo (s:={ s with heap:=h' }) ts xs vs H R' x2).go Q E (gd.at h' s.toks)
    ·rcases q:σ.H[i]?.bind pT with _|xs
     ·exact uAg.fail (obn q)
     ·exact absurd ⟨xs,uUc q⟩ e1
   | _=>exact uAg.fail rfl
 | _=>exact uAg.fail rfl
theorem uQb(S:Snd C r n){v:AV}{rv:Value}:∀ (ts:List Expr) {own:Own} {σ:St} {s:Shared},uBj C G B A F own env n→uAs C G B own σ s.heap→VR C.τ (adr own) v rv→
  uAg C G B A own σ s (uD4 C.P r F v ts) (assignAll rv ((assignEach ts env).map (·.2))) UR:=by
 intro ts;induction ts with
 | nil=>exact fun H R hv=>uAg.pure R trivial
 | cons t ts ih=>
  intro own σ s H R hv;by_cases hs : ∃ a p,t=.Starred a p
  ·obtain ⟨a,p,rfl⟩:=hs;exact uAg.fail rfl
  ·have e1:assignEach (t::ts) env=(false,assign t env)::assignEach ts env:=by
    cases t<;>first | rfl | exact absurd ⟨_,_,rfl⟩ hs
   rw [e1];have e2:uD4 C.P r F v (t::ts)=M.bind (asg C.P r F t v) fun _=>uD4 C.P r F v ts:=rfl;rw [e2];induction ts using List.casesOn with
   | nil=>exact (uUa S H R t hv).unit
   | cons t' ts=>
    have e3 : ∃ x xs,(assignEach (t'::ts) env).map (·.2)=x::xs:=by
     cases t'<;>exact ⟨_,_,rfl⟩
    obtain ⟨x,xs,e3⟩:=e3;rw [List.map_cons,e3];rw [e3] at ih;show uAg C G B A own σ s _ (do PySem.holding [rv] (assign t env rv);assignAll rv (x::xs)) UR;exact uAg.bind (t:=PySem.holding [rv] (assign t env rv)) (.holding (uUa S H R t hv)) fun _ σ1 own1 h1 tk1 _ e1 p1 R1 _=>ih (H.grow p1) R1 (hv.mono p1)
end stm
end
section
section stm
variable {C:Cx}{G:Gm}{B:Bl}{A:Around}{own:Own}{σ:St}{s:Shared}{F:FE}{env:Env}{r:Rec}{n:Nat}
theorem uXn(S:Snd C r n)(H:uBj C G B A F own env n)(R:uAs C G B own σ s.heap){e:Expr}{p:Pos}:uAg C G B A own σ s (exS C.P r (.Expr e p) F) (exec (.Expr e p) env) (FR C.τ):=by
 by_cases hn:uCg e=true
 ·have e0:exS C.P r (.Expr e p) F=M.bind (r.ev e F) fun _=>M.pure .next:=by
   show (if uCg e=true then _ else _)=_;rw [if_pos hn]
  rw [e0];have hs:swapsWith e none p.line env=pure false:=by cases e<;>first | rfl | cases hn
  have hi:interactive env=false:=by
   show (env.scope.kind == .module&&_)=false;rw [H.env.kind];rfl
  refine ⟨fun Q E gd=>wpAny_Expr_any ?_ hi hs⟩;exact (S.ev e H R).bindP (fun v σ1 own1 h1 tk1 rv e1 p1 R1 x1 gd1=>gd1.ok (b:=Flow.next) (tk':=tk1) rfl (List.prefix_refl _) R1 trivial) gd
 ·exact uAg.fail (by show (if uCg e=true then _ else (M.fail:M Fl)) σ=none;rw [if_neg hn];rfl)
theorem uRe(S:Snd C r n)(H:uBj C G B A F own env n)(R:uAs C G B own σ s.heap){e:Option Expr}{p:Pos}:uAg C G B A own σ s (exS C.P r (.Return e p) F) (exec (.Return e p) env) (FR C.τ):=by
 induction e using Option.casesOn with
 | none=>exact ⟨fun Q E gd=>wpAny_Return_none (gd.ok (b:=Flow.ret .none) (tk':=s.toks) rfl (List.prefix_refl _) R (show VR C.τ (adr own) .none .none from .none))⟩
 | some e=>exact ⟨fun Q E gd=>wpAny_Return_some ((S.ev e H R).bindP (fun v σ1 own1 h1 tk1 rv e1 p1 R1 x1 gd1=>gd1.ok (b:=Flow.ret rv) (tk':=tk1) rfl (List.prefix_refl _) R1 x1) gd)⟩
theorem uX7{op:Operator}{a b:AV}{ra rb:Value}(R:uAs C G B own σ s.heap)(ha:VR C.τ (adr own) a ra)(hb:VR C.τ (adr own) b rb):uAg C G B A own σ s (augOp op a b) (inplaceOp op ra rb) (VR C.τ):=by
 induction ha using VR.casesOn with
 | int i t=>
  induction hb using VR.casesOn with
  | int j u=>
   induction op using PySem.Operator.casesOn with
   | Add=>exact .lift R fun g X hg hX R=>Ref.int (k:=i+j) R rfl fun Q E q=>iadd_int (q _ _)
   | Sub=>exact .lift R fun g X hg hX R=>Ref.int (k:=i-j) R rfl fun Q E q=>isub_int (q _ _)
   | _=>exact uAg.fail rfl
  | _=>cases op<;>exact uAg.fail rfl
 | _=>cases op<;>exact uAg.fail rfl
theorem u0b(H:uBj C G B A F own env n)(R:uAs C G B own σ s.heap){x:Str}(hk:F.kind x=some .local):uAg C G B A own σ s (loadName C.P F x) (PySem.loadName env x) (VR C.τ):=.lift R fun g X hg hX R=>by
 have hl:env.kindOf x=some .local:=(H.env.at (X:=X) g).same hk (by decide);generalize hv:σ.L.lookup x=zz;induction zz using Option.casesOn with
 | none=>exact Ref.fail (by unfold loadName;rw [hk];dsimp only;rw [hv];rfl)
 | some v=>
  obtain ⟨mc,hn,hm⟩:=R.ns;obtain ⟨rv,h1,h2⟩:=hm x v hv;exact Ref.of (a:=v) (σ':=σ) (by unfold loadName;rw [hk];dsimp only;rw [hv];rfl) fun Q E q=>wpAny_loadName_local H.env.kind hl (H.env.loc▸hn) h1 (q own s.heap s.toks rv (List.prefix_refl _) R h2)
theorem uOi(S:Snd C r n)(H:uBj C G B A F own env n)(R:uAs C G B own σ s.heap){x:Str}{p pos:Pos}{op:Operator}{e:Expr}:uAg C G B A own σ s (exS C.P r (.AugAssign (.Name x p) op e pos) F) (exec (.AugAssign (.Name x p) op e pos) env) (FR C.τ):=by
 by_cases hk:F.kind x=some .local
 ·have e0:exS C.P r (.AugAssign (.Name x p) op e pos) F=M.bind (loadName C.P F x) fun a=>M.bind (r.ev e F) fun b=>M.bind (augOp op a b) fun c=>M.bind (storeName F x c) fun _=>M.pure .next:=by
   show (if F.kind x=some .local then _ else _)=_;rw [if_pos hk]
  rw [e0];refine ⟨fun Q E gd=>wpAny_AugAssign_Name ?_⟩;refine (u0b H R hk).bindP (fun a σ1 own1 h1 tk1 ra e1 p1 R1 x1 gd1=>?_) gd;refine (S.ev e (H.grow p1) R1).bindP (fun b σ2 own2 h2 tk2 rb e2 p2 R2 x2 gd2=>?_) gd1;refine (uX7 R2 (x1.mono p2) x2).bindP (fun c σ3 own3 h3 tk3 rc e3 p3 R3 x3 gd3=>?_) gd2;have st:uAg C G B A own3 σ3 { s with heap:=h3,toks:=tk3 } (storeName F x c) (PySem.storeName env x rc) UR:=.lift R3 fun g X hg hX R=>uEo ((((H.grow p1).grow p2).grow p3).env.at g) R x3;exact st.bindP (fun _ σ4 own4 h4 tk4 _ e4 p4 R4 _ gd4=>gd4.ok (b:=Flow.next) (tk':=tk4) rfl (List.prefix_refl _) R4 trivial) gd3
 ·exact uAg.fail (by show (if F.kind x=some .local then _ else (M.fail:M Fl)) σ=none;rw [if_neg hk];rfl)
theorem uOv(S:Snd C r n)(H:uBj C G B A F own env n)(R:uAs C G B own σ s.heap){o:Expr}{x:Str}{p pos:Pos}{op:Operator}{e:Expr}:uAg C G B A own σ s (exS C.P r (.AugAssign (.Attribute o x p) op e pos) F) (exec (.AugAssign (.Attribute o x p) op e pos) env) (FR C.τ):=by
 refine ⟨fun Q E gd=>wpAny_AugAssign_AttributeAny ?_⟩;refine (S.ev o H R).bindP (fun ov σ0 own0 h0 tk0 ro e0 p0 R0 x0 gd0=>?_) gd;have ga:uAg C G B A own0 σ0 { s with heap:=h0,toks:=tk0 } (Mine.Internal.getAttr C.P ov x) (PySem.getAttr ro x true) (VR C.τ):=.lift R0 fun g X hg hX R1=>uGw H.X.PA (hg.ok H.X H.f) R1 x0;refine ga.bindP (fun a σ1 own1 h1 tk1 ra e1 p1 R1 x1 gd1=>?_) gd0;refine (S.ev e ((H.grow p0).grow p1) R1).bindP (fun b σ2 own2 h2 tk2 rb e2 p2 R2 x2 gd2=>?_) gd1;refine (uX7 R2 (x1.mono p2) x2).bindP (fun c σ3 own3 h3 tk3 rc e3 p3 R3 x3 gd3=>?_) gd2;have st:uAg C G B A own3 σ3 { s with heap:=h3,toks:=tk3 } (Mine.Internal.setAttr C.P ov x c) (PySem.setAttr ro x rc) UR:=.lift R3 fun g X hg hX R1=>uGg H.X.PA (hg.ok H.X H.f) R1 (x0.mono (p1.trans (p2.trans p3))) x3;exact st.bindP (fun _ σ4 own4 h4 tk4 _ e4 p4 R4 _ gd4=>gd4.ok (b:=Flow.next) (tk':=tk4) rfl (List.prefix_refl _) R4 trivial) gd3
theorem uRj(S:Snd C r n)(H:uBj C G B A F own env n)(R:uAs C G B own σ s.heap){o i:Expr}{p pos:Pos}:uAg C G B A own σ s (exS C.P r (.Delete [.Subscript o i p] pos) F) (exec (.Delete [.Subscript o i p] pos) env) (FR C.τ):=by
 have e0:exS C.P r (.Delete [.Subscript o i p] pos) F=M.bind (r.ev o F) fun ov=>M.bind (r.ev i F) fun iv=>M.bind (Mine.Internal.delItem ov iv) fun _=>M.pure .next:=rfl;have e1:exec (.Delete [.Subscript o i p] pos) env=(do PySem.standAt pos;(do (do let ov ← eval o env;let iv ← PySem.holding [ov] (eval i env);PySem.standAt p;PySem.holding [ov,iv] (PySem.delItem ov iv);release [ov,iv] []);pure ());pure Flow.next):=rfl;rw [e0,e1];refine .standAt ⟨fun Q E gd=>?_⟩;refine wpAny_bind (wpAny_bind ?_);refine wpAny_bind ((S.ev o H R).bindP (fun ov σ0 own0 h0 tk0 ro e0 p0 R0 x0 gd0=>?_) gd);refine wpAny_bind (wpAny_holding ((S.ev i (H.grow p0) R0).bindP (fun iv σ1 own1 h1 tk1 ri e1 p1 R1 x1 gd1=>?_) gd0));refine wpAny_bind (wpAny_standAt (wpAny_bind (wpAny_holding ?_)));have de:uAg C G B A own1 σ1 { s with heap:=h1,toks:=tk1 } (Mine.Internal.delItem ov iv) (PySem.delItem ro ri) UR:=.lift R1 fun g X hg hX R1=>uJz R1 (x0.mono p1) x1;refine de.bindP (fun _ σ4 own4 h4 tk4 _ e4 p4 R4 _ gd4=>?_) gd1;exact wpAny_release (wpAny_pure (wpAny_pure (gd4.ok (b:=Flow.next) (tk':=tk4) rfl (List.prefix_refl _) R4 trivial)))
theorem t_if(S:Snd C r n)(H:uBj C G B A F own G.fenv n)(hL:B.Lc=G.Lf)(R:uAs C G B own σ s.heap){t:Expr}{a b:List Stmt}{pos:Pos}:uAg C G B A own σ s (exS C.P r (.If t a b pos) F) (exec (.If t a b pos) G.fenv) (FR C.τ):=by
 rw [PySem.arm_exec_If];exact .standAt ((S.tst t H R).bind fun c σ1 own1 h1 tk1 d e1 p1 R1 x1=>.ite x1 (fun _=>S.ex a (H.grow p1) hL R1) (fun _=>S.ex b (H.grow p1) hL R1))
theorem uRl(S:Snd C r n)(H:uBj C G B A F own env n)(R:uAs C G B own σ s.heap){t:Expr}{m:Option Expr}{pos:Pos}:uAg C G B A own σ s (exS C.P r (.Assert t m pos) F) (exec (.Assert t m pos) env) (FR C.τ):=by
 rw [PySem.arm_exec_Assert];exact .standAt ((S.tst t H R).bind fun c σ1 own1 h1 tk1 d e1 p1 R1 x1=>.ite x1 (fun _=>uAg.pure R1 trivial) (fun _=>uAg.fail rfl))
end stm
end
end Mine.Internal
end
section
set_option backward.match.sparseCases true
namespace Mine.Internal
open PySem PySem.W PyProof.Rows PySem.Calls PySem.SeqAt
noncomputable def uFa(ps:List (Str×AV))(L:List (Str×AV)):List (Str×AV):=ps.foldl (fun L p=>uD0 p.1 p.2 L) L
theorem uGp{y:Str}:∀ (ps:List (Str×AV)) (L:List (Str×AV)),(ps.map (·.1)).Nodup→(uFa ps L).lookup y=match ps.lookup y with | some v=>some v | none=>L.lookup y:=by
 intro zz;induction zz with
 | nil=>
  intro _ _;exact rfl
 | cons zq ps ih=>
  obtain ⟨x,v⟩:=zq;intro L h;rw [List.map_cons,List.nodup_cons] at h;have e:uFa ((x,v)::ps) L=uFa ps (uD0 x v L):=rfl;rw [e,ih _ h.2,uGn,List.lookup_cons];by_cases q:y=x
  ·rw [if_pos q,q,beq_self_eq_true,uCe h.1]
  ·rw [if_neg q,beq_false_of_ne q]
theorem uR5{β:Type}{y:Str}:∀ (ps:List (Str×β)),(ps.map (·.1)).Nodup→ps.reverse.lookup y=ps.lookup y:=by
 intro zz;induction zz with
 | nil=>
  intro _;exact rfl
 | cons zq ps ih=>
  obtain ⟨x,v⟩:=zq;intro h;rw [List.map_cons,List.nodup_cons] at h;rw [List.reverse_cons,uF2,ih h.2,List.lookup_cons];by_cases q:y=x
  ·rw [q,beq_self_eq_true,uCe h.1];simp
  ·rw [beq_false_of_ne q,if_neg q];cases ps.lookup y<;>rfl
section stm
variable {C:Cx}{G:Gm}{B:Bl}{A:Around}{own:Own}{σ:St}{s:Shared}{F:FE}{env:Env}{r:Rec}{n:Nat}
theorem uAs.locEq{L':List (Str×AV)}{H:List AO}{L:List (Str×AV)}{h:Heap}(R:uAs C G B own ⟨L,H⟩ h)(e:∀ x,L'.lookup x=L.lookup x):uAs C G B own ⟨L',H⟩ h:=by
 obtain ⟨g,X,hg,hX,r⟩:=R;obtain ⟨mc,a,b⟩:=r.ns;exact ⟨g,X,hg,hX,⟨⟨mc,a,fun x v q=>b x v (by rw [← e];exact q)⟩,r.keep,r.above,r.ownAt,r.xAt,r.nd,r.off,r.objs,r.big,r.low⟩⟩
theorem uS3:∀ (ps:List (Str×AV)) (us:List Value) {own:Own} {σ:St} {s:Shared},uBj C G B A F own env n→uAs C G B own σ s.heap→VRs C.τ (adr own) (ps.map (·.2)) us→(∀ p∈ps,F.kind p.1=some .local)→
  ∀ (Q:Unit→Shared→Prop) (E:Value→Shared→Prop),(∀ own' h' tk',adr own<+:adr own'→uAs C G B own' ⟨uFa ps σ.L,σ.H⟩ h'→Q () { s with heap:=h',toks:=tk' })→wpAny (model C.prog C.w) A (assignInOrder (ps.map fun p=>bindName env p.1) us) Q E s:=by
 intro ps;induction ps with
 | nil=>
  intro us own σ s H R hv hk Q E q;show wpAny _ _ (pure ()) _ _ _;exact wpAny_pure (q own s.heap s.toks (List.prefix_refl _) R)
 | cons p ps ih=>
  intro us own σ s H R hv hk Q E q;obtain ⟨x,v⟩:=p;cases hv with
  | @cons _ u _ us hv hvs=>
   show wpAny _ _ (do PySem.holding us (bindName env x u);assignInOrder (ps.map fun p=>bindName env p.1) us) _ _ _;have st:uAg C G B A own σ s (storeName F x v) (PySem.storeName env x u) UR:=.lift R fun g X hg hX R=>uEo (H.env.at g) R hv;refine wpAny_bind (wpAny_holding (wpAny_bindName (st.go _ _ ?_)));unfold uAk;have e1:storeName F x v σ=some (.ok (),{ σ with L:=uD0 x v σ.L }):=by unfold storeName;rw [hk _ (.head _)]
   rw [e1];intro own1 h1 tk1 _ p1 R1 _;exact ih us (σ:={ σ with L:=uD0 x v σ.L }) (s:={ s with heap:=h1,toks:=tk1 }) (H.grow p1) R1 (VRs.mono p1 hvs) (fun p hp=>hk p (.tail _ hp)) Q E fun own' h' tk' p' R'=>q own' h' tk' (p1.trans p') R'
theorem uG2(ns:List Str)(ps:List Pos)(xs:List AV)(σ:St)(h1:ns.length=ps.length)(h2:ns.length=xs.length)(hk:∀ x∈ns,F.kind x=some .local):uBn F ((ns.zip ps).map fun p=>.Name p.1 p.2) xs σ=some (.ok (),⟨uFa (ns.zip xs) σ.L,σ.H⟩):=by
 induction ns generalizing ps xs σ with
 | nil=>
  induction ps using List.casesOn with
  | nil=>
   induction xs using List.casesOn with
   | nil=>rfl
   | cons=>cases h2
  | cons=>cases h1
 | cons x ns ih=>
  induction ps using List.casesOn with
  | nil=>cases h1
  | cons p ps=>
  induction xs using List.casesOn with
  | nil=>cases h2
  | cons v xs=>
  show M.bind (storeName F x v) (fun _=>uBn F ((ns.zip ps).map fun p=>.Name p.1 p.2) xs) σ=_;have e1:storeName F x v σ=some (.ok (),{ σ with L:=uD0 x v σ.L }):=by unfold storeName;rw [hk _ (.head _)]
  unfold M.bind;rw [e1];exact ih ps xs _ (Nat.succ.inj h1) (Nat.succ.inj h2) fun x hx=>hk x (.tail _ hx)
theorem uHt{f:Str→Bool}{line:Nat}:∀ (ts:List Expr),(ts.filterMap fun | .Name id pos=>if f id&&pos.line==line then some id else none | _=>none).length=ts.length→
  ∃ (ns:List Str) (ps:List Pos),ns.length=ps.length∧ts=(ns.zip ps).map (fun p=>.Name p.1 p.2)∧(ts.filterMap fun | .Name id pos=>if f id&&pos.line==line then some id else none | _=>none)=ns∧∀ x∈ns,f x=true:=by
 intro zz;induction zz with
 | nil=>
  intro _;exact ⟨[],[],rfl,rfl,rfl,fun x hx=>by cases hx⟩
 | cons t ts ih=>
  intro h;have le:(ts.filterMap fun | .Name id pos=>if f id&&pos.line==line then some id else none | _=>none).length≤ts.length:=List.length_filterMap_le ..;rw [List.filterMap_cons] at h ⊢;induction t using PySem.Expr.casesOn with
  | Name x p=>
   dsimp only at h ⊢;by_cases hc:(f x&&p.line==line)=true
   ·rw [if_pos hc] at h ⊢;dsimp only at h ⊢;refine Classical.byContradiction fun hn=>?_;obtain ⟨ns,ps,l,e1,e2,e3⟩:=ih (Nat.succ.inj h);refine hn ?_;clear hn;refine ⟨x::ns,p::ps,by simp [l],by rw [List.zip_cons_cons,List.map_cons,← e1],by rw [e2],fun y hy=>?_⟩;rcases List.mem_cons.mp hy with rfl|hy
    ·exact (Bool.and_eq_true_iff.mp hc).1
    ·exact e3 y hy
   ·rw [if_neg hc] at h;dsimp only at h;rw [List.length_cons] at h;exact absurd h (Nat.ne_of_lt (Nat.lt_succ_of_le le))
  | _=>dsimp only at h;rw [List.length_cons] at h;exact absurd h (Nat.ne_of_lt (Nat.lt_succ_of_le le))
theorem uIf{l:List Str}(hl:l.length=2∨l.length=3)(h:l.eraseDups.length=l.length):l.Nodup:=by
 rcases l with _|⟨a,_|⟨b,_|⟨c,_|⟨d,l⟩⟩⟩⟩
 ·exact List.nodup_nil
 ·exact List.nodup_cons.mpr ⟨List.not_mem_nil,List.nodup_nil⟩
 ·by_cases q:b=a
  ·subst q;simp [List.eraseDups_cons] at h
  ·simp [Ne.symm q]
 ·by_cases q1:b=a
  ·subst q1;by_cases q2:c=b
   ·subst q2;simp [List.eraseDups_cons] at h
   ·simp [List.eraseDups_cons,q2] at h
  ·by_cases q2:c=a
   ·subst q2;simp [List.eraseDups_cons,q1] at h
   ·by_cases q3:c=b
    ·subst q3;simp [List.eraseDups_cons,q1] at h
    ·simp [Ne.symm q1,Ne.symm q2,Ne.symm q3]
 ·rcases hl with e|e<;>cases e
theorem nb{x:Bool}(h:(!x)=false):x=true:=by
 cases x
 ·exact nt' h
 ·rfl
theorem uMb{ts vs:List Expr}{k k2:Nat}{p p2:Pos}(h:uCn [.Tuple ts k p] (.Tuple vs k2 p2)=false):swappedStores [.Tuple ts k p] (.Tuple vs k2 p2) env=pure none∨
  ∃ (ns:List Str) (ps:List Pos) (k':Nat) (p':Pos),[Expr.Tuple ts k p]=[.Tuple ((ns.zip ps).map fun p=>.Name p.1 p.2) k' p']∧ns.length=ps.length∧swappedStores [.Tuple ts k p] (.Tuple vs k2 p2) env=pure (some ns)∧ns.Nodup∧∀ x∈ns,env.kindOf x=some .local:=by
 unfold swappedStores;have hb:vs.all (constantsAlone 8)=false:=h;dsimp only
 split
 ·exact .inl rfl
 rename_i c1
 split
 ·exact .inl rfl
 split
 ·exact .inl rfl
 rename_i c3
 split
 ·exact .inl rfl
 rw [hb];have c1':=(Bool.or_eq_false_iff.mp (Bool.or_eq_false_iff.mp ((Bool.not_eq_true _).mp c1)).1).1;have c3':=Bool.or_eq_false_iff.mp ((Bool.not_eq_true _).mp c3);have c3:=And.intro (bne_eq_false_iff_eq.mp c3'.1) (bne_eq_false_iff_eq.mp c3'.2);refine Classical.byContradiction fun hn=>?_;obtain ⟨ns,ps,l,e1,e2,e3⟩:=uHt (f:=fun id=>env.kindOf id==some .local) ts c3.1;refine hn ?_;clear hn;refine .inr ⟨ns,ps,k,p,by rw [← e1],l,?_,?_,fun x hx=>by simpa using e3 x hx⟩
 ·exact congrArg (fun l=>(pure (some l):Sem (Option (List Str)))) e2
 ·have c31:ns.length=ts.length:=(congrArg List.length e2).symm.trans c3.1;have c32:ns.eraseDups.length=ns.length:=((congrArg (fun l:List Str=>l.eraseDups.length) e2).symm.trans c3.2).trans (congrArg List.length e2);refine uIf ?_ c32;rw [c31];exact (Bool.or_eq_true_iff.mp (nb c1')).imp eq_of_beq eq_of_beq
theorem uH7{ts:List Expr}{e:Expr}(h:uCn ts e=false):swappedStores ts e env=pure none∨
  ∃ (ns:List Str) (ps:List Pos) (k':Nat) (p':Pos),ts=[.Tuple ((ns.zip ps).map fun p=>.Name p.1 p.2) k' p']∧ns.length=ps.length∧swappedStores ts e env=pure (some ns)∧ns.Nodup∧∀ x∈ns,env.kindOf x=some .local:=by
 match ts with
 | []=>exact .inl rfl
 | t::_::_=>exact .inl (by cases t<;>rfl)
 | [t]=>
  induction t using PySem.Expr.casesOn with
  | Tuple ts k p=>
   induction e using PySem.Expr.casesOn with
   | Tuple vs k2 p2=>exact uMb h
   | _=>exact .inl rfl
  | List ts p=>cases h
  | _=>exact .inl rfl
end stm
end Mine.Internal
end
section
namespace Mine.Internal
open PySem PySem.W PyProof.Rows PySem.Calls PySem.SeqAt
section
theorem uS6{α β:Type}{R:α→β→Prop}{l:List α}{r:List β}(h:FA R l r):FA R l.reverse r.reverse:=by
 induction h with
 | nil=>exact .nil
 | cons x _ ih=>
  rw [List.reverse_cons,List.reverse_cons];exact uCv ih (.cons x .nil)
section stm
variable {C:Cx}{G:Gm}{B:Bl}{A:Around}{own:Own}{σ:St}{s:Shared}{F:FE}{env:Env}{r:Rec}{n:Nat}
theorem uD1.locl{φ:List Addr}(x:uD1 G (B.ex []) F env φ){y:Str}(h:env.kindOf y=some .local):F.kind y=some .local:=by
 rcases x.kinds y with q|⟨_,q⟩
 ·rw [← q];exact h
 ·rw [q] at h;cases h
theorem uFj:∀ (ns:List Str) (ps:List Pos),ns.length=ps.length→(assignEach ((ns.zip ps).map fun p=>.Name p.1 p.2) env).length=ns.length:=by
 intro ns;induction ns with
 | nil=>
  intro ps h;rcases ps with _|⟨p,ps⟩
  ·rfl
  ·cases h
 | cons x ns ih=>
  intro ps h;rcases ps with _|⟨p,ps⟩
  ·cases h
  ·exact congrArg (· + 1) (ih ps (Nat.succ.inj h))
theorem uX0(H:uBj C G B A F own env n)(R:uAs C G B own σ s.heap){ns:List Str}{ps:List Pos}{k:Nat}{p:Pos}(hl:ns.length=ps.length)(hn:ns.Nodup)(hk:∀ x∈ns,env.kindOf x=some .local){v:AV}{rv:Value}(hv:VR C.τ (adr own) v rv){Q:Flow→Shared→Prop}{E:Value→Shared→Prop}{stores:List (Value→Sem Unit)}
  (gd:uAk C G B own σ s (M.bind (uD4 C.P r F v [.Tuple ((ns.zip ps).map fun p=>.Name p.1 p.2) k p]) fun _=>M.pure Fl.next) (FR C.τ) Q E):wpAny (model C.prog C.w) A (assignStores env rv (some ns) stores) Q E s:=by
 have e0:uD4 C.P r F v [.Tuple ((ns.zip ps).map fun p=>.Name p.1 p.2) k p]=M.bind (if F.hm=true then M.fail else unTup F ((ns.zip ps).map fun p=>.Name p.1 p.2) v) fun _=>M.pure ():=rfl;rw [e0] at gd;generalize hm:F.hm=zz;induction zz using Bool.casesOn with
 | true=>rw [hm,if_pos rfl] at gd;exact gd.elim
 | false=>
  rw [hm,if_neg (by decide)] at gd;have key : ∃ i xs,v=.ref i∧σ.H[i]?=some (.tup xs)∧∃ z,uBn F ((ns.zip ps).map fun p=>.Name p.1 p.2) xs σ=some z:=by
   obtain ⟨z,σ',hz⟩:=gd.some;cases q:unTup F ((ns.zip ps).map fun p=>.Name p.1 p.2) v σ with
   | none=>unfold M.bind at hz;rw [q] at hz;cases hz
   | some z=>
    have q':=q;rcases v with _|_|_|_|i|_
    case ref=>
     obtain ⟨xs,e1,q'⟩:=Option.bind_eq_some_iff.mp q';exact ⟨i,xs,rfl,uUc e1,z,q'⟩
    all_goals exact nn q'
  refine Classical.byContradiction fun hn=>?_;obtain ⟨i,xs,rfl,e1,z,hz⟩:=key;refine hn ?_;clear hn;obtain ⟨l1,_⟩:=uFe (env:=env) _ xs hz;rw [uFj ns ps hl] at l1;have hkF:∀ x∈ns,F.kind x=some .local:=fun x hx=>H.env.locl (hk x hx);have hst:=uG2 ns ps xs σ hl l1 hkF;cases hv with
  | @ref _ a ha=>
  obtain ⟨g,X,hg,hX,r₀⟩:=R;obtain ⟨b,ob,h1,h2,h3,nn,vs,x1,x2,x3⟩:=r₀.at e1;rw [ha] at h2;cases h2;subst x1;have ht:IsTup s.heap a vs.toArray:=⟨_,h3,rfl,_,rfl⟩
  have hlen:ns.length=vs.toArray.size:=by rw [l1,uAn x2];simp
  unfold assignStores;refine wpAny_bind (wpAny_rule (wpAny_bind ?_));rw [hlen];refine unpackItems_tuple (H.hd hm).2 ht fun h' he=>?_;have R':uAs C G B own σ h':=⟨g,X,hg,hX,r₀.grow fun b o e=>he b o (Nat.ne_of_lt (Heap.lt_size e)) e⟩
  have zn:(ns.zip xs).map (·.1)=ns:=uGj ns xs (Nat.le_of_eq l1);have zs:(ns.zip xs).map (·.2)=xs:=by
   have:∀ (ns:List Str) (xs:List AV),ns.length=xs.length→(ns.zip xs).map (·.2)=xs:=fun ns=>by
    induction ns with
    | nil=>intro xs h;induction xs using List.casesOn with
     | nil=>rfl
     | cons _ _=>cases h
    | cons n ns ih=>intro xs h;induction xs using List.casesOn with
     | nil=>cases h
     | cons x xs=>rw [List.zip_cons_cons,List.map_cons,ih xs (by simpa using h)]
   exact this ns xs l1
  have em:ns.reverse.map (fun n=>bindName env n)=(ns.zip xs).reverse.map fun p=>bindName env p.1:=by
   rw [← zn,← List.map_reverse,List.map_map,zn];rfl
  refine wpAny_bind ?_;rw [em];refine uS3 (s:={ s with heap:=h' }) (σ:=σ) (ns.zip xs).reverse vs.toArray.toList.reverse H R' ?_ (fun p hp=>?_) _ _ fun own' h2 tk' p' R2=>wpAny_pure ?_
  ·rw [List.map_reverse,zs];exact uS6 (by simpa using x2)
  ·exact hkF p.1 (by rw [← zn];exact List.mem_map.mpr ⟨p,List.mem_reverse.mp hp,rfl⟩)
  ·have hnz:((ns.zip xs).map (·.1)).Nodup:=by rw [zn];exact hn
   have R3:uAs C G B own' ⟨uFa (ns.zip xs) σ.L,σ.H⟩ h2:=R2.locEq fun x=>by
    rw [uGp _ _ hnz,uGp _ _ (by rw [List.map_reverse];exact List.pairwise_reverse.mpr (List.Pairwise.imp (fun e=>Ne.symm e) hnz)),uR5 _ hnz]
   have em2:M.bind (M.bind (unTup F ((ns.zip ps).map fun p=>.Name p.1 p.2) (.ref i)) fun _=>M.pure ()) (fun _=>M.pure Fl.next) σ=some (.ok Fl.next,⟨uFa (ns.zip xs) σ.L,σ.H⟩):=by
    have eT:unTup F ((ns.zip ps).map fun p=>.Name p.1 p.2) (.ref i) σ=some (.ok (),⟨uFa (ns.zip xs) σ.L,σ.H⟩):=Mine.Internal.ob (Mine.Internal.ob (f:=pT) e1 rfl) hst;unfold M.bind;rw [eT];rfl
   exact gd.ok (b:=Flow.next) (tk':=tk') em2 p' R3 trivial
theorem nsn{α:Type}{x:α}{p:Prop}(h:none=some x):p:=by cases h
theorem uN3(t e:Expr)(line:Nat)(env:Env):swapsWith e (some t) line env=pure false∨
  ∃ x q b,t=.Name x q∧swapsWith e (some t) line env=pure (env.blockKind == .function&&env.kindOf x==some .local&&b)∧uCg e=false:=by
 unfold swapsWith
 split
 ·next h=>
  have nc:uCg e=false:=by revert h;cases e<;>first | exact fun _=>rfl | exact nsn
  cases t<;>first | exact .inl rfl | exact .inr ⟨_,_,_,rfl,by rw [← Bool.and_assoc],nc⟩
 ·exact .inl rfl
theorem uMk(ts:List Expr)(e:Expr)(line:Nat)(env:Env):swapsWithSole ts e line env=pure false∨
  ∃ x q,ts=[.Name x q]∧swapsWithSole ts e line env=pure true∧env.kindOf x=some .local∧uCg e=false:=by
 match ts with
 | []=>exact .inl rfl
 | _::_::_=>exact .inl rfl
 | [t]=>
  rcases uN3 t e line env with h|⟨x,q,b,rfl,h,hn⟩
  ·exact .inl h
  ·generalize hb:(env.blockKind == .function&&env.kindOf x==some .local&&b)=zz;induction zz using Bool.casesOn with
   | false=>rw [hb] at h;exact .inl h
   | true=>
    rw [hb] at h;simp only [Bool.and_eq_true,beq_iff_eq] at hb;exact .inr ⟨x,q,rfl,h,hb.1.2,hn⟩
theorem uOf(S:Snd C r n)(H':uBj C G B A F own env n){elt iter:Expr}{tx x:Str}{tp q p pos':Pos}{ifs:List Expr}{scope:Scope}(hm:F.hm=false)(hset:uB3 iter=false)(R:uAs C G B own σ s.heap)(hL:B.Lc=G.Lf)(hk:F.kind x=some .local){u:Value→Sem Unit}(hu:∀ a,u a=assign (.Name x q) env a)
  {Q:Flow→Shared→Prop} {E:Value→Shared→Prop} (gd:uAk C G B own σ s (M.bind (evE C.P r (.ListComp elt [⟨.Name tx tp,iter,ifs,0⟩] scope p) F) fun v=>M.bind (uD4 C.P r F v [.Name x q]) fun _=>M.pure Fl.next) (FR C.τ) Q E) :
  wpAny (model C.prog C.w) A (comprehension (.ListComp elt [⟨.Name tx tp,iter,ifs,0⟩] scope p) scope env pos' (newList []) false (eval iter env) (some u)) (fun _ s'=>Q .next s') E s:=by
 refine uI2 (QQ:=fun _ s'=>Q .next s') (use:=some u) S H' hm hset R gd fun own' σ' h' tk' acc accA L m p1 R6 hne hns hv gd5=>?_;have H6:uBj C G (B.put L m) A F own' env n:=⟨H'.X,H'.f,(H'.grow p1).env,H'.dep,H'.uni,H'.hd,.inl hL⟩
 have st:uAg C G (B.put L m) A own' σ' { s with heap:=h',toks:=tk' } (storeName F x (.ref acc)) (assign (.Name x q) env (.ref accA)) UR:=.lift R6 fun g X hg hX R=>uBs (H6.env.at g) R hv;have es:storeName F x (.ref acc) σ'=some (.ok (),{ σ' with L:=uD0 x (.ref acc) σ'.L }):=by unfold storeName;rw [hk]
 show wpAny (model C.prog C.w) A (u (.ref accA)) (fun _ s''=>∃ m,s''.heap.Ns L m∧∀ h',Heap.SameBut L s''.heap h'→Q .next { s'' with heap:=h' }) E _;rw [hu];refine st.go _ _ ?_;unfold uAk;rw [es];intro own7 h7 tk7 _ p7 R7 _;have ns7 : ∃ m',h7.Ns L m':=by
  obtain ⟨g,X,hg,hX,r⟩:=R7;cases hX with
  | @cons _ b _ _ z hX=>
   obtain ⟨b1,b2⟩:=b;obtain ⟨z1,z2⟩:=z;dsimp only at z1 z2;subst z1;exact ⟨m,z2.ns (r.xAt _ (.head _)).1⟩
 obtain ⟨m',ns7⟩:=ns7;refine ⟨m',ns7,fun h8 hs=>?_⟩;have em:M.bind (uD4 C.P r F (.ref acc) [.Name x q]) (fun _=>M.pure Fl.next) σ'=some (.ok Fl.next,{ σ' with L:=uD0 x (.ref acc) σ'.L }):=by
  show M.bind (M.bind (storeName F x (.ref acc)) fun _=>M.pure ()) (fun _=>M.pure Fl.next) σ'=_;unfold M.bind;rw [es];rfl
 exact gd5.ok (b:=Flow.next) (tk':=tk7) em p7 (uKu R7 hne fun b o hb z=>(hs.2 b hb).trans z) trivial
noncomputable def valM(P:uBb)(r:Rec)(F:FE)(e:Expr):M AV:=if uCg e=true then r.ev e F else evE P r e F
theorem uRo(P:uBb)(r:Rec)(F:FE)(σ:St):∀ e:Expr,uCg e=false→evE P r e F σ=none∨∃ elt tx tp iter ifs scope p,e=.ListComp elt [⟨.Name tx tp,iter,ifs,0⟩] scope p∧F.hm=false∧uB3 iter=false:=fun e h=>by
 induction e using PySem.Expr.casesOn with
 | ListComp elt gens scope p=>
  clear h;generalize q:compOf gens=zz;induction zz using Option.casesOn with
  | none=>exact .inl (by rw [uLh q];rfl)
  | some z=>
   refine Classical.byContradiction fun hn=>?_;obtain ⟨tx,tp,iter,ifs⟩:=z;refine hn ?_;clear hn;obtain rfl:=uIx q;by_cases hg:(F.hm||uB3 iter)=true
   ·exact .inl (by show (if (F.hm||uB3 iter)=true then (M.fail:M AV) else _) σ=none;rw [if_pos hg];rfl)
   ·have q:=Bool.or_eq_false_iff.mp (Bool.eq_false_iff.mpr hg);exact .inr ⟨_,_,_,_,_,_,_,rfl,q.1,q.2⟩
 | SetComp elt gens scope p=>exact .inl rfl
 | DictComp a b gens scope p=>exact .inl rfl
 | _=>cases h
set_option maxHeartbeats 1000000 in
theorem uRt(S:Snd C r n)(PC:uEd C)(H:uBj C G B A F own env (n+1))(hL:B.Lc=G.Lf)(R:uAs C G B own σ s.heap){ts:List Expr}{e:Expr}{pos:Pos}:uAg C G B A own σ s (exS C.P r (.Assign ts e pos) F) (exec (.Assign ts e pos) env) (FR C.τ):=by
 have H':=H.less (Nat.le_succ n);generalize hb:uCn ts e=zz;induction zz using Bool.casesOn with
 | true=>exact uAg.fail (by show (if uCn ts e=true then (M.fail:M Fl) else _) σ=none;rw [if_pos hb];rfl)
 | false=>
  have e0:exS C.P r (.Assign ts e pos) F=M.bind (valM C.P r F e) fun v=>M.bind (uD4 C.P r F v ts) fun _=>M.pure .next:=by
   show (if uCn ts e=true then M.fail else _)=_;rw [if_neg (by rw [hb];decide)];rfl
  rw [e0,PySem.arm_exec_Assign];refine .standAt ?_;have hev:uAg C G B A own σ s (valM C.P r F e) (eval e env) (VR C.τ):=by
   unfold valM
   split
   ·exact S.ev e H' R
   ·exact uSy S PC H R e
  rcases uMk ts e pos.line env with q|⟨x,q,rfl,q1,q2,q3⟩
  ·rw [q];refine ⟨fun Q E gd=>wpAny_bind (wpAny_pure ?_)⟩;rw [if_neg (by decide)];refine wpAny_bind (hev.bindP (fun v σ1 own1 h1 tk1 rv e1 p1 R1 x1 gd1=>?_) gd);rcases uH7 (env:=env) hb with q|⟨ns,ps,k,p,rfl,hl,q,hn,hk⟩
   ·rw [q];refine wpAny_bind (wpAny_pure ?_);exact wpAny_bind ((uQb S ts (H'.grow p1) R1 x1).bindP (fun _ σ2 own2 h2 tk2 _ e2 p2 R2 _ gd2=>wpAny_pure (gd2.ok (b:=Flow.next) (tk':=tk2) rfl (List.prefix_refl _) R2 trivial)) gd1)
   ·rw [q];exact wpAny_bind (wpAny_pure (uX0 (H'.grow p1) R1 hl hn hk x1 gd1))
  ·rw [q1];refine ⟨fun Q E gd=>wpAny_bind (wpAny_pure ?_)⟩;rw [if_pos rfl];have ev0:valM C.P r F e=evE C.P r e F:=by
    unfold valM;rw [q3];rfl
   rw [ev0] at gd;rcases uRo C.P r F σ e q3 with hn|⟨elt,tx,tp,iter,ifs,scope,p,rfl,hm,hset⟩
   ·exact gd.bad1 hn
   ·refine wpAny_bind ?_;rw [PySem.arm_evalThenUse_ListComp];exact wpAny_bind (wpAny_mono (uOf S H' hm hset R hL (H.env.locl q2) (fun _=>rfl) gd) (fun _ _ z=>wpAny_pure (wpAny_pure z)) fun _ _ z=>z)
end stm
end
end Mine.Internal
end
section
set_option backward.match.sparseCases true
namespace Mine.Internal
open PySem PySem.W PyProof.Rows PySem.Calls PySem.SeqAt
section own
variable {prog:Program}{w:World}{A:Around}{E:Value→Shared→Prop}{s:Shared}
theorem uY4{φ:List Addr}{I:Addr}{oI:Obj}{it:It}{p:Nat}(hI:s.heap.get? I=some oI)(hi:ItAt φ it p oI)(t:Expr)(v:Value){Q:Unit→Shared→Prop}(h:Q () s):wpAny (model prog w) A (letOwnedTupleGo t (.ref I) v) Q E s:=by
 have key : ∃ n vs,oI.cls=.type n∧oI.data=.fields vs∧["enumerate","zip","dict_itemiterator","dict_reverseitemiterator","odict_iterator","itertools.zip_longest","itertools.pairwise"].contains n=false:=by
  induction it using It.casesOn with
  | lst i=>obtain ⟨a,_,c,d⟩:=hi;exact ⟨_,_,c,d,by decide⟩
  | tup i xs=>obtain ⟨a,_,c,d⟩:=hi;exact ⟨_,_,c,d,by decide⟩
  | str x=>obtain ⟨t,c,d⟩:=hi;exact ⟨_,_,c,d,by decide⟩
  | rng a b=>obtain ⟨c,d⟩:=hi;subst c;exact ⟨_,_,rfl,rfl,by decide⟩
  | keys d ks=>obtain ⟨a,_,c,d⟩:=hi;exact ⟨_,_,c,d,by decide⟩
  | vals d n=>obtain ⟨a,_,c,d⟩:=hi;exact ⟨_,_,c,d,by decide⟩
 obtain ⟨n,vs,k1,k2,k3⟩:=key;have go:∀ a,wpAny (model prog w) A (do
   let o ← load I
   match o.cls,o.data with
   | .type n,.fields vs=>
    if ["enumerate","zip","dict_itemiterator","dict_reverseitemiterator","odict_iterator","itertools.zip_longest","itertools.pairwise"].contains n&&vs[0]? == some (rawInt a) then
     rule "for.unpacks-the-owned-tuple"
     updateField I 0 .none
   | _,_=>pure ()) Q E s:=fun a=>by
  refine wpAny_bind (wpAny_load hI ?_);rw [k1,k2];show wpAny _ A (if (["enumerate","zip","dict_itemiterator","dict_reverseitemiterator","odict_iterator","itertools.zip_longest","itertools.pairwise"].contains n&&vs[0]? == some (rawInt a))=true then _ else _) Q E s;rw [if_neg (by rw [k3,Bool.false_and];decide)];exact wpAny_pure h
 induction t using PySem.Expr.casesOn with
 | Tuple es k p=>
  induction v using Value.casesOn with
  | ref a=>exact go a
  | _=>exact wpAny_pure h
 | List es p=>
  induction v using Value.casesOn with
  | ref a=>exact go a
  | _=>exact wpAny_pure h
 | _=>exact wpAny_pure h
end own
section loops
variable {C:Cx}{G:Gm}{B:Bl}{A:Around}{own:Own}{σ:St}{s:Shared}{F:FE}{r:Rec}{n:Nat}
theorem uAk.uncalm{α β:Type}{m:M α}{R:List Addr→α→β→Prop}{Q:β→Shared→Prop}{E:Value→Shared→Prop}(gd:uAk C G B own σ s (Mine.Internal.calm m) R Q E):(∃ a σ',m σ=Option.some (.ok a,σ'))∧uAk C G B own σ s m R Q (fun _ _=>False):=by
 unfold uAk Mine.Internal.calm at gd;generalize q:m σ=zz;induction zz using Option.casesOn with
 | none=>rw [q] at gd;exact gd.elim
 | some z=>
  obtain ⟨z,σ'⟩:=z;rw [q] at gd;induction z using Res.casesOn with
  | ok a=>
   refine ⟨⟨a,σ',rfl⟩,?_⟩;unfold uAk;rw [q];exact gd
  | exc x=>exact gd.elim
theorem uAg.okW{α β:Type}{m:M α}{t:Sem β}{R:List Addr→α→β→Prop}(h:uAg C G B A own σ s m t R){Q P:β→Shared→Prop}{E E':Value→Shared→Prop}{a:α}{σ':St}(ok:m σ=some (.ok a,σ')){B':Bl}(gd:uAk C G B' own σ s m R Q E)
  (dr:∀ own' h',uAs C G B own' σ' h'→uAs C G B' own' σ' h') (k:∀ b s,Q b s→P b s):wpAny (model C.prog C.w) A t P E' s:=by
 refine h.go _ _ ?_;unfold uAk at gd ⊢;rw [ok] at gd ⊢;exact fun own' h' tk' b p r x=>k _ _ (gd own' h' tk' b p (dr _ _ r) x)
theorem uTp(S:Snd C r n)(H:uBj C G B A F own G.fenv n)(hL:B.Lc=G.Lf)(R:uAs C G B own σ s.heap){t:Expr}{body orelse:List Stmt}{pos:Pos}:uAg C G B A own σ s (exS C.P r (.While t body orelse pos) F) (exec (.While t body orelse pos) G.fenv) (FR C.τ):=by
 generalize hm:F.hm=zz;induction zz using Bool.casesOn with
 | true=>exact uAg.fail (by show (if F.hm=true then (M.fail:M Fl) else _) σ=none;rw [if_pos hm];rfl)
 | false=>
  have e0:exS C.P r (.While t body orelse pos) F=calm (uCp r F t body orelse lim):=by
   show (if F.hm=true then M.fail else _)=_;rw [if_neg (by rw [hm];decide)]
  rw [e0];refine ⟨fun Q E gd=>wpAny_While ?_⟩;refine Classical.byContradiction fun hn=>?_;obtain ⟨⟨fl,σe,ok⟩,gd⟩:=gd.uncalm;refine hn ?_;clear hn;refine codeAny_whileLoop (LoopI C G B own (uCp r F t body orelse) fl σe Q) ?_ lim ⟨own,σ,R,List.prefix_refl _,ok,gd⟩;rintro m s' ⟨own',σ',R',pre,ok',gd'⟩;induction m using Nat.casesOn with
  | zero=>cases ok'
  | succ m=>
   have e1:uCp r F t body orelse (m+1)=M.bind (r.tst t F) fun b=>if b then M.bind (r.ex body F) fun fl=>(match fl with
     | .next=>uCp r F t body orelse m
     | .cont=>uCp r F t body orelse m
     | .brk=>M.pure .next
     | .ret v=>M.pure (.ret v)) else r.ex orelse F:=rfl
   rw [e1] at ok' gd';have H1:=H.grow pre;refine uAg.calmW (S.tst t H1 R') ok' (fun b σ1 own1 h1 tk1 c f1 f2 p1 R1 x1 gd1=>?_) gd';subst x1;induction c using Bool.casesOn with
   | false=>
    rw [if_neg (by decide)] at f2 gd1 ⊢;exact (S.ex (s:={ s' with heap:=h1,toks:=tk1 }) orelse (H1.grow p1) hL R1).okW f2 gd1 (fun _ _ r=>r) fun b s q=>q
   | true=>
    rw [if_pos rfl] at f2 gd1 ⊢;refine uAg.calmW (S.ex (s:={ s' with heap:=h1,toks:=tk1 }) body (H1.grow p1) hL R1) f2 (fun fl1 σ2 own2 h2 tk2 fl2 g1 g2 p2 R2 x2 gd2=>?_) gd1;generalize FR.view x2=zz;induction zz using FRv.casesOn with
    | next=>exact ⟨m,Nat.lt_succ_self _,own2,σ2,R2,pre.trans (p1.trans p2),g2,gd2⟩
    | cont=>exact ⟨m,Nat.lt_succ_self _,own2,σ2,R2,pre.trans (p1.trans p2),g2,gd2⟩
    | brk=>exact gd2.ok (b:=Flow.next) (tk':=tk2) rfl (List.prefix_refl _) R2 trivial
    | @ret v rv h=>exact gd2.ok (b:=Flow.ret rv) (tk':=tk2) rfl (List.prefix_refl _) R2 x2
theorem u1g(S:Snd C r n)(H:uBj C G B A F own G.fenv n)(hL:B.Lc=G.Lf)(R:uAs C G B own σ s.heap){t iter:Expr}{body orelse:List Stmt}{pos:Pos}
  (e0:exS C.P r (.For t iter body orelse pos) F=if F.hm||uB3 iter then M.fail else M.bind (r.ev iter F) fun xv=>M.bind (uB8 xv) fun it=>calm (uFi C.P r F t body orelse it lim 0)) :
  uAg C G B A own σ s (exS C.P r (.For t iter body orelse pos) F) (exec (.For t iter body orelse pos) G.fenv) (FR C.τ):=by
 rw [e0];by_cases hg:(F.hm||uB3 iter)=true
 ·rw [if_pos hg];exact uAg.fail rfl
 ·rw [if_neg hg];have hm:F.hm=false:=by generalize q:F.hm=zz;induction zz using Bool.casesOn with | false=>rfl | true=>rw [q] at hg;exact absurd rfl hg
  have hset:uB3 iter=false:=by generalize q:uB3 iter=zz;induction zz using Bool.casesOn with | false=>rfl | true=>rw [q,Bool.or_true] at hg;exact absurd rfl hg
  refine ⟨fun Q E gd=>wpAny_For ?_ (fsi hset)⟩;refine (S.ev iter H R).bindP (fun xv σ1 own1 h1 tk1 u e1 p1 R1 x1 gd1=>?_) gd;refine uSx H.X R1 x1 gd1 fun it I oI h2 tk2 R2 hB hi2 gd2=>?_;refine Classical.byContradiction fun hn=>?_;obtain ⟨⟨fl,σe,ok⟩,gd2⟩:=gd2.uncalm;refine hn ?_;clear hn;have hh:A.handled=none:=(H.hd hm).2;refine codeAny_forLoop_any (ForI C G B I it own1 (uFi C.P r F t body orelse it) fl σe Q) ?_ lim
   ⟨0,own1,σ1,oI,R2,hi2,List.prefix_refl _,ok,gd2⟩
  rintro m s' ⟨p,own',σ',oI,R',hi,pre,ok',gd'⟩;induction m using Nat.casesOn with
  | zero=>cases ok'
  | succ m=>
   have e1:uFi C.P r F t body orelse it (m+1) p=M.bind (it.at p) fun x=>match x with
     | Option.none=>r.ex orelse F
     | some v=>M.bind (asg C.P r F t v) fun _=>M.bind (r.ex body F) fun fl=>match fl with
      | .next=>uFi C.P r F t body orelse it m (p+1)
      | .cont=>uFi C.P r F t body orelse it m (p+1)
      | .brk=>M.pure .next
      | .ret v=>M.pure (.ret v):=rfl
   rw [e1] at ok' gd';obtain ⟨x,σ2,a1,a2⟩:=uDp ok';obtain ⟨e2,_⟩:=uOb a1;subst e2;have H1:=(H.grow p1).grow pre;refine uSl hh R' hB hi a1 fun rv h3 tk3 st=>?_;have gd3:=gd'.step a1 (List.prefix_refl _) (h':=h3) (tk:=tk3);induction x using Option.casesOn with
   | none=>
    obtain ⟨rfl,R3⟩:=st;exact (S.ex (s:={ s' with heap:=h3,toks:=tk3 }) orelse H1 hL R3).okW a2 gd3 (fun _ _ r=>r) fun b s q=>q
   | some v=>
    refine Classical.byContradiction fun hn=>?_;obtain ⟨u',oI',rfl,hv,R3,hi3⟩:=st;refine hn ?_;clear hn;dsimp only at a2 gd3 ⊢;have hI:h3.get? I=some oI':=by
     obtain ⟨g,X,hg,hX,r⟩:=R3;cases hX with
     | @cons _ b _ _ z hX=>
      obtain ⟨b1,b2⟩:=b;obtain ⟨z1,z2⟩:=z;dsimp only at z1 z2;subst z1 z2;exact (r.xAt _ (.head _)).1
    refine uY4 (s:={ s' with heap:=h3,toks:=tk3 }) hI hi3 t u' ?_;have H3:=H1.add I oI' hB;refine uAg.calmW (B:=B.add I oI') (s:={ s' with heap:=h3,toks:=tk3 }) (uUa S H3 R3 t hv) a2 (fun _ σ4 own4 h4 tk4 _ f1 f2 p4 R4 _ gd4=>?_) gd3;refine uAg.calmW (B:=B.add I oI') (s:={ s' with heap:=h4,toks:=tk4 }) (S.ex body (H3.grow p4) hL R4) f2 (fun fl1 σ5 own5 h5 tk5 fl2 g1 g2 p5 R5 x5 gd5=>?_) gd4;generalize FR.view x5=zz;induction zz using FRv.casesOn with
    | next=>exact ⟨m,Nat.lt_succ_self _,p+1,own5,σ5,oI',R5,hi3.mono (p4.trans p5),pre.trans (p4.trans p5),g2,gd5⟩
    | cont=>exact ⟨m,Nat.lt_succ_self _,p+1,own5,σ5,oI',R5,hi3.mono (p4.trans p5),pre.trans (p4.trans p5),g2,gd5⟩
    | brk=>exact gd5.ok (b:=Flow.next) (tk':=tk5) rfl (List.prefix_refl _) R5.drop trivial
    | @ret v rv h=>exact gd5.ok (b:=Flow.ret rv) (tk':=tk5) rfl (List.prefix_refl _) R5.drop x5
end loops
end Mine.Internal
end
section
namespace Mine.Internal
open PySem PySem.W PyProof.Rows PySem.Calls PySem.SeqAt
section
noncomputable abbrev enumOb(it:Addr)(i:Int)(old:Value):Obj:={ cls:=.type "enumerate",dict:=none,data:=.fields #[.none,.bool false,.ref it,rawInt i,.none,old],slots:=#[] }
section rel
variable {prog:Program}{w:World}{τ:uBt}{h₀ h h':Heap}{Lc:Addr}{X own:Own}{σ:St}
theorem Rel.xset2{a b:Addr}{oa ob oa' ob':Obj}(r:Rel prog w τ h₀ Lc ((a,oa)::(b,ob)::X) own σ h)(hX:∀ p∈X,p.1≠a∧p.1≠b)(k:∀ c o,c≠a→c≠b→h.get? c=some o→h'.get? c=some o)(ha:h'.get? a=some oa')(hb:h'.get? b=some ob') :
  Rel prog w τ h₀ Lc ((a,oa')::(b,ob')::X) own σ h':=by
 have xa:=r.xAt _ (.head _);have xb:=r.xAt _ (.tail _ (.head _));refine ⟨?_,fun c o q=>k c o (fun z=>by rw [z,xa.2.2] at q;cases q) (fun z=>by rw [z,xb.2.2] at q;cases q) (r.keep c o q),r.above,fun p hp=>?_,fun p hp=>?_,r.nd,fun p hp q hq=>?_,r.objs,r.big,r.low⟩
 ·obtain ⟨mc,n,c⟩:=r.ns;exact ⟨mc,n.at' fun o q=>k _ _ (Ne.symm xa.2.1) (Ne.symm xb.2.1) q,c⟩
 ·exact ⟨k _ _ (fun z=>r.off p hp _ (.head _) z) (fun z=>r.off p hp _ (.tail _ (.head _)) z) (r.ownAt p hp).1,(r.ownAt p hp).2⟩
 ·rcases List.mem_cons.mp hp with rfl|hp
  ·exact ⟨ha,xa.2⟩
  ·rcases List.mem_cons.mp hp with rfl|hp
   ·exact ⟨hb,xb.2⟩
   ·have x:=r.xAt p (.tail _ (.tail _ hp));exact ⟨k _ _ (hX p hp).1 (hX p hp).2 x.1,x.2⟩
 ·rcases List.mem_cons.mp hq with rfl|hq
  ·exact r.off p hp (a,oa) (.head _)
  ·rcases List.mem_cons.mp hq with rfl|hq
   ·exact r.off p hp (b,ob) (.tail _ (.head _))
   ·exact r.off p hp q (.tail _ (.tail _ hq))
end rel
section enum
variable {C:Cx}{G:Gm}{B:Bl}{A:Around}{own:Own}{σ:St}{s:Shared}{F:FE}{r:Rec}{n:Nat}
noncomputable abbrev Bl.enum(B:Bl)(e it:Addr)(i:Int)(old:Value)(oI:Obj):Bl:=(B.add it oI).add e (enumOb it i old)
theorem uOl{e it:Addr}{oe oi:Obj}{h:Heap}(R:uAs C G ((B.add it oi).add e oe) own σ h):h.get? e=some oe∧h.get? it=some oi∧
  ∀ {h':Heap} {oe' oi':Obj},(∀ p∈B.XP,p.1≠e∧p.1≠it)→(∀ c o,c≠e→c≠it→h.get? c=some o→h'.get? c=some o)→h'.get? e=some oe'→h'.get? it=some oi'→uAs C G ((B.add it oi').add e oe') own σ h':=by
 obtain ⟨g,X,hg,hX,r⟩:=R;cases hX with
 | @cons _ b _ _ z hX=>
  obtain ⟨b1,b2⟩:=b;obtain ⟨z1,z2⟩:=z;dsimp only at z1 z2;subst z1 z2;cases hX with
  | @cons _ b _ X z hX=>
   obtain ⟨b1,b2⟩:=b;obtain ⟨z1,z2⟩:=z;dsimp only at z1 z2;subst z1 z2;refine ⟨(r.xAt _ (.head _)).1,(r.xAt _ (.tail _ (.head _))).1,fun {h' oe' oi'} hB k h1 h2=>⟨g,(_,oe')::(_,oi')::X,hg,.cons ⟨rfl,rfl⟩ (.cons ⟨rfl,rfl⟩ hX),?_⟩⟩;refine Rel.xset2 (h:=h) r (fun p hp=>⟨?_,?_⟩) k h1 h2
   ·exact uE0 hX (fun q hq=>(hB q hq).1) p hp
   ·exact uE0 hX (fun q hq=>(hB q hq).2) p hp
noncomputable def oneRef{β:Type}(K:Nat→M β):List AV→M β
 | [.ref l]=>K l
 | _=>M.fail
theorem uWg{β:Type}{τ:uBt}{φ:List Addr}{xs:List AV}{us:List Value}(x:VRs τ φ xs us)(K:Nat→M β)(σ:St):oneRef K xs σ=none∨∃ i l,xs=[.ref i]∧us=[.ref l]∧φ[i]?=some l:=by
 induction x using FA.casesOn with
 | nil=>exact .inl rfl
 | cons h r=>
  induction r using FA.casesOn with
  | nil=>
   induction h using VR.casesOn with
   | @ref i l h=>exact .inr ⟨i,l,rfl,rfl,h⟩
   | _=>exact .inl rfl
  | cons h2 r=>cases h<;>exact .inl rfl
inductive EnumI(C:Cx)(G:Gm)(B:Bl)(I l:Addr)(own1:Own)(go:Nat→Nat→M Fl)(fl:Fl)(σe:St)(Q:Flow→Shared→Prop)(m:Nat)(s':Shared):Prop
 | mk (p:Nat) (own':Own) (σ':St) (oI:Obj) (old:Value):uAs C G (B.enum (I+1) I (p:Nat) old oI) own' σ' s'.heap→oI.cls=.type "list_iterator"→oI.data=.fields #[.ref l,.int (p:Nat) 0]→adr own1<+:adr own'→go m p σ'=some (.ok fl,σe)→uAk C G B own' σ' s' (go m p) (FR C.τ) Q (fun _ _=>False)→EnumI C G B I l own1 go fl σe Q m s'
theorem uYx (S:Snd C r n) (he:nsIn C.K mainGlobals (Str.ofString "enumerate")=some none) (H:uBj C G B A F own G.fenv n) (hL:B.Lc=G.Lf) (R:uAs C G B own σ s.heap) {x y en:Str} {px py pt pn pc pos:Pos} {k:Nat} {a:Expr} {body orelse:List Stmt} :
  uAg C G B A own σ s (exS C.P r (.For (.Tuple [.Name x px,.Name y py] k pt) (.Call (.Name en pn) [a] [] pc) body orelse pos) F) (exec (.For (.Tuple [.Name x px,.Name y py] k pt) (.Call (.Name en pn) [a] [] pc) body orelse pos) G.fenv) (FR C.τ):=by
 by_cases hg:F.hm=false∧en=Str.ofString "enumerate"∧F.kind en=some .globalImplicit∧uAz [a]=true
 ·obtain ⟨hm,rfl,hk,hst⟩:=hg;have e0:exS C.P r (.For (.Tuple [.Name x px,.Name y py] k pt) (.Call (.Name (Str.ofString "enumerate") pn) [a] [] pc) body orelse pos) F=M.bind (r.ev a F) fun v=>match v with
    | .ref l=>calm (uCq r F x y body orelse l lim 0)
    | _=>M.fail:=by
   show (if F.hm=true then M.fail else if _ then _ else M.fail)=_;rw [if_neg (by rw [hm];decide),if_pos ⟨rfl,hk,hst⟩]
   try rfl
  rw [e0];have hh:A.handled=none:=(H.hd hm).2;have hs' : ∀ b p,a≠.Starred b p:=fun b p q=>by rw [q] at hst;cases hst
  refine ⟨fun Q E gd=>wpAny_For ?_ fun x=>rfl⟩;have e1:eval (.Call (.Name (Str.ofString "enumerate") pn) [a] [] pc) G.fenv=(do callWith pc (← eval (.Name (Str.ofString "enumerate") pn) G.fenv) [] (backTo pc (starEach [a] G.fenv)) []):=rfl;rw [e1];refine wpAny_bind ?_;obtain ⟨g,X,hgt,hX,r₀⟩:=R;have env:=H.env.at (X:=X) g;have hl:G.fenv.kindOf (Str.ofString "enumerate")=some .globalImplicit:=env.same hk (by decide);have GK:=hgt.ok H.X H.f;have hgl:s.heap.Ns G.fenv.globals C.mg:=env.glob▸GK.T.g.keeps r₀.keep;refine Name_function_global env.kind hl (loadGlobal_builtin hgl (mg_none_of GK.K GK.T.g he) (env.bi▸GK.T.b.keeps r₀.keep) ((GK.T.builtins _ (by decide)).trans PyProof.Rows.boot_enumerate) ?_) (env.name hk).1;have R:uAs C G B own σ s.heap:=⟨g,X,hgt,hX,r₀⟩
  have e2:(M.bind (r.ev a F) fun v=>(match v with
    | .ref l=>calm (uCq r F x y body orelse l lim 0)
    | _=>M.fail:M Fl))=M.bind (evL r F [a]) (oneRef fun l=>calm (uCq r F x y body orelse l lim 0)):=by
   rw [uI7 hs',uB0]
   congr 1
   funext v
   cases v<;>rfl
  rw [e2] at gd;refine callWith_of (P:=fun _=>True) (by rw [uA2 hs'];rfl) (fun h p=>⟨.machine,.inr (.inl rfl),Looks.of_pure rfl⟩) ?_;refine uKv S [a] H R gd fun xs σ1 own1 h1 tk1 us p1 R1 x1 gd1=>⟨trivial,?_⟩
  show wpAny _ _ (PySem.call (.type "enumerate") us) _ _ _;rcases uWg x1 (fun l=>calm (uCq r F x y body orelse l lim 0)) σ1 with hx|hx
  ·exact gd1.bad hx
  refine Classical.byContradiction fun hn=>?_;obtain ⟨i,l,rfl,rfl,hl⟩:=hx;refine hn ?_;clear hn;refine Classical.byContradiction fun hn=>?_;obtain ⟨⟨fl,σe,ok⟩,gd2⟩:=uAk.uncalm (m:=uCq r F x y body orelse i lim 0) gd1;refine hn ?_;clear hn;have hlist:∀ {own':Own} {σ':St} {h:Heap},uAs C G B own' σ' h→adr own1<+:adr own'→∀ xs,σ'.H[i]?=some (.list xs)→∃ vs:List Value,h.IsList l vs.toArray∧VRs C.τ (adr own') xs vs∧l<h.objs.size:=fun R p xs e=>by
   obtain ⟨g,X,hg,hX,r⟩:=R;obtain ⟨vs,nn,l1,l2,l3,l4⟩:=uAv r e (uA6 p hl);exact ⟨vs,⟨_,l1,rfl,_,rfl⟩,l2,Heap.lt_size l1⟩
  have hxs : ∃ xs,σ1.H[i]?=some (.list xs):=by
   have e3:uCq r F x y body orelse i lim 0=M.bind ((It.lst i).at 0) _:=rfl;rw [e3] at ok;obtain ⟨v,σ2,a1,_⟩:=uDp ok;obtain ⟨_,xs,q,_⟩:=uE1 a1;exact ⟨xs,q⟩
  obtain ⟨xs,hxs⟩:=hxs;refine Classical.byContradiction fun hn=>?_;obtain ⟨vs,hv1,hv2,hv3⟩:=hlist R1 (List.prefix_refl _) xs hxs;refine hn ?_;clear hn;refine call_enumerate_list (s:={ s with heap:=h1,toks:=tk1 }) hv1 fun h2 hE hI hsz hkp=>?_;refine wpAny_pyIter_enum (s:={ s with heap:=h2,toks:=tk1 }) hE ?_;refine Classical.byContradiction fun hn=>?_;obtain ⟨oI,hoI,hcI,hdI⟩:=hI;refine hn ?_;clear hn;have R2:uAs C G (B.enum (h1.objs.size+1) h1.objs.size 0 .none oI) own1 σ1 h2:=by
   refine Classical.byContradiction fun hn=>?_;obtain ⟨g,X,hg,hX,r1⟩:=R1;refine hn ?_;clear hn;obtain ⟨r2,o2⟩:=r1.xnew hkp hoI (uA8 (Nat.le_refl _));refine ⟨g,(h1.objs.size+1,enumOb h1.objs.size 0 .none)::(h1.objs.size,oI)::X,hg,.cons ⟨rfl,rfl⟩ (.cons ⟨rfl,rfl⟩ hX),?_⟩;have hn:∀ p∈own1++((h1.objs.size,oI)::X),p.1≠h1.objs.size+1:=fun p hp=>by
    rcases List.mem_append.mp hp with hp|hp
    ·exact Nat.ne_of_lt (Nat.lt_succ_of_lt (Heap.lt_size (r1.ownAt p hp).1))
    ·rcases List.mem_cons.mp hp with rfl|hp
     ·exact Nat.ne_of_lt (Nat.lt_succ_self _)
     ·exact Nat.ne_of_lt (Nat.lt_succ_of_lt (Heap.lt_size (r1.xAt p hp).1))
   refine ⟨r2.ns,r2.keep,r2.above,r2.ownAt,fun p hp=>?_,r2.nd,fun p hp q hq=>?_,r2.objs,r2.big,r2.low⟩
   ·rcases List.mem_cons.mp hp with rfl|hp
    ·exact ⟨hE,Ne.symm (Nat.ne_of_lt (Nat.lt_succ_of_lt r1.Lc_lt)),uA8 (Nat.le_trans r1.base_lt (Nat.le_succ _))⟩
    ·exact r2.xAt p hp
   ·rcases List.mem_cons.mp hq with rfl|hq
    ·exact hn p (List.mem_append_left _ hp)
    ·exact r2.off p hp q hq
  have hB:∀ p∈B.XP,p.1≠h1.objs.size+1∧p.1≠h1.objs.size:=by
   obtain ⟨g,X,hg,hX,r1⟩:=R1;exact fun p hp=>⟨fit_off' hX (fun q hq=>Nat.ne_of_lt (Nat.lt_succ_of_lt (Heap.lt_size (r1.xAt q hq).1))) p hp,fit_off' hX (fun q hq=>Nat.ne_of_lt (Heap.lt_size (r1.xAt q hq).1)) p hp⟩
  refine codeAny_forLoop_any (EnumI C G B h1.objs.size l own1 (uCq r F x y body orelse i) fl σe Q) ?_ lim ⟨0,own1,σ1,oI,.none,R2,hcI,hdI,List.prefix_refl _,ok,gd2.at h2 tk1⟩;rintro m s' ⟨p,own',σ',oI',old,R',hc',hd',pre,ok',gd'⟩;induction m using Nat.casesOn with
  | zero=>cases ok'
  | succ m=>
   have e3:uCq r F x y body orelse i (m+1) p=M.bind ((It.lst i).at p) fun v=>match v with
     | Option.none=>r.ex orelse F
     | some v=>M.bind (storeName F x (.int p)) fun _=>M.bind (storeName F y v) fun _=>M.bind (r.ex body F) fun fl=>match fl with
      | .next=>uCq r F x y body orelse i m (p+1)
      | .cont=>uCq r F x y body orelse i m (p+1)
      | .brk=>M.pure .next
      | .ret v=>M.pure (.ret v):=rfl
   rw [e3] at ok' gd';obtain ⟨v,σ2,a1,a2⟩:=uDp ok';refine Classical.byContradiction fun hn=>?_;obtain ⟨e4,xs',hxs',e5⟩:=uE1 a1;refine hn ?_;clear hn;subst e4;cases e5;refine uPa fun Q₁ hQ₁=>?_;have H1:=(H.grow p1).grow pre;obtain ⟨vs',l1,l2,l3⟩:=hlist R'.drop.drop pre xs' hxs';refine Classical.byContradiction fun hn=>?_;obtain ⟨k1,k2,k3⟩:=uOl R';refine hn ?_;clear hn;have hit:s'.heap.IsListIter h1.objs.size l p:=⟨oI',k2,hc',hd'⟩
   generalize hq:xs'[p]?=zz;induction zz using Option.casesOn with
   | none=>
    rw [hq] at a1 a2;have hn:vs'.toArray[p]?=none:=by
     rw [List.getElem?_toArray];exact uEe l2 hq
    refine wpAny_pyNext_enum_end hh k1 hit l1 hn fun h3 hx3=>hQ₁ _ _ ?_;have gd3:=gd'.step a1 (List.prefix_refl _) (h':=h3) (tk:=s'.toks);have R3:uAs C G B own' σ2 h3:=by
     obtain ⟨g,X,hg,hX,r⟩:=R';cases hX with
     | cons z hX=>cases hX with
      | @cons _ b _ X z hX=>
       obtain ⟨b1,b2⟩:=b;obtain ⟨z1,z2⟩:=z;dsimp only at z1 z2;subst z1;refine ⟨g,X,hg,hX,?_⟩;have xb:=r.xAt _ (.tail _ (.head _));refine ⟨?_,fun c o q=>hx3 c o (fun z=>by rw [z,xb.2.2] at q;cases q) (r.keep c o q),r.above,fun p hp=>⟨hx3 _ _ (fun z=>r.off p hp _ (.tail _ (.head _)) z) (r.ownAt p hp).1,(r.ownAt p hp).2⟩,fun p hp=>?_,r.nd,fun p hp q hq=>r.off p hp q (.tail _ (.tail _ hq)),r.objs,r.big,r.low⟩
       ·obtain ⟨mc,n1,n2⟩:=r.ns;exact ⟨mc,n1.at' fun o q=>hx3 _ _ (Ne.symm xb.2.1) q,n2⟩
       ·have x:=r.xAt p (.tail _ (.tail _ hp));exact ⟨hx3 _ _ (uE0 hX (fun q hq=>(hB q hq).2) p hp) x.1,x.2⟩
    exact (S.ex (s:={ s' with heap:=h3 }) orelse H1 hL R3).okW a2 gd3 (fun _ _ r=>r) fun b s q=>q
   | some v=>
    rw [hq] at a1 a2;refine Classical.byContradiction fun hn=>?_;obtain ⟨u,hu,hvu⟩:=uDo l2 hq;refine hn ?_;clear hn;have hn:vs'.toArray[p]?=some u:=by rw [List.getElem?_toArray];exact hu
    refine wpAny_pyNext_enum_item k1 hit l1 hn (Nat.succ_ne_self _) fun h3 o1 o2 o3 o4 o5=>hQ₁ _ _ ?_;clear hQ₁;dsimp only;refine uPa fun Q₁ hQ₁=>?_;refine wpAny_letOwnedTupleGo_enum (s:={ s' with heap:=h3,toks:=s'.toks+1 }) o1 fun h4 m1 m2=>?_;obtain ⟨oI4,n1,n2,n3⟩:=o2;have neI:h1.objs.size≠h1.objs.size+1:=Nat.ne_of_lt (Nat.lt_succ_self _);have R4:uAs C G (B.enum (h1.objs.size+1) h1.objs.size ((p+1:Nat):Int) u oI4) own' σ2 h4:=by
     refine k3 hB (fun c o q1 q2 q3=>(m2.2 c q1).trans (o5 c o q1 q2 q3)) ?_ ((m2.2 _ neI).trans n1);rw [show ((p+1:Nat):Int)=(p:Int)+1 from rfl];exact m1
    have ht:IsTup h4 s'.heap.objs.size #[.int p s'.toks,u]:=⟨_,(m2.2 _ (fun z=>by
      have h1e:=Heap.lt_size k1;rw [← z] at h1e;exact absurd h1e (Nat.lt_irrefl _))).trans o3,rfl,_,rfl⟩
    refine hQ₁ _ _ ?_;clear hQ₁;refine uPa fun Q₁ hQ₁=>?_;refine assign_Tuple_tuple (s:={ s' with heap:=h4,toks:=s'.toks+1 }) hh ht rfl rfl fun h5 hx5=>?_;have R5:uAs C G (B.enum (h1.objs.size+1) h1.objs.size ((p+1:Nat):Int) u oI4) own' σ2 h5:=R4.keeps fun b o e=>hx5 b o (Nat.ne_of_lt (Heap.lt_size e)) e;have gd3:=gd'.step a1 (List.prefix_refl _) (h':=h5) (tk:=s'.toks+1);dsimp only at a2 gd3;have hBi:∀ q∈B.XP,q.1≠h1.objs.size:=fun q hq=>(hB q hq).2;have hBe:∀ q∈(B.add h1.objs.size oI4).XP,q.1≠h1.objs.size+1:=fun q hq=>by
     rcases List.mem_cons.mp hq with rfl|hq
     ·exact neI
     ·exact (hB q hq).1
    have H5:uBj C G (B.enum (h1.objs.size+1) h1.objs.size ((p+1:Nat):Int) u oI4) A F own' G.fenv n:=(H1.add h1.objs.size oI4 hBi).add (h1.objs.size+1) _ hBe;have s1:uAg C G (B.enum (h1.objs.size+1) h1.objs.size ((p+1:Nat):Int) u oI4) A own' σ2 { s' with heap:=h5,toks:=s'.toks+1 } (storeName F x (.int p)) (assign (.Name x px) G.fenv (.int p s'.toks)) UR:=.lift R5 fun g X hg hX R=>uBs (H5.env.at g) R (.int _ _);refine wpAny_bind (wpAny_holding (uAg.calmW s1 a2 (fun _ σ6 own6 h6 tk6 _ f1 f2 p6 R6 _ gd6=>?_) gd3));have s2:uAg C G (B.enum (h1.objs.size+1) h1.objs.size ((p+1:Nat):Int) u oI4) A own6 σ6 { s' with heap:=h6,toks:=tk6 } (storeName F y v) (assign (.Name y py) G.fenv u) UR:=.lift R6 fun g X hg hX R=>uBs ((H5.grow p6).env.at g) R (hvu.mono p6);refine wpAny_bind (wpAny_holding (uAg.calmW s2 f2 (fun _ σ7 own7 h7 tk7 _ g1 g2 p7 R7 _ gd7=>wpAny_pure (hQ₁ _ _ ?_)) gd6));refine uAg.calmW (s:={ s' with heap:=h7,toks:=tk7 }) (S.ex body ((H5.grow p6).grow p7) hL R7) g2 (fun fl1 σ8 own8 h8 tk8 fl2 j1 j2 p8 R8 x8 gd8=>?_) gd7;generalize FR.view x8=zz;induction zz using FRv.casesOn with
    | next=>exact ⟨m,Nat.lt_succ_self _,p+1,own8,σ8,oI4,u,R8,n2,n3,pre.trans (p6.trans (p7.trans p8)),j2,gd8⟩
    | cont=>exact ⟨m,Nat.lt_succ_self _,p+1,own8,σ8,oI4,u,R8,n2,n3,pre.trans (p6.trans (p7.trans p8)),j2,gd8⟩
    | brk=>exact gd8.ok (b:=Flow.next) (tk':=tk8) rfl (List.prefix_refl _) R8.drop.drop trivial
    | @ret v rv h=>exact gd8.ok (b:=Flow.ret rv) (tk':=tk8) rfl (List.prefix_refl _) R8.drop.drop x8
 ·refine uAg.fail ?_;show (if F.hm=true then M.fail else if _ then _ else M.fail:M Fl) σ=none;by_cases hm:F.hm=true
  ·rw [if_pos hm];rfl
  ·rw [if_neg hm,if_neg fun q=>hg ⟨by simpa using hm,q⟩];rfl
end enum
end
section
noncomputable abbrev bmVE:List Value:=[.type "ValueError",.type "Exception",.type "BaseException",.type "object"]
inductive ExcK(K:Frag)(cyc:Addr):Prop
 | mk nm qn N bs hdct sn sub ab col dd k0 k1 k2 k3 k5 (mN:Str→Option Value):mN (Str.ofString "__init__")=none→(∀ h:Heap,K.In h→h.get? cyc=some (excClassObj nm qn cyc N bs bmVE hdct sn sub ab col dd k0 k1 k2 k3 k5 "ValueError.__new__")∧h.Ns N mN)→ExcK K cyc
theorem uS1 {K:Frag} {cyc:Addr} {nm qn N bs hdct sn sub ab col dd k0 k1 k2 k3 k5} {oN:Obj} {es:Array DictEntry} {ep:Nat} (h1:K.lookup cyc=some (excClassObj nm qn cyc N bs bmVE hdct sn sub ab col dd k0 k1 k2 k3 k5 "ValueError.__new__")) (h2:K.lookup N=some oN) (h3:oN.data=.dict es ep) (h4:nsFind es (Str.ofString "__init__")=none) (h5:(es.toList.all fun e=>match e.key with | .str _ _=>true | _=>false)=true):ExcK K cyc:=by
 refine ⟨nm,qn,N,bs,hdct,sn,sub,ab,col,dd,k0,k1,k2,k3,k5,nsFind es,h4,fun h hK=>⟨hK _ _ h1,oN,es,ep,hK _ _ h2,h3,fun e he=>?_,fun _=>rfl⟩⟩;have:=List.all_eq_true.mp h5 e (by simpa using he);generalize q:e.key=y at this;induction y using PySem.Value.casesOn with
 | str x t=>exact ⟨x,t,rfl⟩
 | _=>exact nf this
structure PKexc(C:Cx):Prop where
 cls:ExcK C.K C.cyc
 cyc:C.P.glob.lookup (Str.ofString "CycleError")=some (.st (.ref C.cyc))
 stop1:C.P.glob.lookup (Str.ofString "StopIteration")=none
 stop2:C.P.bi.lookup (Str.ofString "StopIteration")=some (.st (.type "StopIteration"))
 exc:∀ D,C.P.cls.lookup D=some .exc→D=C.cyc
theorem uPy:isSubtype (.type "StopIteration") (.type "BaseException")=pure true:=by rw [isSubtype_type];kernel_rfl
theorem uQk:isSubtype (.type ((Manifest.find? "StopIteration").elim "type" fun x=>x.metatype)) (.type "tuple")=pure false:=by
 have:((Manifest.find? "StopIteration").elim "type" fun x=>x.metatype) = "type":=by kernel_rfl
 rw [this,isSubtype_type];kernel_rfl
theorem uM8:isSubtype (.type "StopIteration") (.type "StopIteration")=pure true:=by rw [isSubtype_type];kernel_rfl
section land
variable {C:Cx}{G:Gm}{B:Bl}{A:Around}{own:Own}{σ:St}{s:Shared}{F:FE}{r:Rec}{n:Nat}
theorem uK3(f₀:uDg G){g h:Heap}{X:Own}(hg:GT C G g)(hX:Fit B.XP X)(hL:B.Lc=G.Lf){m:Str→Option Value}(hA:∀ b o,g.get? b=some o→b∉fs G→h.get? b=some o)(hF:∀ b o,g.get? b=some o→b∈fs G→∃ sl,h.get? b=some { o with slots:=sl })(hN:h.Ns G.Lf m)
  (hl:∀ x v,σ.L.lookup x=some v→∃ rv,m x=some rv∧VR C.τ (adr own) v rv) (hD:∀ q∈own++X,h.get? q.1=some q.2∧q.1≠G.Lf∧g.get? q.1=none) (nd:(adr own).Nodup) (off:∀ p∈own,∀ q∈X,p.1≠q.1) (objs:FA (fun o (p:Addr×Obj)=>uG1 C.prog C.w C.τ (adr own) o p.2) σ.H own) (low:∀ p∈own,sysModules<p.1) :
  uAs C G B own σ h:=by
 have K:=hg.below;obtain ⟨T₂,S⟩:=kts_turn_at (h:=h) (fs:=fs G) (g:=g)
  (fun b hb=>by
   obtain ⟨_,o,ho,_⟩:=K.frames.mem hb;exact ⟨o,ho⟩) hA hF
 refine ⟨_,X,⟨hg.turn.trans T₂,⟨K.stack,fun b o e=>T₂.other b o (K.stays b o e) (fun hm=>by
  rw [(K.frames.mem hm).1] at e;cases e),K.frames.of_keeps fun b o e _=>?_⟩,hg.dicts.turn T₂⟩,hX,⟨⟨m,?_,hl⟩,S,?_,fun p hp=>?_,fun p hp=>?_,nd,off,objs,by show sysModules<(ktsHeap h (fs G) g).objs.size;rw [T₂.size,hg.turn.size];exact f₀.big,low⟩⟩
 ·obtain ⟨sl,hs⟩:=T₂.up e;exact ⟨_,hs,rfl⟩
 ·show h.Ns B.Lc m;rw [hL];exact hN
 ·show (ktsHeap h (fs G) g).objs.size≤B.Lc;rw [T₂.size,hg.turn.size,hL];exact f₀.lf
 ·have:=hD p (List.mem_append_left _ hp);refine ⟨this.1,?_,T₂.none_ _ this.2.2⟩;show p.1≠B.Lc;rw [hL];exact this.2.1
 ·have:=hD p (List.mem_append_right _ hp);refine ⟨this.1,?_,T₂.none_ _ this.2.2⟩;show p.1≠B.Lc;rw [hL];exact this.2.1
noncomputable def Landing(C:Cx)(G:Gm)(B:Bl)(own:Own)(σ:St)(Bb:Heap)(e:Addr)(cls a0:Value)(h:Heap):Prop:=
 Heap.HeldW Bb (G.fenv::G.outer) e cls a0 G.Lf h∧∀ h',Bb.StaysIn h'→h.UpToSlots h'→uAs C G B own σ h'
theorem uGb (X₀:CxOk C) (f₀:uDg G) (R:uAs C G B own σ s.heap) {c:Str} {np:Pos} (ek:G.fenv.scope.kind=.function) (hk:G.fenv.kindOf c=some .globalImplicit) (eg:G.fenv.globals=mainGlobals) (eb:G.fenv.builtins=builtinsNs) (hd:(c==Str.ofString "__debug__")=false) {a:Addr} (hv:C.P.glob.lookup c=some (.st (.ref a)))
  {Q:Value→Shared→Prop} {E:Value→Shared→Prop} (h:Q (.ref a) s):wpAny (model C.prog C.w) A (eval (.Name c np) G.fenv) Q E s:=by
 refine Classical.byContradiction fun hn=>?_;obtain ⟨g,X,hg,hX,r⟩:=R;refine hn ?_;clear hn;have GK:=hg.ok X₀ f₀;have hgl:s.heap.Ns G.fenv.globals C.mg:=eg▸GK.T.g.keeps r.keep;obtain ⟨rv,h1,h2⟩:=X₀.PK.glob c _ hv;cases h2;exact Name_function_global ek hk (loadGlobal_global hgl (mg_of GK.K GK.T.g h1) h) hd
theorem uJ9 (X₀:CxOk C) (f₀:uDg G) (R:uAs C G B own σ s.heap) {c:Str} {np:Pos} (ek:G.fenv.scope.kind=.function) (hk:G.fenv.kindOf c=some .globalImplicit) (eg:G.fenv.globals=mainGlobals) (eb:G.fenv.builtins=builtinsNs) (hd:(c==Str.ofString "__debug__")=false) {t:String} (h0:C.P.glob.lookup c=none) (hv:C.P.bi.lookup c=some (.st (.type t)))
  {Q:Value→Shared→Prop} {E:Value→Shared→Prop} (h:Q (.type t) s):wpAny (model C.prog C.w) A (eval (.Name c np) G.fenv) Q E s:=by
 obtain ⟨g,X,hg,hX,r⟩:=R;have GK:=hg.ok X₀ f₀;have hgl:s.heap.Ns G.fenv.globals C.mg:=eg▸GK.T.g.keeps r.keep;obtain ⟨h1,h2,rv,h3,h4⟩:=X₀.PK.bi c _ h0 hv;cases h4;exact Name_function_global ek hk (loadGlobal_builtin hgl (mg_none_of GK.K GK.T.g h1) (eb▸GK.T.b.keeps r.keep) ((GK.T.builtins c h2).trans h3) h) hd
theorem uKq(S:Snd C r n)(PX:PKexc C)(H:uBj C G B A F own G.fenv n)(hL:B.Lc=G.Lf){c:Str}{np pos:Pos}{b₀:Stmt}{suite:List Stmt}(hk:F.kind c=some .globalImplicit){Bb:Heap}{e:Addr}{cls a0:Value}(ld:Landing C G B own σ Bb e cls a0 s.heap)
  (hcase:(c=Str.ofString "CycleError"∧cls=.ref C.cyc)∨(c=Str.ofString "StopIteration"∧cls=.type "StopIteration")) {Q:Flow→Shared→Prop} {E:Value→Shared→Prop}
  (gd:uAk C G B own σ s (calm (r.ex (b₀::suite) { F with hm:=true })) (FR C.τ) Q E) :
  wpAny (model C.prog C.w) A (setFlight (.ref e) none) (fun _ s₃=>wpAny (model C.prog C.w) A (handleBy (.ref e) G.fenv [.ExceptHandler (some (.Name c np)) none (b₀::suite) pos]) Q E s₃) E s:=by
 obtain ⟨held,land⟩:=ld;refine wpAny_landsW held fun h₅ fl₅ sm₅=>?_;have R5:=land h₅ fl₅.1 sm₅;have nm:=H.env.name hk;have hke:G.fenv.kindOf c=some .globalImplicit:=H.env.same hk (by decide);refine wpAny_handleBy_cons (codeAny_handlers_test ?_) (by intro q;cases q);refine Classical.byContradiction fun hn=>?_;obtain ⟨ob,hob,hobc⟩:=fl₅.there;refine hn ?_;clear hn;refine Classical.byContradiction fun hn=>?_;obtain ⟨⟨flw,σe,ok⟩,gd⟩:=gd.uncalm;refine hn ?_;clear hn;have suiteOk:codeAny (model C.prog C.w) (A.mark (some (.ref e))) (.handlers (.ref e) [.ExceptHandler none none (b₀::suite) pos] G.fenv) (fun r s₂=>match r with
     | .ok f=>Q f s₂
     | .error x=>cameBackBy (model C.prog C.w) A G.fenv E x s₂) { s with heap:=h₅ }:=by
  refine codeAny_handlers_suite (lands_againW fl₅ fun h₆ fl₆ sm₆=>?_);have R6:=land h₆ fl₆.1 (sm₅.trans sm₆);have H6:uBj C G B (A.mark (some (.ref e))) { F with hm:=true } own G.fenv n:=⟨H.X,H.f,⟨H.env.kind,H.env.loc,H.env.glob,H.env.bi,H.env.frame,H.env.kinds,H.env.cells,H.env.names⟩,H.dep,H.uni,fun q=>(by cases q),H.blk⟩
  exact (S.ex (s:={ s with heap:=h₆ }) (b₀::suite) H6 hL R6).okW ok (gd.at h₆ s.toks) (fun _ _ r=>r) fun b s q=>q
 rcases hcase with ⟨rfl,rfl⟩|⟨rfl,rfl⟩
 ·refine uGb (s:={ s with heap:=h₅ }) H.X H.f R5 H.env.kind hke H.env.glob H.env.bi nm.1 PX.cyc ?_;have hK:C.K.In h₅:=by
   obtain ⟨g,X,hg,hX,r⟩:=R5;exact (hg.ok H.X H.f).K.keeps r.keep
  obtain ⟨nm,qn,N,bs,hdct,sn,sub,ab,col,dd,k0,k1,k2,k3,k5,mN,hni,hall⟩:=PX.cls;exact wpAny_excMatches_sub_self (hall h₅ hK).1 hob hobc (by decide) suiteOk
 ·refine uJ9 (s:={ s with heap:=h₅ }) H.X H.f R5 H.env.kind hke H.env.glob H.env.bi nm.1 PX.stop1 PX.stop2 ?_;exact wpAny_excMatches_type (X:="StopIteration") (T:="StopIteration") (b:=true) ⟨ob,hob,hobc⟩ uPy uQk uM8 suiteOk
noncomputable def tryM(r:Rec)(F:FE)(body:List Stmt)(c:Str)(hb:List Stmt):M Fl:=fun s=>match r.ex body F s with
 | some (.ok fl,s')=>some (.ok fl,s')
 | some (.exc x,s')=>if uH5 x=some c∧F.kind c=some .globalImplicit then calm (r.ex hb { F with hm:=true }) s' else Option.none
 | Option.none=>Option.none
theorem uUf{P:uBb}{body:List Stmt}{c:Str}{np pos pos':Pos}{b₀:Stmt}{suite:List Stmt}:exS P r (.Try body [.ExceptHandler (some (.Name c np)) none (b₀::suite) pos'] [] [] pos) F=if F.hm=true then M.fail else tryM r F body c (b₀::suite):=rfl
set_option tactic.hygienic true in
theorem u09(S:Snd C r n)(PX:PKexc C)(H:uBj C G B A F own G.fenv n)(hL:B.Lc=G.Lf)(R:uAs C G B own σ s.heap){body:List Stmt}{c:Str}{np pos pos':Pos}{b₀:Stmt}{suite:List Stmt} :
  uAg C G B A own σ s (exS C.P r (.Try body [.ExceptHandler (some (.Name c np)) none (b₀::suite) pos'] [] [] pos) F) (exec (.Try body [.ExceptHandler (some (.Name c np)) none (b₀::suite) pos'] [] [] pos) G.fenv) (FR C.τ):=by
 rw [uUf];generalize hm:F.hm=zz;induction zz using Bool.casesOn with
 | true=>exact uAg.fail rfl
 | false=>
  rw [if_neg (by decide)];refine ⟨fun Q E gd=>wpAny_Try_except ((S.ex body H hL R).go _ _ ?_)⟩;unfold uAk at gd ⊢;unfold tryM at gd;generalize q:r.ex body F σ=zz;induction zz using Option.casesOn with
  | none=>rw [q] at gd;exact gd.elim
  | some z=>
   obtain ⟨z,σ'⟩:=z;rw [q] at gd;induction z using Res.casesOn with
   | ok fl=>
    dsimp only at gd ⊢;intro own' h' tk' fl' p R' x;have g:=gd own' h' tk' fl' p R' x;induction fl' using PySem.Flow.casesOn with
    | next=>rw [PySem.arm_execs_nil];exact wpAny_pure g
    | _=>exact g
   | exc x=>
    dsimp only at gd ⊢;by_cases hc:uH5 x=some c∧F.kind c=some .globalImplicit
    ·rw [if_pos hc] at gd;obtain ⟨hc,hk⟩:=hc;intro own' h' tk' e p thr;obtain ⟨g,X,hg,hX,a,rfl,th⟩:=thr;have H':=H.grow p;have gd':uAk C G B own' σ' { s with heap:=h',toks:=tk' } (calm (r.ex (b₀::suite) { F with hm:=true })) (FR C.τ) Q E:=by
      unfold uAk
      split
      ·rename_i e;rw [e] at gd;exact gd
      ·rename_i a σ'' e;rw [e] at gd;exact fun own2 h2 tk2 b2 p2=>gd own2 h2 tk2 b2 (p.trans p2)
      ·rename_i x σ'' e;rw [e] at gd;exact fun own2 h2 tk2 b2 p2=>gd own2 h2 tk2 b2 (p.trans p2)
     have hfr:A.frames=some (G.fenv::G.outer):=by rw [(H.hd hm).1];exact Around.frames_deeper hg.below.stack
     have K:=hg.below;have fsE:(G.fenv::G.outer).filterMap (·.frame)=G.Lf::fs G:=by rw [List.filterMap_cons,H.f.fl];rfl
     have gL:∀ b o,g.get? b=some o→b≠G.Lf:=fun b o e z=>by
      have h1:=Heap.lt_size e;have h2:=H.f.lf;rw [← hg.turn.size,← z] at h2;exact absurd h1 (Nat.not_lt.mpr h2)
     induction x using AX.casesOn with
     | cyc=>cases hc
     | cycL=>
      cases hc;refine Classical.byContradiction fun hn=>?_;obtain ⟨g₂,m,t,vs,F2,hl,sm,⟨⟨Bb,y1,y2,y3,y4,y5⟩,y6⟩,nd,off,objs,low⟩:=th hL;refine hn ?_;clear hn;have hBL:Bb.get? G.Lf=none:=by
       obtain ⟨_,⟨L',_,hf,hn',_⟩,_⟩:=y4.2.2.1;obtain rfl:G.Lf=L':=Option.some.inj (H.f.fl.symm.trans hf);exact hn'
      refine wpAny_looks_onW hfr H.f.fl y4 fun h₄ held sm₄=>?_;refine uKq (s:={ s with heap:=h₄,toks:=tk' }) S PX H' hL hk ⟨held,fun h₆ st sm₆=>?_⟩ (.inl ⟨rfl,rfl⟩) (gd'.at h₄ tk');have smA:=(sm.trans sm₄).trans sm₆;refine uK3 H.f hg hX hL (m:=m) (fun b o e nm=>st b o (y2 b o (F2.keep b o e) ?_)) (fun b o e hb=>?_) (smA.ns F2.ns) hl (fun q hq=>⟨st _ _ (y3 q hq).1,fun z=>?_,kts_none F2.keep (y3 q hq).2.1⟩) nd off objs low
      ·show b∉(G.fenv::G.outer).filterMap (·.frame);rw [fsE];intro z;rcases List.mem_cons.mp z with z|z
       ·exact gL b o e z
       ·exact nm z
      ·obtain ⟨_,o',ho',hd⟩:=K.frames.mem hb;rw [e] at ho';cases ho';exact smA b o (F2.keep b o e) hd
      ·have:=(y3 q hq).1;rw [z,hBL] at this;cases this
     | stop=>
      cases hc;obtain ⟨hb,r,hmade⟩:=th;obtain ⟨t,he,htn,ht⟩:=hmade.there;obtain ⟨mc,hns,hl⟩:=r.ns;have hLf:hb.Ns G.Lf mc:=by rw [← hL];exact hns
      have abv:g.objs.size≤G.Lf:=by rw [← hL];exact r.above
      have K':Below (G.A₀.deeper G.fenv) C.base (G.fenv::G.outer) hb:=pushX K ⟨hLf,r.keep,abv⟩ H.f.fl H.f.fk;have hin:∀ env∈(G.fenv::G.outer),∀ b,env.frame=some b→b∈(G.fenv::G.outer).filterMap (·.frame):=fun env he b hb=>List.mem_filterMap.mpr ⟨env,he,hb⟩;have hFF:=funFrames_hide K'.frames hin;have hkeep:∀ b o,hb.get? b=some o→h'.get? b=some o:=hmade.keeps;have hen:(hideAll hb ((G.fenv::G.outer).filterMap (·.frame))).get? a=none:=by
       generalize z:(hideAll hb ((G.fenv::G.outer).filterMap (·.frame))).get? a=zz;induction zz using Option.casesOn with
       | none=>rfl
       | some o=>have:=of_hideAll _ z;rw [hmade.new] at this;cases this
      unfold noteFrame;simp only [H.f.fl];refine wpAny_bind (wpAny_field he rfl (x:=.none) rfl ?_);rw [if_neg (by decide)];refine wpAny_entryW (base:=hideAll hb ((G.fenv::G.outer).filterMap (·.frame))) (a0:=.ref t) hfr (hFF.of_keeps fun b o e _=>⟨o,hkeep b o e,rfl⟩) H.f.fl he (fun b o z=>hkeep b o (of_hideAll _ z)) hen rfl (by show 1<6;decide) rfl fun h₄ hN=>?_;obtain ⟨k1,k2,k3,k4⟩:=hN;refine uKq (s:={ s with heap:=h₄,toks:=tk' }) S PX H' hL hk ⟨⟨k1,hen,k2,k3⟩,fun h₆ st sm₆=>?_⟩ (.inr ⟨rfl,rfl⟩) (gd'.at h₄ tk');have smA:hb.UpToSlots h₆:=((Heap.UpToSlots.of_keeps hkeep).trans k4).trans sm₆;have keepB:∀ b o,hb.get? b=some o→b≠G.Lf→b∉fs G→h₆.get? b=some o:=fun b o e n1 n2=>st b o (hideAll_get _ e (by
       rw [fsE];intro z;rcases List.mem_cons.mp z with z|z
       ·exact n1 z
       ·exact n2 z))
      refine uK3 H.f hg hX hL (m:=mc) (fun b o e nm=>keepB b o (r.keep b o e) (gL b o e) nm) (fun b o e hb=>?_) (smA.ns hLf) hl (fun q hq=>?_) r.nd r.off r.objs r.low
      ·obtain ⟨_,o',ho',hd⟩:=K.frames.mem hb;rw [e] at ho';cases ho';exact smA b o (r.keep b o e) hd
      ·have hq':=r.news q hq;have hqL:q.1≠G.Lf:=by rw [← hL];exact hq'.2.1
       refine ⟨keepB _ _ hq'.1 hqL fun z=>?_,hqL,hq'.2.2⟩;obtain ⟨_,o',ho',_⟩:=K.frames.mem z;have:=hq'.2.2;rw [show (G.at g).h₀.get? q.1=g.get? q.1 from rfl,ho'] at this;cases this
    ·rw [if_neg hc] at gd;exact gd.elim
end land
end
section
section raise
variable {C:Cx}{G:Gm}{B:Bl}{A:Around}{own:Own}{σ:St}{s:Shared}{F:FE}{r:Rec}{n:Nat}
theorem uV5(S:Snd C r n)(PX:PKexc C)(H:uBj C G B A F own G.fenv n)(R:uAs C G B own σ s.heap){c:Str}{np cpos pos:Pos}{args:List Expr} :
  uAg C G B A own σ s (exS C.P r (.Raise (some (.Call (.Name c np) args [] cpos)) none pos) F) (exec (.Raise (some (.Call (.Name c np) args [] cpos)) none pos) G.fenv) (FR C.τ):=by
 have e0:exS C.P r (.Raise (some (.Call (.Name c np) args [] cpos)) none pos) F=if F.hm=true then M.fail else match F.kind c,C.P.glob.lookup c with
  | some .globalImplicit,some (.st (.ref D))=>match C.P.cls.lookup D with
   | some .exc=>if uAz args then M.bind (evL r F args) fun vs=>if vs.length≤lz then M.raise .cyc else M.fail else M.fail
   | _=>M.fail
  | _,_=>M.fail:=rfl
 rw [e0];generalize hm:F.hm=zz;induction zz using Bool.casesOn with
 | true=>exact uAg.fail rfl
 | false=>
  rw [if_neg (by decide)];by_cases hc:F.kind c=some .globalImplicit∧∃ D,C.P.glob.lookup c=some (.st (.ref D))∧C.P.cls.lookup D=some .exc∧uAz args=true
  ·refine Classical.byContradiction fun hn=>?_;obtain ⟨hk,D,h1,h2,h3⟩:=hc;refine hn ?_;clear hn;rw [hk,h1];dsimp only;rw [h2];dsimp only;rw [h3];obtain rfl:=PX.exc D h2;rw [if_pos rfl];refine ⟨fun Q E gd=>?_⟩;obtain ⟨nm,qn,N,bs,hdct,sn,sub,ab,col,dd,k0,k1,k2,k3,k5,mN,hni,hall⟩:=PX.cls;have hplain:(backTo cpos (starEach args G.fenv)).any (·.1)=false:=by
    have:=uIk G.fenv cpos args;rw [h3,List.all_eq_true] at this;rw [List.any_eq_false];intro x hx;have:=this x hx;simpa using this
   refine wpAny_Raise_call_sub (C:=C.cyc) (nm:=nm) (q:=qn) (N:=N) (bs:=bs) (hdct:=hdct) (sn:=sn) (sub:=sub) (ab:=ab) (col:=col) (dd:=dd) (k0:=k0) (k1:=k1) (k2:=k2) (k3:=k3) (k5:=k5) PySem.F.excBase_ValueError (mN:=mN) (H.hd hm).2 hplain hni ?_;have hke:G.fenv.kindOf c=some .globalImplicit:=H.env.same hk (by decide);refine uGb H.X H.f R H.env.kind hke H.env.glob H.env.bi (H.env.name hk).1 h1 ⟨rfl,?_⟩;refine uKv S args H R gd fun xs σ1 own1 h1' tk1 us p1 R1 x1 gd1=>?_;by_cases hl:xs.length≤lz
   ·rw [if_pos hl] at gd1;have hK:C.K.In h1':=by
     obtain ⟨g,X,hg,hX,r⟩:=R1;exact (hg.ok H.X H.f).K.keeps r.keep
    refine ⟨rfl,by show us.length≤sizeLine;rw [← uAn x1];exact uBa hl,(hall h1' hK).1,(hall h1' hK).2,fun h' e hmade=>?_⟩;obtain ⟨g,X,hg,hX,r1⟩:=R1;exact gd1.exc (tk':=tk1) rfl (List.prefix_refl _) ⟨g,X,hg,hX,e,rfl,h1',us,r1,hmade⟩
   ·rw [if_neg hl] at gd1;exact gd1.elim
  ·refine uAg.fail ?_;generalize q1:F.kind c=zz;induction zz using Option.casesOn with
   | none=>rfl
   | some k=>
    induction k using PySem.NameKind.casesOn with
    | globalImplicit=>
     generalize q2:C.P.glob.lookup c=zz;induction zz using Option.casesOn with
     | none=>rfl
     | some v=>
      induction v using AV.casesOn with
      | st w=>
       induction w using Value.casesOn with
       | ref D=>
        dsimp only;generalize q3:C.P.cls.lookup D=zz;induction zz using Option.casesOn with
        | none=>rfl
        | some cl=>
         induction cl using Cl.casesOn with
         | exc=>
          dsimp only;by_cases q4:uAz args=true
          ·exact absurd ⟨q1,D,q2,q3,q4⟩ hc
          ·rw [if_neg q4];rfl
         | _=>rfl
       | _=>rfl
      | _=>rfl
    | _=>rfl
end raise
section all
variable {C:Cx}{G:Gm}{B:Bl}{A:Around}{own:Own}{σ:St}{s:Shared}{F:FE}{r:Rec}{n:Nat}
theorem uDn{e:Expr}{x:Str}(h:uHn e=some x) : ∃ p,e=.Name x p:=by
 cases e<;>cases h;exact ⟨_,rfl⟩
set_option tactic.hygienic true in
theorem uJ7{e:Expr}{x y:Str}(h:asNames2 e=some (x,y)) : ∃ px py k p,e=.Tuple [.Name x px,.Name y py] k p:=by
 cases e<;>try cases h
 rename_i ts k p;rcases ts with _|⟨a,_|⟨b,_|⟨_,_⟩⟩⟩
 ·cases h
 ·cases h
 ·obtain ⟨x',h1,h⟩:=Option.bind_eq_some_iff.mp h;obtain ⟨y',h2,h⟩:=Option.map_eq_some_iff.mp h;cases h;obtain ⟨px,rfl⟩:=uDn h1;obtain ⟨py,rfl⟩:=uDn h2;exact ⟨px,py,k,p,rfl⟩
 ·cases h
set_option tactic.hygienic true in
theorem uMn{e a:Expr}{x:Str}(h:asCall1 e=some (x,a)) : ∃ pn p,e=.Call (.Name x pn) [a] [] p:=by
 cases e<;>try cases h
 rename_i f args kws p;rcases args with _|⟨b,_|⟨_,_⟩⟩
 ·cases h
 ·rcases kws with _|⟨_,_⟩
  ·obtain ⟨x',h1,h⟩:=Option.map_eq_some_iff.mp h;cases h;obtain ⟨px,rfl⟩:=uDn h1;exact ⟨px,p,rfl⟩
  ·cases h
 ·cases h
theorem uN8{t iter a:Expr}{x y en:Str}(h:enumOf t iter=some ((x,y),en,a)) : ∃ px py k pt pn pc,t=.Tuple [.Name x px,.Name y py] k pt∧iter=.Call (.Name en pn) [a] [] pc:=by
 refine Classical.byContradiction fun hn=>?_;obtain ⟨p,h1,h⟩:=Option.bind_eq_some_iff.mp h;refine hn ?_;clear hn;obtain ⟨q,h2,h⟩:=Option.map_eq_some_iff.mp h;cases h;refine Classical.byContradiction fun hn=>?_;obtain ⟨px,py,k,pt,e1⟩:=uJ7 h1;refine hn ?_;clear hn;obtain ⟨pn,pc,e2⟩:=uMn h2;exact ⟨px,py,k,pt,pn,pc,e1,e2⟩
theorem uNq{ts:List Expr}{o i:Expr}(h:asSub1 ts=some (o,i)) : ∃ p,ts=[.Subscript o i p]:=by
 match ts with
 | []=>cases h
 | [t]=>cases t<;>cases h;exact ⟨_,rfl⟩
 | _::_::_=>cases h
theorem uMh{e:Expr}{c:Str}{args:List Expr}(h:asCall0 e=some (c,args)) : ∃ np p,e=.Call (.Name c np) args [] p:=by
 induction e using PySem.Expr.casesOn with
 | Call f as kws p=>
  induction kws using List.casesOn with
  | cons _ _=>cases h
  | nil=>
   obtain ⟨x',h1,h⟩:=Option.map_eq_some_iff.mp h;cases h;obtain ⟨px,rfl⟩:=uDn h1;exact ⟨px,p,rfl⟩
 | _=>cases h
theorem uQd{e cause:Option Expr}{c:Str}{args:List Expr}(h:excOf e cause=some (c,args)) : ∃ np p,e=some (.Call (.Name c np) args [] p)∧cause=none:=by
 induction cause using Option.casesOn with
 | some _=>cases h
 | none=>
  obtain ⟨e,rfl,h⟩:=Option.bind_eq_some_iff.mp h;obtain ⟨px,p,rfl⟩:=uMh h;exact ⟨px,p,rfl,rfl⟩
theorem uRx{hs:List ExceptHandler}{oe fin hb:List Stmt}{c:Str}{h₀:Stmt}(h:tryOf hs oe fin=some (c,h₀,hb)) : ∃ cp hp,hs=[.ExceptHandler (some (.Name c cp)) none (h₀::hb) hp]∧oe=[]∧fin=[]:=by
 induction oe using List.casesOn with
 | cons _ _=>cases h
 | nil=>
  induction fin using List.casesOn with
  | cons _ _=>cases h
  | nil=>
   rcases hs with _|⟨⟨ty,nm,b,q⟩,_|⟨_,_⟩⟩
   ·cases h
   ·induction nm using Option.casesOn with
    | some _=>cases h
    | none=>
     induction b using List.casesOn with
     | nil=>cases h
     | cons b0 b=>
      obtain ⟨x',h1,h⟩:=Option.map_eq_some_iff.mp h;cases h;obtain ⟨e,rfl,h1⟩:=Option.bind_eq_some_iff.mp h1;obtain ⟨px,rfl⟩:=uDn h1;exact ⟨px,q,rfl,rfl,rfl⟩
   ·cases h
section bad
variable {P:uBb}{r:Rec}{F:FE}{p:Pos}
theorem uVz{t iter:Expr}{b o:List Stmt}(q:enumOf t iter=none):exS P r (.For t iter b o p) F=if F.hm||uB3 iter then M.fail else M.bind (r.ev iter F) fun xv=>M.bind (uB8 xv) fun it=>calm (uFi P r F t b o it lim 0):=congrArg (forS P r F t iter b o) q
theorem uVh{ts:List Expr}(q:asSub1 ts=none):exS P r (.Delete ts p) F=M.fail:=congrArg (delS r F) q
theorem uOe{e c:Option Expr}(q:excOf e c=none):exS P r (.Raise e c p) F=M.fail:=congrArg (raiseS P r F) q
theorem uTg{b oe fin:List Stmt}{hs:List ExceptHandler}(q:tryOf hs oe fin=none):exS P r (.Try b hs oe fin p) F=M.fail:=congrArg (tryS r F b) q
end bad
set_option maxHeartbeats 1000000 in
theorem uR8 (S:Snd C r n) (PC:uEd C) (PX:PKexc C) (he:nsIn C.K mainGlobals (Str.ofString "enumerate")=some none) (H:uBj C G B A F own G.fenv (n+1)) (hL:B.Lc=G.Lf) (R:uAs C G B own σ s.heap) (x:Stmt) :
  uAg C G B A own σ s (exS C.P r x F) (exec x G.fenv) (FR C.τ):=by
 have H':=H.less (Nat.le_succ n);induction x using PySem.Stmt.casesOn with
 | Expr e p=>exact uXn S H' R
 | Pass p=>rw [PySem.arm_exec_Pass];exact .standAt (uAg.pure R trivial)
 | Break p=>rw [PySem.arm_exec_Break];exact .standAt (uAg.pure R trivial)
 | Continue p=>rw [PySem.arm_exec_Continue];exact .standAt (uAg.pure R trivial)
 | Return e p=>exact uRe S H' R
 | Assign ts e p=>exact uRt S PC H hL R
 | AugAssign t op e p=>
  induction t using PySem.Expr.casesOn with
  | Name x q=>exact uOi S H' R
  | Attribute o x q=>exact uOv S H' R
  | _=>exact uAg.fail rfl
 | If t a b p=>exact t_if S H' hL R
 | While t b o p=>exact uTp S H' hL R
 | For t iter b o p=>
  generalize q:enumOf t iter=zz;induction zz using Option.casesOn with
  | none=>exact u1g S H' hL R (uVz q)
  | some z=>
   obtain ⟨⟨x,y⟩,en,a⟩:=z;obtain ⟨px,py,k,pt,pn,pc,rfl,rfl⟩:=uN8 q;exact uYx S he H' hL R
 | Assert t m p=>exact uRl S H' R
 | Delete ts p=>
  generalize q:asSub1 ts=zz;induction zz using Option.casesOn with
  | none=>exact uAg.fail (by rw [uVh q];rfl)
  | some z=>
   obtain ⟨o,i⟩:=z;obtain ⟨sp,rfl⟩:=uNq q;exact uRj S H' R
 | Raise e cause p=>
  generalize q:excOf e cause=zz;induction zz using Option.casesOn with
  | none=>exact uAg.fail (by rw [uOe q];rfl)
  | some z=>
   obtain ⟨c,args⟩:=z;obtain ⟨np,cp,rfl,rfl⟩:=uQd q;exact uV5 S PX H' R
 | Try body hs oe fin p=>
  generalize q:tryOf hs oe fin=zz;induction zz using Option.casesOn with
  | none=>exact uAg.fail (by rw [uTg q];rfl)
  | some z=>
   obtain ⟨c,h₀,hb⟩:=z;obtain ⟨cp,hp,rfl,rfl,rfl⟩:=uRx q;exact u09 S PX H' hL R
 | _=>exact uAg.fail rfl
theorem uYk (S:Snd C r n) (PC:uEd C) (PX:PKexc C) (he:nsIn C.K mainGlobals (Str.ofString "enumerate")=some none):∀ (b:List Stmt) {own:Own} {σ:St} {s:Shared},uBj C G B A F own G.fenv (n+1)→B.Lc=G.Lf→uAs C G B own σ s.heap→
  uAg C G B A own σ s (exB C.P r F b) (execs b G.fenv) (FR C.τ):=by
 intro zz;induction zz with
 | nil=>
  intro own σ s H hL R;rw [PySem.arm_execs_nil];exact uAg.pure R trivial
 | cons x xs ih=>
  intro own σ s H hL R;rw [PySem.arm_execs_cons];have e0:exB C.P r F (x::xs)=M.bind (exS C.P r x F) fun fl=>match fl with
   | .next=>exB C.P r F xs
   | fl=>M.pure fl:=rfl
  rw [e0];refine (uR8 S PC PX he H hL R x).bind fun fl σ1 own1 h1 tk1 fl' e1 p1 R1 x1=>?_;induction fl using Fl.casesOn with
  | next=>induction fl' using PySem.Flow.casesOn with
   | next=>exact ih (H.grow p1) hL R1
   | _=>exact x1.elim
  | brk=>induction fl' using PySem.Flow.casesOn with
   | brk=>exact uAg.pure R1 trivial
   | _=>exact x1.elim
  | cont=>induction fl' using PySem.Flow.casesOn with
   | cont=>exact uAg.pure R1 trivial
   | _=>exact x1.elim
  | ret v=>cases fl' with
   | ret rv=>exact uAg.pure R1 x1
   | _=>exact x1.elim
theorem sound (PC:uEd C) (PX:PKexc C) (he:nsIn C.K mainGlobals (Str.ofString "enumerate")=some none):∀ n,Snd C (run C.P n) n:=by
 intro zz;induction zz with
 | zero=>
  exact ⟨fun f xs σ h=>absurd rfl h,fun e H R=>uAg.fail rfl,fun e H R=>uAg.fail rfl,fun _ _ _ _ _ _ _ _ _ _=>uAg.fail rfl,fun _ _ _ _ _ _ _ _ _ _ Q E gd=>gd.elim,fun b H hL R=>uAg.fail rfl⟩
 | succ n ih=>
  exact
   have S:=ih
   ⟨fun f xs σ h=>uJ2 h,fun e H R=>uSy S PC H R e,fun e H R=>uU3 S H R e,fun X f bk hA dep uni hh R hf hx=>uQo S X PC f bk hA dep uni hh R hf hx,
    fun {G B A own σ s a xs us} X f bk hA dep uni hh ha R hx Q E gd=>by
     obtain ⟨fn,hfn⟩:=Option.isSome_iff_exists.mp ha;have e:(run C.P (n+1)).call (.st (.ref a)) xs=uBr (run C.P n) fn xs:=by
      show (match C.P.fn.lookup a with | some fn=>uBr (run C.P n) fn xs | none=>uA1 C.P (run C.P n) a xs)=_;rw [hfn]
     rw [e] at gd;exact uKf S X f bk (PC.fn _ _ hfn) hA (by lia) (by lia) hh R hx gd,
    fun b H hL R=>uYk S PC PX he b H hL R⟩
end all
end
end Mine.Internal
end
section
set_option backward.match.sparseCases true
open PySem PySem.W PyProof.Rows PySem.Calls
namespace Mine.Internal
theorem all_cons{α:Type}{p:α→Prop}{a:α}{l:List α}(h:p a)(t:∀ x∈l,p x):∀ x∈a::l,p x:=fun x hx=>by
 rcases List.mem_cons.mp hx with rfl|hx
 ·exact h
 ·exact t x hx
theorem uDq{α:Type}{p:α→Prop}:∀ x∈([]:List α),p x:=fun x hx=>by cases hx
theorem uY6(P:Params)(τ:uBt):∀ p∈globs,∃ rv,nsIn (KK P) mainGlobals p.1=some (some rv)∧VR τ [] p.2 rv:=by
 unfold globs
 repeat' (refine all_cons ?_ ?_)
 all_goals first | exact uDq | (refine ⟨_,?_,VR.st _⟩;kernel_rfl) | exact ⟨_,by rfl,VR.int _ _⟩
theorem j_bi(P:Params):∀ p∈bis,nsIn (KK P) mainGlobals p.1=some none∧p.1≠Str.ofString "__name__"∧∃ rv,bootBuiltins p.1=some rv∧p.2=.st rv:=by
 unfold bis
 repeat' (refine all_cons ?_ ?_)
 all_goals first | exact uDq | exact ⟨by kernel_rfl,by decide,_,by first | rfl | kernel_rfl,rfl⟩
theorem lk{β:Type}(l:List (Addr×β))(a:Addr)(b:β):l.lookup a=some b→(a,b)∈l:=by
 induction l with
 | nil=>intro h;cases h
 | cons c l ih=>
  obtain ⟨x,y⟩:=c;intro h;rw [List.lookup_cons] at h;generalize e:(a==x)=zz;induction zz using Bool.casesOn with
  | true=>rw [e] at h;cases h;rw [eq_of_beq e];exact .head _
  | false=>rw [e] at h;exact .tail _ (ih h)
theorem uQm(P:Params):fns.all (fun p=>keepIn (KK P) (.ref p.1))=true:=by kernel_rfl
theorem uR6(P:Params):PG.cls.all (fun p=>keepIn (KK P) (.ref p.1))=true:=by kernel_rfl
theorem uXi(P:Params):∀ a,(fns.lookup a).isSome=true∨(PG.cls.lookup a).isSome=true→keepIn (KK P) (.ref a)=true:=fun a h=>by
 rcases h with h|h
 ·obtain ⟨f,hf⟩:=Option.isSome_iff_exists.mp h;exact List.all_eq_true.mp (uQm P) _ (lk _ _ _ hf)
 ·obtain ⟨f,hf⟩:=Option.isSome_iff_exists.mp h;exact List.all_eq_true.mp (uR6 P) _ (lk _ _ _ hf)
noncomputable def fnOkB(f:Fn):Bool:=f.params.posonlyargs.isEmpty&&f.params.kwonlyargs.isEmpty&&f.params.kwarg.isNone&&decide (uB1 f).Nodup&&(uB1 f).all (fun x=>f.scope.names.lookup x==some .local||f.scope.names.lookup x==some .cell)&&uCw f.scope&&(f.scope.kind == .function) && !f.scope.isCoroutine && !f.scope.isGenerator
noncomputable def obOf(P:Params)(i:Addr):Obj:=((KK P).lookup i).getD default
noncomputable def fdOf(P:Params)(i:Addr):FuncData:=match (obOf P i).data with
 | .func fd=>fd
 | _=>default
noncomputable def tOf(P:Params)(i:Addr):Addr:=match (fdOf P i).defaults with
 | .ref T=>T
 | _=>0
noncomputable def nOf(P:Params)(i:Addr):Nat:=match (obOf P i).data with
 | .seq _ n=>n
 | _=>0
theorem uUt(P:Params):fns.map (fun p=>(KK P).lookup p.1)=fns.map (fun p=>some ⟨(obOf P p.1).cls,(obOf P p.1).dict,.func (fnX p.2.name p.2.qual p.2.params p.2.body p.2.scope [] (fdOf P p.1).defaults (fdOf P p.1).kwdefaults (fdOf P p.1).doc (fdOf P p.1).pyModule (fdOf P p.1).annotations (fdOf P p.1).code (fdOf P p.1).closureTuple),(obOf P p.1).slots⟩):=by kernel_rfl
theorem uY7(P:Params):fns.all (fun p=>fnOkB p.2&&codeIn (KK P) (fdOf P p.1).code p.2.qual)=true:=by kernel_rfl
theorem u1i(P:Params):fns.map (fun p=>(fdOf P p.1).defaults)=fns.map (fun p=>bif p.2.dflt then .ref (tOf P p.1) else .none):=by kernel_rfl
theorem uZr(P:Params):fns.map (fun p=>bif p.2.dflt then (KK P).lookup (tOf P p.1) else none)=fns.map (fun p=>bif p.2.dflt then some ⟨(obOf P (tOf P p.1)).cls,(obOf P (tOf P p.1)).dict,.seq #[.none] (nOf P (tOf P p.1)),(obOf P (tOf P p.1)).slots⟩ else none):=by kernel_rfl
theorem uWi{α:Type}{b:Bool}{x y:α}(h:b=true):(bif b then x else y)=x:=by rw [h];rfl
theorem uZ4{α:Type}{b:Bool}{x y:α}(h:b=false):(bif b then x else y)=y:=by rw [h];rfl
theorem j_fn(P:Params):∀ p∈fns,fnOkB p.2=true∧FnAt (KK P) p.1 p.2:=fun p hp=>by
 have h1:=List.map_inj_left.mp (uUt P) p hp;have h2:=Bool.and_eq_true_iff.mp (List.all_eq_true.mp (uY7 P) p hp);have h3:=List.map_inj_left.mp (u1i P) p hp;have h4:=List.map_inj_left.mp (uZr P) p hp;exact ⟨h2.1,.mk _ _ _ _ _ _ _ _ _ _ h1 h2.2 (fun e=>h3.trans (uZ4 e)) fun e=>⟨_,_,_,h3.trans (uWi e),(uWi e).symm.trans (h4.trans (uWi e)),rfl⟩⟩
theorem uZ5(P:Params):∀ D init,(PG.cls.lookup D=some (.plain init)∨∃ ns,PG.cls.lookup D=some (.slots ns init))→makesIn (KK P) D=true∧findIn (KK P) (.ref D) (Str.ofString "__init__")=some (some (.ref init))∧isFn (KK P) (.ref init)=true:=by
 have h:∀ p∈PG.cls,∀ init,(p.2=.plain init∨∃ ns,p.2=.slots ns init)→makesIn (KK P) p.1=true∧findIn (KK P) (.ref p.1) (Str.ofString "__init__")=some (some (.ref init))∧isFn (KK P) (.ref init)=true:=by
  unfold PG;dsimp only
  repeat' (refine all_cons ?_ ?_)
  all_goals first
   | exact uDq
   | (intro init hi;rcases hi with hi|⟨ns,hi⟩<;>first | (cases hi;done) | (cases hi;exact ⟨by kernel_rfl,by kernel_rfl,by kernel_rfl⟩))
 intro D init hD;rcases hD with hD|⟨ns,hD⟩
 ·exact h _ (lk _ _ _ hD) init (.inl rfl)
 ·exact h _ (lk _ _ _ hD) init (.inr ⟨ns,rfl⟩)
theorem uSo(P:Params):∀ q∈PG.meth,∀ p∈q.2,(plainGet (KK P) q.1 (Str.ofString "")=true∧findIn (KK P) (.ref q.1) p.1=some (some (.ref p.2))∧isFn (KK P) (.ref p.2)=true)∧
  hasDictIn (KK P) q.1=true∧specialIn (KK P) (.ref p.2) (Str.ofString "__get__")=some (some (.builtin "function.__get__"))∧takesIn (KK P) (.ref p.2)=some false∧copiedNames.contains p.1=false∧fnIn (KK P) p.2=true:=by
 unfold PG;dsimp only
 repeat' (refine all_cons ?_ ?_)
 all_goals first
  | exact uDq
  | exact ⟨⟨by kernel_rfl,by kernel_rfl,by kernel_rfl⟩,by kernel_rfl,by kernel_rfl,by kernel_rfl,by kernel_rfl,by kernel_rfl⟩
theorem uWm(P:Params):∀ q∈PG.attr,(plainGet (KK P) q.1 (Str.ofString "")=true∧hasDictIn (KK P) q.1=true∧findIn (KK P) (.ref q.1) (Str.ofString "__setattr__")=some (some (.builtin "object.__setattr__"))∧plainOver (KK P) q.1=true)∧
  ∀ x∈q.2,findIn (KK P) (.ref q.1) x=some none∧takerIn (KK P) q.1 x=some none:=by
 unfold PG;dsimp only;refine all_cons ⟨⟨by kernel_rfl,by kernel_rfl,by kernel_rfl,by kernel_rfl⟩,?_⟩ uDq
 repeat' (refine all_cons ?_ ?_)
 all_goals first | exact uDq | exact ⟨by kernel_rfl,by kernel_rfl⟩
theorem uW9(P:Params):∀ q∈PG.slot,∀ p∈q.2,SlotK (KK P) q.1 p.1 p.2:=by
 unfold PG;dsimp only;refine all_cons ?_ uDq
 repeat' (refine all_cons ?_ ?_)
 all_goals first
  | exact uDq
  | exact ⟨by kernel_rfl,by kernel_rfl,by kernel_rfl,by kernel_rfl,by decide,_,by rfl,by kernel_rfl,by kernel_rfl,by kernel_rfl,by kernel_rfl,by kernel_rfl⟩
theorem uYj(P:Params):nsIn (KK P) mainGlobals (Str.ofString "enumerate")=some none:=by kernel_rfl
end Mine.Internal
end
section
set_option backward.match.sparseCases true
open PySem PySem.W PyProof.Rows PySem.Calls
namespace Mine.Internal
noncomputable def kvOf(es:List DictEntry):List (Int×Value):=es.map fun e=>(match e.key with | .int i _=>i | _=>0,e.val)
noncomputable def intEnt(e:DictEntry):Bool:=match e.key with | .int i _=>e.hash==hashInt i | _=>false
theorem uRy(prog:Program)(w:World):∀ (es:List DictEntry),es.all intEnt=true→Pairs (PySem.intKind prog w) es (kvOf es):=by
 intro zz;induction zz with
 | nil=>
  intro _;exact .nil
 | cons e es ih=>
  intro h;rw [List.all_cons,Bool.and_eq_true] at h;refine .cons ?_ rfl (ih h.2);have h1:=h.1;unfold intEnt at h1;show Value.isInt _ e.key=true;generalize q:e.key=zz;induction zz using Value.casesOn with
  | int i t=>
   show Value.isInt (match e.key with | .int i _=>i | _=>0) (.int i t)=true;rw [q];exact beq_self_eq_true i
  | _=>rw [q] at h1;cases h1
noncomputable def esB(P:Params):Array DictEntry:=match (obOf P 52).data with
 | .dict es _=>es
 | _=>#[]
noncomputable def epB(P:Params):Nat:=match (obOf P 52).data with
 | .dict _ n=>n
 | _=>0
noncomputable def tkB(P:Params):Nat:=match valueAt (kvOf (esB P).toList) 46 with
 | some (.str _ t)=>t
 | _=>0
theorem uO4{e:DictEntry}(h:intEnt e=true) : ∃ i,Value.isInt i e.key=true∧e.hash=hashInt i:=by
 unfold intEnt at h;generalize q:e.key=zz;induction zz using Value.casesOn with
 | int i t=>rw [q] at h;exact ⟨i,beq_self_eq_true i,eq_of_beq h⟩
 | _=>rw [q] at h;cases h
theorem b_at(P:Params):(KK P).lookup 52=some ⟨.type "dict",none,.dict (esB P) (epB P),#[]⟩:=by kernel_rfl
theorem u01(P:Params):(esB P).toList.all intEnt=true:=by kernel_rfl
theorem b_nd(P:Params):decide (((kvOf (esB P).toList).map (·.1)).Nodup)=true:=by kernel_rfl
theorem b_97(P:Params):valueAt (kvOf (esB P).toList) 97=none:=by kernel_rfl
theorem b_46(P:Params):valueAt (kvOf (esB P).toList) 46=some (.str (mkS (Mine.Internal.sl "\\.")) (tkB P)):=by kernel_rfl
theorem j_tr(prog:Program)(w:World):∀ h:Heap,(KK w.params).In h→∃ kvs:List (Int×Value),h.DictOf (PySem.intKind prog w) 52 kvs∧∀ c y,PG.tr.lookup c=some y→c<128∧
  ((valueAt kvs (c:Int)=none∧y=[c])∨∃ t,valueAt kvs (c:Int)=some (.str (mkS y) t)∧y.length=2):=by
 intro h hK;have h3:=u01 w.params;refine ⟨kvOf (esB w.params).toList,⟨_,esB w.params,epB w.params,hK _ _ (b_at w.params),⟨rfl,rfl,rfl⟩,rfl,fun e he=>?_,uRy prog w _ h3,of_decide_eq_true (b_nd w.params)⟩,fun c y hc=>?_⟩
 ·exact uO4 (List.all_eq_true.mp h3 e (Array.mem_toList_iff.mpr he))
 ·have hm:(c,y)∈PG.tr:=lk (β:=List Nat) PG.tr c y hc;have:(c=46∧y=Mine.Internal.sl "\\.")∨(c=97∧y=Mine.Internal.sl "a"):=by
   simp only [PG,List.mem_cons,Prod.mk.injEq,List.not_mem_nil,or_false] at hm;exact hm
  rcases this with ⟨rfl,rfl⟩|⟨rfl,rfl⟩
  ·exact ⟨by decide,.inr ⟨_,b_46 w.params,by decide⟩⟩
  ·exact ⟨by decide,.inl ⟨b_97 w.params,by decide⟩⟩
theorem u1a(P:Params):ExcK (KK P) 110:=uS1 rfl rfl rfl (by kernel_rfl) (by kernel_rfl)
end Mine.Internal
end
section
open PySem PySem.W PyProof.Rows PySem.Calls PySem.SeqAt
namespace Mine.Internal
noncomputable def uE9(k:Nat):List Nat:=match k with
 | 0=>[97]
 | 1=>[46]
 | 2=>[97,97]
 | 3=>[97,46]
 | 4=>[46,97]
 | 5=>[46,46]
 | k=>List.replicate k 122
noncomputable def nmTok(t:Nat):uBt:=fun k=>(t+1+k,uE9 k)
theorem uDt{k:Nat}(h:6≤k):uE9 k=List.replicate k 122:=by
 obtain ⟨j,rfl⟩:=Nat.exists_eq_add_of_le' h;rfl
theorem uHi{k:Nat}(h:k<6):(uE9 k).length≤2:=(by decide:∀ k<6,(uE9 k).length≤2) k h
theorem uMa{k l:Nat}(h:uE9 k=uE9 l):k=l:=by
 by_cases hk:k<6
 ·by_cases hl:l<6
  ·have:∀ k<6,∀ l<6,uE9 k=uE9 l→k=l:=by decide
   exact this k hk l hl h
  ·have h1:=uHi hk;rw [h,uDt (by lia),List.length_replicate] at h1;lia
 ·by_cases hl:l<6
  ·have h1:=uHi hl;rw [← h,uDt (by lia),List.length_replicate] at h1;lia
  ·have:=congrArg List.length h;rw [uDt (by lia),uDt (by lia),List.length_replicate,List.length_replicate] at this;exact this
theorem uPl(t:Nat):TokOk (nmTok t):=fun k=>⟨by show t+1+k≠0;lia,fun l=>⟨fun h=>by
 have:k=l:=by
  have h':t+1+k=t+1+l:=h;lia
 rw [this],fun h=>by rw [uMa h]⟩⟩
section spliced
variable {M:Model}{A:Around}{E:Value→Shared→Prop}
noncomputable def txts(t:Nat):List Str→List Value
 | []=>[]
 | x::xs=>.str x t::txts (t+1) xs
theorem uOs{env:Env}{x:Str}{k:Nat}{p:Pos}{s:Shared}{Q:Value→Shared→Prop}(h:Q (.str x s.toks) { s with toks:=s.toks+1 }):wpAny M A (eval (.Constant (.str x) k p) env) Q E s:=by
 show wpAny _ _ (mkText x) _ _ _;exact wpAny_mkText h
theorem uJx{t:Sem Value}{rest:List (Bool×Sem Value)}{s:Shared}{Q:List Value→Shared→Prop}(h:wpAny M A t (fun v s₁=>wpAny M A (spliced rest) (fun vs s₂=>Q (v::vs) s₂) E s₁) E s):wpAny M A (spliced ((false,t)::rest)) Q E s:=by
 rw [spliced];refine wpAny_bind (wpAny_mono h (fun v s₁ h₁=>?_) fun _ _ e=>e);refine KFB.if_not rfl ?_;refine wpAny_bind (wpAny_pure ?_);exact wpAny_bind (wpAny_holding (wpAny_mono h₁ (fun vs s₂ h₂=>wpAny_pure h₂) fun _ _ e=>e))
theorem uIb{env:Env}{pos:Pos}:∀ (xs:List (Str×Nat×Pos)) {s:Shared} {Q:List Value→Shared→Prop},Q (txts s.toks (xs.map (·.1))) { s with toks:=s.toks+xs.length }→
  wpAny M A (spliced (backTo pos (starEach (xs.map fun x=>.Constant (.str x.1) x.2.1 x.2.2) env))) Q E s:=by
 intro zz;induction zz with
 | nil=>
  intro s Q h;exact wpAny_pure h
 | cons zq xs ih=>
  obtain ⟨x,k,p⟩:=zq;intro s Q h;rw [List.map_cons,uA2 fun a p q=>by cases q];have e1:backTo pos ((false,eval (.Constant (.str x) k p) env)::starEach (xs.map fun x=>.Constant (.str x.1) x.2.1 x.2.2) env)=(false,eval (.Constant (.str x) k p) env)::backTo pos (starEach (xs.map fun x=>.Constant (.str x.1) x.2.1 x.2.2) env):=rfl;rw [e1];refine uJx (uOs (ih (s:={ s with toks:=s.toks+1 }) ?_));have e:s.toks+1+xs.length=s.toks+(xs.length+1):=by lia
  show Q (Value.str x s.toks::txts (s.toks+1) (xs.map (·.1))) { s with toks:=s.toks+1+xs.length };rw [e];exact h
end spliced
theorem uMr : ∃ np lp pos p1 p2 p3 p4 p5 p6,uFm.body=.Assign [.Name (S "names") np] (.List ([(S "a",0,p1),(S ".",0,p2),(S "aa",0,p3),(S "a.",0,p4),(S ".a",0,p5),(S "..",0,p6)].map fun x=>.Constant (.str x.1) x.2.1 x.2.2) lp) pos::uFm.body.drop 1:=
 ⟨_,_,_,_,_,_,_,_,_,rfl⟩
theorem uNu(n:Nat):cellsFrom n uFm.scope.names []=[(S "row",n)]:=by rfl
theorem uR4(h:Heap):pushCells h uFm.scope.names=h.push uDk:=by rfl
end Mine.Internal
end
section
open PySem PySem.W PyProof.Rows PySem.Calls PySem.SeqAt
namespace Mine.Internal
noncomputable def theCx(w:World)(p:Program)(loose:List Str)(mg mb:Str→Option Value)(base:Heap)(a:Addr)(ns:List Int)(t:Nat):Cx:=
 { prog:=PySem.Challenge.pw_kt0075_01,w,K:=KK w.params,p,loose,mg,mb,base,P:=PGs a ns,τ:=nmTok t,cyc:=110 }
section cx
variable {w:World}{p:Program}{loose:List Str}{mg mb:Str→Option Value}{base:Heap}{a:Addr}{ns:List Int}{t:Nat}
theorem u0t(T:TopRead p loose mg mb base)(KX:(KK w.params).In base)(hs : ∃ vs:List Value,base.IsList a vs.toArray∧IntsAre vs ns∧vs.length≤sizeLine):CxOk (theCx w p loose mg mb base a ns t) where
 PK:=⟨fun x v h=>uY6 w.params (nmTok t) (x,v) (uBz h),fun x v _ h=>j_bi w.params (x,v) (uBz h)⟩
 PA:=⟨fun D l h=>by
   obtain ⟨h1,h2⟩:=uWm w.params (D,l) (lk _ _ _ h);exact ⟨h1.1,h1.2.1,h1.2.2.1,h1.2.2.2,fun x hx=>h2 x (by simpa using hx)⟩,
  fun D l x f h h'=>(uSo w.params (D,l) (lk _ _ _ h) (x,f) (uBz h')).1,
  fun D l x i h h'=>uW9 w.params (D,l) (lk _ _ _ h) (x,i) (uBz h')⟩
 PT:=⟨fun h hK=>j_tr _ w h hK⟩
 hT:=uPl t
 K:=KX
 T:=fun g st=>T.keeps st
 hsm:=trivial
 scr:=hs
 htr:=rfl
 keep:=fun a h=>uXi w.params a h
theorem uZi{D:Addr}{f:Fn}(h:fns.lookup D=some f):FnOk (theCx w p loose mg mb base a ns t) D f:=by
 obtain ⟨hb,h2⟩:=j_fn w.params (D,f) (lk _ _ _ h);unfold fnOkB at hb;simp only [Bool.and_eq_true,List.isEmpty_iff,decide_eq_true_eq,beq_iff_eq,Bool.not_eq_true',List.all_eq_true,Bool.or_eq_true,Option.isNone_iff_eq_none] at hb;refine Classical.byContradiction fun hn=>?_;obtain ⟨⟨⟨⟨⟨⟨⟨⟨b1,b2⟩,b3⟩,b4⟩,b5⟩,b6⟩,b7⟩,b8⟩,b9⟩:=hb;refine hn ?_;clear hn;exact ⟨h2,b1,b2,b3,b4,b5,b6,b7,b8,b9⟩
theorem u08:uEd (theCx w p loose mg mb base a ns t) where
 fn:=fun D f h=>uZi h
 cls:=fun D init h=>uZ5 w.params D init h
 star:=fun D l x f h h'=>(uSo w.params (D,l) (lk _ _ _ h) (x,f) (uBz h')).2
theorem uZz:PKexc (theCx w p loose mg mb base a ns t) where
 cls:=u1a w.params
 cyc:=rfl
 stop1:=by show globs.lookup (Str.ofString "StopIteration")=none;decide
 stop2:=rfl
 exc:=fun D h=>by
  have:=lk (β:=Cl) PG.cls D .exc h;simp only [PG,List.mem_cons,Prod.mk.injEq,List.not_mem_nil,or_false,reduceCtorEq,and_false,false_or,and_true] at this;exact this
end cx
section env
variable {M:Model}{A:Around}{E:Value→Shared→Prop}{s:Shared}
theorem uUo{v:Value}{qual:Str}{cdv:Value}{Q:Env→Shared→Prop}
  (h:∀ h₂,h₂.Ns s.heap.objs.size (fun y=>if y=S "script" then some v else none)→(∀ b o,b≠s.heap.objs.size→((s.heap.push { cls:=.type "frame",data:=.dict #[] }).push uDk).get? b=some o→h₂.get? b=some o)→
   Q (newEnv uFm.scope s.heap.objs.size mainGlobals [(S "row",s.heap.objs.size+1)] qual (some 294) cdv none builtinsNs) { s with heap:=h₂,toks:=s.toks+1 }) :
  wpAny M A (newFunctionEnv uFm.scope mainGlobals [] [(S "script",v)] qual (some 294) cdv none builtinsNs) Q E s:=by
 simp only [newFunctionEnv,Option.isSome_none,Bool.false_eq_true,if_false];refine wpAny_bind (wpAny_alloc ?_);refine wpAny_bind (wpAny_layCells _ (fun name kind cells=>by cases hkc:kind==NameKind.cell<;>simp [hkc]) _ _ _ _ ?_);rw [show ({ s with heap:=s.heap.push { cls:=.type "frame",data:=.dict #[] } }:Shared).heap.objs.size=s.heap.objs.size+1 from Heap.size_push ..,uNu,uR4];have hns:((s.heap.push { cls:=.type "frame",data:=.dict #[] }).push uDk).Ns s.heap.objs.size fun _=>none:=(Heap.Ns.new s.heap (.type "frame")).push _;have key:wpAny M A (PySem.storeName (newEnv uFm.scope s.heap.objs.size mainGlobals [(S "row",s.heap.objs.size+1)] qual (some 294) cdv none builtinsNs) (S "script") v) (fun _ s'=>Q (newEnv uFm.scope s.heap.objs.size mainGlobals [(S "row",s.heap.objs.size+1)] qual (some 294) cdv none builtinsNs) s') E { s with heap:=(s.heap.push { cls:=.type "frame",data:=.dict #[] }).push uDk }:=
  wpAny_storeName_local (by rfl) hns (fun h' hn' hs'=>h h' hn' fun b o hb e=>(hs'.2 b hb).trans e) (by rfl)
 refine wpAny_bind ?_;rw [List.forIn_cons];refine wpAny_bind (wpAny_bind (wpAny_mono key (fun _ s' q=>wpAny_pure ?_) fun _ _ e=>e));show wpAny M A (forIn [] _ _) _ _ _;rw [List.forIn_nil];exact wpAny_pure (wpAny_pure q)
end env
theorem uVs:Fit [] []:=.nil
theorem uNi{w:World}{s:Shared}{p:Program}{loose:List Str}{mg mb:Str→Option Value}{a:Addr}{ns:List Int}{vs:List Value}(T:TopRead p loose mg mb s.heap)(KX:(KK w.params).In s.heap)(hl:s.heap.IsList a vs.toArray)(hi:IntsAre vs ns)(hz:vs.length≤sizeLine)
  (pure : ∃ σ',exB (PGs a ns) (run (PGs a ns) 40) lawF (uFm.body.drop 1) (lawSt a)=some (.ok (.ret (.bool true)),σ')) {Q E:Value→Shared→Prop} (h:∀ L h' tk m,Fr s.heap L h' m→Q (.bool true) { s with heap:=h',toks:=tk }) :
  wpAny (model PySem.Challenge.pw_kt0075_01 w) callerA (PySem.call (.ref 294) [.ref a]) Q E s:=by
 have X:=u0t (w:=w) (t:=s.toks) T KX ⟨vs,hl,hi,hz⟩;have hlk:fns.lookup 294=some uFm:=rfl;have fo:=uZi (w:=w) (p:=p) (loose:=loose) (mg:=mg) (mb:=mb) (base:=s.heap) (a:=a) (ns:=ns) (t:=s.toks) hlk;obtain ⟨oc,od,osl,dV,kV,doc,pm,an,cdv,ct,ho,hcd,d1,d2⟩:=fo.at_;refine wpAny_call (codeAny_call_function (fd:=fnX uFm.name uFm.qual uFm.params uFm.body uFm.scope [] dV kV doc pm an cdv ct) (body:=uFm.body) (by decide) (KX _ _ ho) rfl fo.co fo.gen rfl (codeRec_of KX hcd) ?_);refine uGt fo.po fo.ko fo.kw rfl (d1 rfl) (show (uFm.params.args.map (·.arg)).Nodup by decide) rfl ?_;refine uUo fun h₂ hns hk=>?_;have keep:∀ b o,s.heap.get? b=some o→h₂.get? b=some o:=fun b o e=>hk b o (Nat.ne_of_lt (Heap.lt_size e)) (Heap.get?_push_of_some _ (Heap.get?_push_of_some _ e));refine ⟨T.nolimit.keeps keep,codeAny_func ?_⟩;generalize henv:newEnv uFm.scope s.heap.objs.size mainGlobals [(S "row",s.heap.objs.size+1)] (uFm.qual++".<locals>.") (some 294) cdv none builtinsNs=env;let C:=theCx w p loose mg mb s.heap a ns s.toks;let G:Gm:={ h₀:=s.heap,A₀:=callerA,fenv:=env,Lf:=s.heap.objs.size,outer:=[] }
 let B:Bl:={ Lc:=s.heap.objs.size,XP:=[] }
 have hg:GT C G s.heap:=⟨KtsTurn.refl,below_caller _,ktsDicts_nil⟩
 have big:sysModules<s.heap.objs.size:=modules_low T.nolimit;have hf:uDg G:=⟨by subst henv;rfl,by subst henv;exact fo.kind,Nat.le_refl _,big⟩
 have hsz:(s.heap.push { cls:=.type "frame",data:=.dict #[] }).objs.size=s.heap.objs.size+1:=Heap.size_push ..;have hcell:h₂.get? (s.heap.objs.size+1)=some uDk:=hk _ _ (Nat.succ_ne_self _) (by rw [← hsz];exact Heap.get?_push_size _ rfl);have r0:uA5 C (G.at s.heap) (B.ex []) [(s.heap.objs.size+1,uDk)] ⟨[(S "script",.st (.ref a))],[.cell none]⟩ h₂:=by
  refine ⟨⟨_,hns,fun x v e=>?_⟩,keep,Nat.le_refl _,fun q hq=>?_,fun q hq=>(by cases hq),List.pairwise_singleton _ _,fun _ _ q hq=>(by cases hq),.cons ⟨none,rfl,.none⟩ .nil,big,fun q hq=>?_⟩
  ·rw [List.lookup_cons] at e;generalize hx:(x==S "script")=zz;induction zz using Bool.casesOn with
   | true=>
    rw [hx] at e;cases e;exact ⟨.ref a,by rw [eq_of_beq hx];simp,.st _⟩
   | false=>rw [hx] at e;cases e
  ·rw [List.mem_singleton.mp hq];exact ⟨hcell,Nat.succ_ne_self _,uA8 (Nat.le_succ _)⟩
  ·rw [List.mem_singleton.mp hq];exact Nat.lt_trans big (Nat.lt_succ_self _)
 refine Classical.byContradiction fun hn=>?_;obtain ⟨np,lp,pos,p1,p2,p3,p4,p5,p6,he⟩:=uMr;refine hn ?_;clear hn;have e2:execs uFm.body env=_:=congrArg (fun b=>execs b env) he;rw [e2,PySem.arm_execs_cons];have hkind:env.scope.kind=.function:=by subst henv;exact fo.kind
 refine wpAny_bind (wpAny_Assign_Name ?_ rfl);rw [PySem.arm_eval_List];refine wpAny_bind (wpAny_standAt (wpAny_bind (uIb _ ?_)));refine wpAny_newObj_type ?_ (show 6≤sizeLine by decide);have r1:=r0.push (o:=.list nms) (ob:={ cls:=.type "list",data:=.seq (txts (s.toks+1) [S "a",S ".",S "aa",S "a.",S ".a",S ".."]).toArray }) ⟨0,_,rfl,?_,by decide⟩
 ·have R1:uAs C G B ([(s.heap.objs.size+1,uDk)]++[(h₂.objs.size,{ cls:=.type "list",data:=.seq (txts (s.toks+1) [S "a",S ".",S "aa",S "a.",S ".a",S ".."]).toArray })]) ⟨[(S "script",.st (.ref a))],[.cell none,.list nms]⟩ (h₂.push { cls:=.type "list",data:=.seq (txts (s.toks+1) [S "a",S ".",S "aa",S "a.",S ".a",S ".."]).toArray }):=⟨s.heap,[],hg,uVs,r1⟩
  have H:uBj C G B (callerA.deeper env) lawF ([(s.heap.objs.size+1,uDk)]++[(h₂.objs.size,{ cls:=.type "list",data:=.seq (txts (s.toks+1) [S "a",S ".",S "aa",S "a.",S ".a",S ".."]).toArray })]) env 41:=by
   refine ⟨X,hf,⟨hkind,by subst henv;rfl,by subst henv;rfl,by subst henv;rfl,by subst henv;rfl,fun x=>.inl (by subst henv;rfl),fun x i hx=>?_,fo.names⟩,(show 302+2*41<1000 by decide),(show 7+8*41<9900 by decide),fun _=>⟨rfl,rfl⟩,.inl rfl⟩;have hx':([(S "row",0)]:List (Str×Nat)).lookup x=some i:=hx;rw [List.lookup_cons] at hx';generalize hq:(x==S "row")=zz;induction zz using Bool.casesOn with
   | true=>
    rw [hq] at hx';cases hx';refine ⟨s.heap.objs.size+1,?_,rfl⟩;subst henv;show ([(S "row",s.heap.objs.size+1)]:List (Str×Addr)).lookup x=_;rw [List.lookup_cons,hq]
   | false=>rw [hq] at hx';cases hx'
  have hv:VR C.τ (adr ([(s.heap.objs.size+1,uDk)]++[(h₂.objs.size,({ cls:=.type "list",data:=.seq (txts (s.toks+1) [S "a",S ".",S "aa",S "a.",S ".a",S ".."]).toArray }:Obj))])) (.ref 1) (.ref h₂.objs.size):=.ref rfl;have st:uAg C G B (callerA.deeper env) _ _ { s with heap:=(h₂.push { cls:=.type "list",data:=.seq (txts (s.toks+1) [S "a",S ".",S "aa",S "a.",S ".a",S ".."]).toArray }),toks:=s.toks+1+6 } (storeName lawF (S "names") (.ref 1)) (PySem.storeName env (S "names") (.ref h₂.objs.size)) UR:=.lift R1 fun g Y hg hY R=>uEo (H.env.at g) R hv;refine st.go _ _ ?_;unfold uAk;rw [show storeName lawF (S "names") (.ref 1) ⟨[(S "script",.st (.ref a))],[.cell none,.list nms]⟩=some (.ok (),lawSt a) from rfl];intro own2 h3 tk3 _ p2 R3 _;dsimp only;obtain ⟨σe,hp⟩:=pure;have Sn:=sound (C:=C) u08 uZz (uYj w.params) 41;refine (Sn.ex (s:={ s with heap:=h3,toks:=tk3 }) (uFm.body.drop 1) (H.grow p2) rfl R3).go _ _ ?_;unfold uAk;rw [show (run C.P 41).ex (uFm.body.drop 1) lawF (lawSt a)=_ from hp];intro own4 h4 tk4 b p4 R4 x4;cases b with
  | ret rv=>
   have x5:VR C.τ (adr own4) (.bool true) rv:=x4;cases x5;obtain ⟨g,Y,hg4,hY,r4⟩:=R4;obtain ⟨mc,hn4,_⟩:=r4.ns;exact h _ h4 tk4 mc ⟨hn4,fun b o e=>r4.keep b o (hg4.below.stays b o e),Nat.le_refl _⟩
  | _=>exact x4.elim
 ·refine .cons (.str [97] (some 0) _ (by decide) fun k e=>?_) (.cons (.str [46] (some 1) _ (by decide) fun k e=>?_) (.cons (.str [97,97] (some 2) _ (by decide) fun k e=>?_) (.cons (.str [97,46] (some 3) _ (by decide) fun k e=>?_) (.cons (.str [46,97] (some 4) _ (by decide) fun k e=>?_) (.cons (.str [46,46] (some 5) _ (by decide) fun k e=>?_) .nil)))))
  all_goals (cases e;exact ⟨rfl,rfl⟩)
end Mine.Internal
end
section
namespace Mine.Internal.Pu
open PySem
noncomputable def Ok{α:Type}(m:M α)(σ:St)(Q:α→St→Prop):Prop:=∃ a σ',m σ=some (.ok a,σ')∧Q a σ'
noncomputable def Ex{α:Type}(m:M α)(σ:St)(x:AX)(Q:St→Prop):Prop:=∃ σ',m σ=some (.exc x,σ')∧Q σ'
theorem c4:∀ m<4,m=0∨m=1∨m=2∨m=3:=by decide
theorem c6:∀ w<6,w=0∨w=1∨w=2∨w=3∨w=4∨w=5:=by decide
theorem nek{a b n i j:Nat}(h1:a=n+i)(h2:b=n+j)(h:Nat.beq i j=false):a≠b:=fun e=>Nat.ne_of_beq_eq_false h (Nat.add_left_cancel (h1.symm.trans (e.trans h2)))
theorem ne0{a n i:Nat}(h1:a=n+i)(h:Nat.beq i 0=false):a≠n:=nek h1 (Nat.add_zero n).symm h
theorem ne0'{a n i:Nat}(h1:a=n+i)(h:Nat.beq i 0=false):n≠a:=(ne0 h1 h).symm
theorem lek{a n i:Nat}(h1:a=n+i):n≤a:=h1▸Nat.le_add_right n i
theorem lekj{a n i j:Nat}(h1:a=n+i)(h:Nat.ble j i=true):n+j≤a:=h1▸Nat.add_le_add_left (Nat.le_of_ble_eq_true h) n
theorem ltkj{a n i j:Nat}(h1:a=n+i)(h:Nat.ble (i+1) j=true):a<n+j:=h1▸Nat.add_lt_add_left (Nat.le_of_ble_eq_true h) n
theorem ltkk{a b n i j:Nat}(h1:a=n+i)(h2:b=n+j)(h:Nat.ble (i+1) j=true):a<b:=h2▸ltkj h1 h
theorem lekk{a b n i j:Nat}(h1:a=n+i)(h2:b=n+j)(h:Nat.ble i j=true):a≤b:=h2▸lekj (a:=n+j) rfl h |> fun q=>h1▸q
theorem gtn{a b:Nat}(h:a<b):b≠a:=Nat.ne_of_gt h
theorem nel{a n i:Nat}(h:a<n):a≠n+i:=Nat.ne_of_lt (Nat.lt_of_lt_of_le h (Nat.le_add_right n i))
theorem nel'{a n i:Nat}(h:a<n):n+i≠a:=(nel h).symm
theorem nelb{a b n i:Nat}(h:a<n)(h2:b=n+i):a≠b:=h2▸nel h
theorem nelb'{a b n i:Nat}(h:a<n)(h2:b=n+i):b≠a:=(nelb h h2).symm
theorem nell{a b c:Nat}(h:a<c)(h2:c≤b):a≠b:=Nat.ne_of_lt (Nat.lt_of_lt_of_le h h2)
theorem nell'{a b c:Nat}(h:a<c)(h2:c≤b):b≠a:=(nell h h2).symm
theorem ltc{a b c n i j:Nat}(h:c<b)(h1:c=n+j)(h2:a=n+i)(k:Nat.ble i j=true):a<b:=Nat.lt_of_le_of_lt (lekk h2 h1 k) h
theorem nec{a b c n i j:Nat}(h:c<b)(h1:c=n+j)(h2:a=n+i)(k:Nat.ble i j=true):a≠b:=Nat.ne_of_lt (ltc h h1 h2 k)
theorem lec0{b c n j:Nat}(h:c<b)(h1:c=n+j):n≤b:=Nat.le_of_lt (Nat.lt_of_le_of_lt (lek h1) h)
theorem ltn{a b c:Nat}(h:a<b)(k:Nat.ble b c=true):a<c:=Nat.lt_of_lt_of_le h (Nat.le_of_ble_eq_true k)
theorem lta{a n i:Nat}(h:a<n):a<n+i:=Nat.lt_of_lt_of_le h (Nat.le_add_right n i)
theorem nek3{a n i j k:Nat}(h1:a=n+i)(h:Nat.beq i (j+k)=false):a≠n+j+k:=nek h1 (Nat.add_assoc n j k) h
theorem nek3'{a n i j k:Nat}(h1:a=n+i)(h:Nat.beq i (j+k)=false):n+j+k≠a:=(nek3 h1 h).symm
theorem nek0{n j k:Nat}(h:Nat.beq 0 (j+k)=false):n≠n+j+k:=nek3 (Nat.add_zero n).symm h
theorem ltk3{n j k l:Nat}(h:Nat.ble (j+k+1) l=true):n+j+k<n+l:=ltkk (Nat.add_assoc n j k) rfl h
theorem ltn0{n l:Nat}(h:Nat.ble 1 l=true):n<n+l:=ltkk (Nat.add_zero n).symm rfl (by rw [Nat.zero_add];exact h)
theorem lexr{X n j:Nat}(e:X=n):X≤n+j:=e▸Nat.le_add_right _ _
theorem lex3{X n j k:Nat}(e:X=n):X≤n+j+k:=e▸Nat.add_assoc X j k▸Nat.le_add_right _ _
theorem lexa{X n a i:Nat}(e:X=n)(h:a=n+i):X≤a:=by subst e;exact lek h
theorem lexl{X n a i:Nat}(e:X=n)(h:n+i≤a):X≤a:=e▸Nat.le_trans (Nat.le_add_right _ _) h
theorem ltx{X n a j:Nat}(h:a<X)(e:X=n):a<n+j:=lta (e▸h)
theorem nex{X n a j:Nat}(h:a<X)(e:X=n):a≠n+j:=Nat.ne_of_lt (ltx h e)
theorem nex3{X n a j k:Nat}(h:a<X)(e:X=n):a≠n+j+k:=Nat.add_assoc n j k▸nex h e
theorem nexb{X n a b i:Nat}(h:a<X)(e:X=n)(hb:b=n+i):a≠b:=hb▸nex h e
theorem nexb'{X n a b i:Nat}(h:a<X)(e:X=n)(hb:b=n+i):b≠a:=(nexb h e hb).symm
theorem nel3{n a j k l:Nat}(h:n+l≤a)(q:Nat.ble (j+k+1) l=true):a≠n+j+k:=Nat.ne_of_gt (Nat.lt_of_lt_of_le (ltk3 q) h)
theorem eqls{s t:Nat}(h:s<t+1)(h2:s ≥ t):s=t:=Nat.le_antisymm (Nat.le_of_lt_succ h) h2
theorem lele{a b c:Nat}(h:a≤b)(k:Nat.ble b c=true):a≤c:=Nat.le_trans h (Nat.le_of_ble_eq_true k)
theorem ltle{a b c:Nat}(h:a≤b)(k:Nat.ble (b+1) c=true):a<c:=Nat.lt_of_le_of_lt h (Nat.le_of_ble_eq_true k)
theorem ltlel{a b c d:Nat}(h:b<c)(h1:a≤b)(k:Nat.ble c (d+1)=true):a≤d:=Nat.le_of_lt_succ (Nat.lt_of_le_of_lt h1 (ltn h k))
theorem lteq{j t:Nat}(h:j=t):j<t+1:=h▸Nat.lt_succ_self _
theorem lemin{a b i:Nat}(h:i ≥ a):min a b≤i:=Nat.le_trans (Nat.min_le_left _ _) h
theorem ltmr{a b i:Nat}(h:i<min a b):i<b:=Nat.lt_of_lt_of_le h (Nat.min_le_right _ _)
theorem neapp{a:Nat}{H X:List AO}(h:a<(H++X).length):a≠(H++X).length:=Nat.ne_of_lt h
theorem ltapp{a:Nat}{H X:List AO}(h:a<H.length):a<(H++X).length:=Nat.lt_of_lt_of_le h (by rw [List.length_append];exact Nat.le_add_right _ _)
theorem ltd{k s:Nat}(h:decide ((k:Int)<(s:Int))=true):k<s:=Int.ofNat_lt.mp (of_decide_eq_true h)
theorem ltsub{m s k d:Nat}(h1:m=s-k)(h2:k<s)(h3:0<d):s-(k+d)<m:=h1▸Nat.sub_lt_sub_left h2 (Nat.lt_add_of_pos_right h3)
theorem ltsk{m s k e:Nat}(h1:m=s-k)(h2:decide ((k:Int)<(s:Int))=true)(h3:k+1≤e):s-e<m:=h1▸Nat.sub_lt_sub_left (ltd h2) h3
theorem gm{c t s k:Nat}(h1:min c t=c)(h2:s-k=t+1):k+(c+1)≤s:=
 Nat.le_trans (Nat.add_le_add_left (Nat.succ_le_succ (h1▸Nat.min_le_right c t)) k) (Nat.le_of_eq ((congrArg (k + ·) h2).symm.trans (Nat.add_sub_of_le (Nat.le_of_lt (Nat.lt_of_sub_pos (h2▸Nat.succ_pos t))))))
theorem m7{m t c d:Nat}(h:m+t=c)(h2:t≤d)(h3:Nat.ble (d+1) c=true):m-1<m:=
 Nat.sub_lt (Nat.pos_of_ne_zero fun e=>Nat.ne_of_lt (Nat.lt_of_le_of_lt h2 (Nat.le_of_ble_eq_true h3)) (h▸e▸(Nat.zero_add t).symm)) Nat.one_pos
theorem m8{m t c d:Nat}(h:m+t=c)(h2:t≤d)(h3:Nat.ble (d+1) c=true):m-1+(t+1)=c:=by
 have q:=m7 h h2 h3;rw [Nat.add_comm t 1,← Nat.add_assoc,Nat.sub_add_cancel (Nat.lt_of_le_of_lt (Nat.zero_le _) q)];exact h
theorem eqt{t n:Nat}(h1:t ≥ n)(h2:t-n<1):t=n:=Nat.le_antisymm (Nat.le_of_sub_eq_zero (Nat.lt_one_iff.mp h2)) h1
section
variable {α β:Type}{σ:St}{Q:β→St→Prop}
theorem uAb{m:M α}{f:α→M β}(h:Ok m σ fun a σ'=>Ok (f a) σ' Q):Ok (M.bind m f) σ Q:=by
 obtain ⟨a,σ1,e1,b,σ2,e2,q⟩:=h;exact ⟨b,σ2,by unfold M.bind;rw [e1];exact e2,q⟩
theorem uDh{m:M α}{f:α→M β}{x:AX}{E:St→Prop}(h:Ok m σ fun a σ'=>Ex (f a) σ' x E):Ex (M.bind m f) σ x E:=by
 obtain ⟨a,σ1,e1,σ2,e2,q⟩:=h;exact ⟨σ2,by unfold M.bind;rw [e1];exact e2,q⟩
theorem uFs{m:M α}{f:α→M β}{x:AX}{E:St→Prop}(h:Ex m σ x E):Ex (M.bind m f) σ x E:=by
 obtain ⟨σ1,e1,q⟩:=h;exact ⟨σ1,by unfold M.bind;rw [e1],q⟩
theorem uAf{a:β}(h:Q a σ):Ok (M.pure a) σ Q:=⟨a,σ,rfl,h⟩
theorem uDi{m:M β}{a:β}{σ':St}(e:m σ=some (.ok a,σ'))(h:Q a σ'):Ok m σ Q:=⟨a,σ',e,h⟩
theorem uAc{m:M β}{Q':β→St→Prop}(h:Ok m σ Q')(i:∀ a σ',Q' a σ'→Q a σ'):Ok m σ Q:=by
 obtain ⟨a,σ1,e1,q⟩:=h;exact ⟨a,σ1,e1,i _ _ q⟩
theorem uDm{m:M β}(h:Ok m σ Q):Ok (calm m) σ Q:=by
 obtain ⟨a,σ1,e1,q⟩:=h;exact ⟨a,σ1,by unfold calm;rw [e1],q⟩
theorem uIp{m:M β}{L:List (Str×AV)}(h:Ok m ⟨L,σ.H⟩ fun a σ'=>Q a ⟨σ.L,σ'.H⟩):Ok (uGu L m) σ Q:=by
 obtain ⟨a,σ1,e1,q⟩:=h;exact ⟨a,_,by unfold uGu;rw [e1],q⟩
theorem uA9{m n:M β}{c:Prop}[Decidable c](h:c)(h1:Ok m σ Q):Ok (if c then m else n) σ Q:=by rw [if_pos h];exact h1
theorem uB9{m n:M β}{c:Prop}[Decidable c](h:¬ c)(h1:Ok n σ Q):Ok (if c then m else n) σ Q:=by rw [if_neg h];exact h1
end
noncomputable def Ext(H H':List AO):Prop:=∀ (i:Nat) (o:AO),H[i]?=some o→H'[i]?=some o
structure Kp{α:Type}(c:α)(L:List (Str×AV))(H:List AO)(b:α)(σ:St):Prop where
 e:b=c
 l:σ.L=L
 x:Ext H σ.H
structure KpR(R:AV→List AO→Prop)(L:List (Str×AV))(H:List AO)(b:AV)(σ:St):Prop where
 r:R b σ.H
 l:σ.L=L
 x:Ext H σ.H
theorem Ext.refl(H:List AO):Ext H H:=fun _ _ h=>h
theorem Ext.trans{A B C:List AO}(a:Ext A B)(b:Ext B C):Ext A C:=fun i o h=>b i o (a i o h)
theorem uAe{H:List AO}{i:Nat}{o:AO}(h:H[i]?=some o):i<H.length:=by
 rcases Nat.lt_or_ge i H.length with q|q
 ·exact q
 ·rw [List.getElem?_eq_none q] at h;cases h
theorem uAl(H:List AO)(o:AO):(H++[o])[H.length]?=some o:=by simp
theorem uAh{H:List AO}{i:Nat}{o:AO}{X:List AO}(h:H[i]?=some o):(H++X)[i]?=some o:=by
 rw [List.getElem?_append_left (uAe h)];exact h
theorem Ext.app(H X:List AO):Ext H (H++X):=fun i o h=>uAh h
theorem uVk{H A X:List AO}(h:Ext H A):Ext H (A++X):=h.trans (Ext.app _ _)
theorem Ext.le{H H':List AO}(x:Ext H H'):H.length≤H'.length:=by
 rcases Nat.lt_or_ge H'.length H.length with q|q
 ·have h:H[H'.length]?=some H[H'.length]:=List.getElem?_eq_getElem q;have:=uAe (x _ _ h);lia
 ·exact q
theorem uUi{H H':List AO}{i:Nat}{o:AO}(x:Ext H H')(h:H[i]?=some o):H'[i]?=some o:=x i o h
theorem set_same{H:List AO}{i:Nat}{o o':AO}(h:H[i]?=some o):(H.set i o')[i]?=some o':=by
 rw [List.getElem?_set_self (uAe h)]
theorem uAa{H:List AO}{i j:Nat}{o o':AO}(ne:i≠j)(h:H[j]?=some o):(H.set i o')[j]?=some o:=by
 rw [List.getElem?_set_ne ne];exact h
noncomputable def tagO:AO→Nat
 | .list _=>0
 | .tup _=>1
 | .dict ..=>2
 | .sset _=>3
 | .inst ..=>4
 | .idict _=>5
 | .slots ..=>6
 | .cell _=>7
 | .obj=>8
 | .liter ..=>9
 | .meth ..=>10
 | .rng ..=>11
 | .dvals _=>12
theorem uAi{H:List AO}{i j:Nat}{o p:AO}(h1:H[i]?=some o)(h2:H[j]?=some p)(h:Nat.beq (tagO o) (tagO p)=false):i≠j:=fun e=>by
 subst e;rw [h1] at h2;cases h2;exact Nat.ne_of_beq_eq_false h rfl
theorem uOt{β:Type}(x:Str)(v:β):∀ L:List (Str×β),(uD0 x v L).lookup x=some v:=by
 intro zz;induction zz with
 | nil=>
  show List.lookup x [(x,v)]=_;rw [List.lookup_cons,beq_self_eq_true]
 | cons zq L ih=>
  obtain ⟨y,u⟩:=zq;rw [uC4];cases h:x==y
  ·simp only [Bool.false_eq_true,if_false,List.lookup_cons,h];exact ih
  ·simp [List.lookup_cons]
theorem uZ9{β:Type}{x y:Str}{v:β}{o:Option β}(h:(y==x)=false):∀ {L:List (Str×β)},L.lookup y=o→(uD0 x v L).lookup y=o:=by
 intro zz;induction zz with
 | nil=>
  intro e;show List.lookup y [(x,v)]=o;rw [List.lookup_cons,h];exact e
 | cons zq L ih=>
  obtain ⟨z,u⟩:=zq;intro e;rw [uC4];cases q:x==z
  ·rw [List.lookup_cons] at e;simp only [Bool.false_eq_true,if_false,List.lookup_cons];cases hz:y==z
   ·rw [hz] at e;exact ih e
   ·rw [hz] at e;exact e
  ·have:x=z:=LawfulBEq.eq_of_beq q;subst this;rw [List.lookup_cons,h] at e;simp only [if_true,List.lookup_cons,h];exact e
section
variable {P:uBb}{F:FE}{L:List (Str×AV)}{H:List AO}{x:Str}{v w:AV}
theorem uQy{Q:AV→St→Prop}(k:F.kind x=some .local)(h:L.lookup x=some v)(q:Q v ⟨L,H⟩):Ok (loadName P F x) ⟨L,H⟩ Q:=⟨v,_,by unfold loadName;rw [k];simp only [h];rfl,q⟩
theorem uHv{Q:Unit→St→Prop}(k:F.kind x=some .local)(q:Q () ⟨uD0 x v L,H⟩):Ok (storeName F x v) ⟨L,H⟩ Q:=⟨(),_,by unfold storeName;rw [k],q⟩
end
section
variable {P:uBb}{L:List (Str×AV)}{H:List AO}{a d C:Nat}{x:Str}{v w:AV}{Q:AV→St→Prop}{U:Unit→St→Prop}{B:Bool→St→Prop}
theorem uP9{es:List (Str×AV)}{xs:List Str}(h1:H[a]?=some (.inst C d))(h2:H[d]?=some (.idict es))(c:P.attr.lookup C=some xs)(c2:xs.contains x=true)(e:es.lookup x=some v)(k:okV v=true)(q:Q v ⟨L,H⟩):Ok (getAttr P (.ref a) x) ⟨L,H⟩ Q:=
 ⟨v,_,(congrArg (uDe P a x ⟨L,H⟩) h1).trans (ob c ((if_pos c2).trans (ob (ob h2 rfl) (ob e (if_pos k))))),q⟩
theorem uQv{es:List (Str×AV)}{vs:List (Option AV)}{j:Nat}(h1:H[a]?=some (.slots C d vs))(h2:H[d]?=some (.idict es))(c:(P.slot.lookup C).bind (·.lookup x)=some j)(e:vs[j]?=some (some v))(k:okV v=true)(q:Q v ⟨L,H⟩):Ok (getAttr P (.ref a) x) ⟨L,H⟩ Q:=
 ⟨v,_,(congrArg (uDe P a x ⟨L,H⟩) h1).trans (ob (ob h2 rfl) (ob c (ob (ob e rfl) (if_pos k)))),q⟩
theorem uQx {xs:List AV} (h1:H[a]?=some (.list xs)) (c:(x==Str.ofString "append")=true) (q:Q (.ref H.length) ⟨L,H++[.meth "list.append" a]⟩):Ok (getAttr P (.ref a) x) ⟨L,H⟩ Q:=
 ⟨_,_,(congrArg (uDe P a x ⟨L,H⟩) h1).trans (if_pos c),q⟩
theorem uPo {l p:Nat} (h1:H[a]?=some (.liter l (some p))) (c:(x==Str.ofString "__next__")=true) (q:Q (.ref H.length) ⟨L,H++[.meth "list_iterator.__next__" a]⟩):Ok (getAttr P (.ref a) x) ⟨L,H⟩ Q:=
 ⟨_,_,(congrArg (uDe P a x ⟨L,H⟩) h1).trans (if_pos c),q⟩
theorem uTq{es:List (Str×AV)}{xs:List Str}(h1:H[a]?=some (.inst C d))(h2:H[d]?=some (.idict es))(c:P.attr.lookup C=some xs)(c2:xs.contains x=true)(k:es.length<900)(q:U () ⟨L,H.set d (.idict (uD0 x v es))⟩):Ok (setAttr P (.ref a) x v) ⟨L,H⟩ U:=
 ⟨_,_,(congrArg (uEm P a x v ⟨L,H⟩) h1).trans (ob c ((if_pos c2).trans (ob (ob h2 rfl) (if_pos k)))),q⟩
theorem uUe{es:List (Str×AV)}{vs:List (Option AV)}{j:Nat}(h1:H[a]?=some (.slots C d vs))(h2:H[d]?=some (.idict es))(c:(P.slot.lookup C).bind (·.lookup x)=some j)(k:j<vs.length)(q:U () ⟨L,H.set a (.slots C d (vs.set j (some v)))⟩):Ok (setAttr P (.ref a) x v) ⟨L,H⟩ U:=
 ⟨_,_,(congrArg (uEm P a x v ⟨L,H⟩) h1).trans (ob (ob h2 rfl) (ob c (if_pos k))),q⟩
theorem uQ1{es:List (Str×AV)}{f:Addr}{Q:AV×List AV→St→Prop}(h1:H[a]?=some (.inst C d))(h2:H[d]?=some (.idict es))(c:(P.meth.lookup C).bind (·.lookup x)=some f)(e:(es.lookup x).isNone=true)(q:Q (.st (.ref f),[.ref a]) ⟨L,H⟩):Ok (getMethod P (.ref a) x) ⟨L,H⟩ Q:=
 ⟨_,_,(congrArg (getMethodO P (.ref a) x ⟨L,H⟩) h1).trans (ob c (ob (ob h2 rfl) (if_pos e))),q⟩
theorem pick{c:Prop}[Decidable c]{d id:String}{r:Option String}{w:AV}{σ:St}{z:Option (Res (AV×List AV)×St)}(h:(if c then some d else r)=some id)(k:¬ c→r=some id→z=some (.ok (.st (.builtin id),[w]),σ)):(if c then some (Res.ok (AV.st (.builtin d),[w]),σ) else z)=some (.ok (.st (.builtin id),[w]),σ):=by
 by_cases q:c
 ·rw [if_pos q] at h ⊢;cases h;rfl
 ·rw [if_neg q] at h ⊢;exact k q h
theorem uRc {xs:List AV} {id:String} {Q:AV×List AV→St→Prop} (h1:H[a]?=some (.list xs)) (c:(if x==Str.ofString "append" then some "list.append" else if x==Str.ofString "pop" then some "list.pop" else if x==Str.ofString "clear" then some "list.clear" else none)=some id) (q:Q (.st (.builtin id),[.ref a]) ⟨L,H⟩):Ok (getMethod P (.ref a) x) ⟨L,H⟩ Q:=by
 refine ⟨_,_,(congrArg (getMethodO P (.ref a) x ⟨L,H⟩) h1).trans ?_,q⟩;exact pick c fun _ c=>pick c fun _ c=>pick c fun _ h=>nn h
theorem uQt {es:List (List Nat×AV)} {g:Bool} {id:String} {Q:AV×List AV→St→Prop} (h1:H[a]?=some (.dict es g)) (c:(if x==Str.ofString "get" then some "dict.get" else if x==Str.ofString "values" then some "dict.values" else none)=some id) (q:Q (.st (.builtin id),[.ref a]) ⟨L,H⟩):Ok (getMethod P (.ref a) x) ⟨L,H⟩ Q:=by
 refine ⟨_,_,(congrArg (getMethodO P (.ref a) x ⟨L,H⟩) h1).trans ?_,q⟩;exact pick c fun _ c=>pick c fun _ h=>nn h
theorem uQu {ks:List (List Nat)} {Q:AV×List AV→St→Prop} (h1:H[a]?=some (.sset ks)) (c:(x==Str.ofString "add")=true) (q:Q (.st (.builtin "set.add"),[.ref a]) ⟨L,H⟩):Ok (getMethod P (.ref a) x) ⟨L,H⟩ Q:=
 ⟨_,_,(congrArg (getMethodO P (.ref a) x ⟨L,H⟩) h1).trans (if_pos c),q⟩
theorem uAt{xs:List AV}{k:Int}(h1:H[a]?=some (.list xs))(e:nth xs k=some v)(q:Q v ⟨L,H⟩):Ok (getItem (.ref a) (.int k)) ⟨L,H⟩ Q:=
 ⟨_,_,(congrArg (uDz (.int k) ⟨L,H⟩) h1).trans (congrArg (Option.map _) e),q⟩
theorem uH9{xs:List AV}{k:Int}(h1:H[a]?=some (.tup xs))(e:nth xs k=some v)(q:Q v ⟨L,H⟩):Ok (getItem (.ref a) (.int k)) ⟨L,H⟩ Q:=
 ⟨_,_,(congrArg (uDz (.int k) ⟨L,H⟩) h1).trans (congrArg (Option.map _) e),q⟩
theorem uFp{es:List (List Nat×AV)}{g:Bool}{k:List Nat}{t:Option Nat}(h1:H[a]?=some (.dict es g))(e:es.lookup k=some v)(q:Q v ⟨L,H⟩):Ok (getItem (.ref a) (.str k t)) ⟨L,H⟩ Q:=
 ⟨_,_,(congrArg (uDz (.str k t) ⟨L,H⟩) h1).trans (congrArg (Option.map _) e),q⟩
theorem uBw{s:List Nat}{g:Option Nat}{k:Int}(e:nthS s k=some v)(q:Q v ⟨L,H⟩):Ok (getItem (.str s g) (.int k)) ⟨L,H⟩ Q:=
 ⟨_,_,congrArg (Option.map _) e,q⟩
theorem uIu{xs:List AV}{lo hi:Option Int}(h1:H[a]?=some (.list xs))(q:Q (.ref H.length) ⟨L,H++[.list (cut xs lo hi)]⟩):Ok (uBh P (.ref a) lo hi) ⟨L,H⟩ Q:=
 ⟨_,_,ob (ob (f:=pL) h1 rfl) rfl,q⟩
theorem uMv{xs:List AV}{k:Int}(h1:H[a]?=some (.list xs))(e:0≤k∧k.toNat<xs.length)(q:U () ⟨L,H.set a (.list (xs.set k.toNat v))⟩):Ok (setItem (.ref a) (.int k) v) ⟨L,H⟩ U:=
 ⟨_,_,(congrArg (uEf a (.int k) v ⟨L,H⟩) h1).trans (if_pos e),q⟩
theorem uMy{es:List (List Nat×AV)}{g:Bool}{k:List Nat}{t:Option Nat}(h1:H[a]?=some (.dict es g))(e:es.length<900)(q:U () ⟨L,H.set a (.dict (setD k v es) g)⟩):Ok (setItem (.ref a) (.str k t) v) ⟨L,H⟩ U:=
 ⟨_,_,(congrArg (uEf a (.str k t) v ⟨L,H⟩) h1).trans (if_pos e),q⟩
theorem uUx{es:List (List Nat×AV)}{g:Bool}{k:List Nat}{t:Option Nat}(h1:H[a]?=some (.dict es g))(e:(es.lookup k).isSome=true∧es.length≤lz)(q:U () ⟨L,H.set a (.dict (es.filter fun e=>!(e.1==k)) false)⟩):Ok (delItem (.ref a) (.str k t)) ⟨L,H⟩ U:=
 ⟨_,_,(congrArg (uFr a (.str k t) ⟨L,H⟩) h1).trans (if_pos e),q⟩
theorem uAw{xs:List AV}(h1:H[a]?=some (.list xs))(e:xs.length<lz)(q:Q .none ⟨L,H.set a (.list (xs++[v]))⟩):Ok (uDb (.ref a) v) ⟨L,H⟩ Q:=
 ⟨_,_,ob (ob (f:=pL) h1 rfl) (if_pos e),q⟩
theorem uW4{xs:List AV}(h1:H[a]?=some (.list xs))(q:Q (.int xs.length) ⟨L,H⟩):Ok (bLen (.ref a)) ⟨L,H⟩ Q:=⟨_,_,congrArg (Option.map (lenK ⟨L,H⟩)) (ob (f:=lenO) h1 rfl),q⟩
theorem uWb{xs:List AV}(h1:H[a]?=some (.tup xs))(q:Q (.int xs.length) ⟨L,H⟩):Ok (bLen (.ref a)) ⟨L,H⟩ Q:=⟨_,_,congrArg (Option.map (lenK ⟨L,H⟩)) (ob (f:=lenO) h1 rfl),q⟩
theorem uSg{xs:List AV}(h1:H[a]?=some (.list xs))(e:xs.getLast?=some v)(q:Q v ⟨L,H.set a (.list xs.dropLast)⟩):Ok (bPop (.ref a)) ⟨L,H⟩ Q:=⟨_,_,ob (ob (f:=pL) h1 rfl) (by dsimp only;rw [e]),q⟩
theorem uRs{xs:List AV}(h1:H[a]?=some (.list xs))(q:Q .none ⟨L,H.set a (.list [])⟩):Ok (bClear (.ref a)) ⟨L,H⟩ Q:=⟨_,_,ob (ob (f:=pL) h1 rfl) rfl,q⟩
theorem uSv{es:List (List Nat×AV)}{g:Bool}{k:List Nat}{t:Option Nat}(h1:H[a]?=some (.dict es g))(q:Q ((es.lookup k).getD .none) ⟨L,H⟩):Ok (bGet (.ref a) (.str k t)) ⟨L,H⟩ Q:=⟨_,_,ob (ob (f:=pD) h1 rfl) rfl,q⟩
theorem uOy{es:List (List Nat×AV)}{g:Bool}(h1:H[a]?=some (.dict es g))(q:Q (.ref H.length) ⟨L,H++[.dvals a]⟩):Ok (uHx (.ref a)) ⟨L,H⟩ Q:=⟨_,_,ob (ob (f:=pD) h1 rfl) rfl,q⟩
theorem uXs{ks:List (List Nat)}{k:List Nat}{t:Option Nat}(h1:H[a]?=some (.sset ks))(e:ks.length<1000)(q:Q .none ⟨L,H.set a (.sset (if ks.contains k then ks else ks++[k]))⟩):Ok (bAdd (.ref a) (.str k t)) ⟨L,H⟩ Q:=⟨_,_,ob (ob (f:=pS) h1 rfl) (if_pos e),q⟩
theorem uH3{xs:List AV}{ts:List (List Nat)}{g:Option Nat}(h1:H[a]?=some (.list xs))(e:uGa xs=some ts)(z:(uEc [] ts).length≤lz)(q:Q (.str (uEc [] ts)) ⟨L,H⟩):Ok (bJoin (.str [] g) (.ref a)) ⟨L,H⟩ Q:=⟨_,_,ob (ob (f:=pL) h1 rfl) ((if_pos rfl).trans (by rw [e];exact congrFun (if_pos z) _)),q⟩
theorem uL2 {xs:List AV} {g:Option Nat} {k:List Nat} (h1:H[a]?=some (.list xs)) (e:k=sl "__getitem__") (q:Q (.bool true) ⟨L,H⟩):Ok (uFu (.ref a) (.str k g)) ⟨L,H⟩ Q:=⟨_,_,ob (ob (f:=pL) h1 rfl) (if_pos e),q⟩
theorem uUr{xs:List AV}(h1:H[a]?=some (.list xs))(q:Q (.ref H.length) ⟨L,H++[.liter a (some 0)]⟩):Ok (bIter (.ref a)) ⟨L,H⟩ Q:=⟨_,_,ob (ob (f:=pL) h1 rfl) rfl,q⟩
theorem uVi{xs:List AV}{l p:Nat}(h1:H[a]?=some (.liter l (some p)))(h2:H[l]?=some (.list xs))(e:xs[p]?=some v)(q:Q v ⟨L,H.set a (.liter l (some (p+1)))⟩):Ok (uFn (.ref a)) ⟨L,H⟩ Q:=⟨_,_,ob (ob (f:=pLi) h1 rfl) (ob (o:=some p) rfl (ob (ob (f:=pL) h2 rfl) (congrArg (nxV a l p ⟨L,H⟩) e))),q⟩
theorem uU4{xs:List AV}{l p:Nat}{E:St→Prop}(h1:H[a]?=some (.liter l (some p)))(h2:H[l]?=some (.list xs))(e:xs[p]?=none)(q:E ⟨L,H.set a (.liter l none)⟩):Ex (uFn (.ref a)) ⟨L,H⟩ .stop E:=⟨_,ob (ob (f:=pLi) h1 rfl) (ob (o:=some p) rfl (ob (ob (f:=pL) h2 rfl) (congrArg (nxV a l p ⟨L,H⟩) e))),q⟩
theorem uXh{xs:List AV}{ns:List Int}(h1:H[a]?=some (.list xs))(e:uGz xs=some ns)(q:Q (.int ns.sum) ⟨L,H⟩):Ok (bSum (.ref a)) ⟨L,H⟩ Q:=⟨_,_,ob (ob (f:=pL) h1 rfl) (congrArg (Option.map _) e),q⟩
theorem uKi{m n:Int}(h1:H[a]?=some (.rng m n))(e:(small m&&small n)=true)(q:Q (.ref H.length) ⟨L,H++[.list (uCf m n)]⟩):Ok (tList (.ref a)) ⟨L,H⟩ Q:=⟨_,_,ob (ob (f:=pR) h1 rfl) (if_pos e),q⟩
theorem uQr{xs:List AV}(h1:H[a]?=some (.list xs))(q:Q (.ref H.length) ⟨L,H++[.tup xs]⟩):Ok (tTuple (.ref a)) ⟨L,H⟩ Q:=⟨_,_,ob (ob (f:=pL) h1 rfl) rfl,q⟩
theorem uT9 {xs:List AV} (h1:H[a]?=some (.tup xs)) (q:Q (.st (.type "tuple")) ⟨L,H⟩):Ok (tType (.ref a)) ⟨L,H⟩ Q:=⟨_,_,ob (ob (f:=pT) h1 rfl) rfl,q⟩
theorem uTh{xs:List AV}(h1:H[a]?=some (.list xs))(q:Q (.bool (decide (xs≠[]))) ⟨L,H⟩):Ok (tBool (.ref a)) ⟨L,H⟩ Q:=⟨_,_,ob (ob (f:=pL) h1 rfl) rfl,q⟩
theorem uFw{xs:List AV}{Q:It→St→Prop}(h1:H[a]?=some (.list xs))(q:Q (.lst a) ⟨L,H⟩):Ok (uB8 (.ref a)) ⟨L,H⟩ Q:=⟨_,_,congrArg (Option.map _) (ob (f:=pIt ⟨L,H⟩ a) h1 rfl),q⟩
theorem uR7{xs:List AV}{Q:It→St→Prop}(h1:H[a]?=some (.tup xs))(q:Q (.tup a xs) ⟨L,H⟩):Ok (uB8 (.ref a)) ⟨L,H⟩ Q:=⟨_,_,congrArg (Option.map _) (ob (f:=pIt ⟨L,H⟩ a) h1 rfl),q⟩
theorem uCu{m n:Int}{Q:It→St→Prop}(h1:H[a]?=some (.rng m n))(e:(small m&&small n)=true)(q:Q (.rng m n) ⟨L,H⟩):Ok (uB8 (.ref a)) ⟨L,H⟩ Q:=⟨_,_,congrArg (Option.map _) (ob (f:=pIt ⟨L,H⟩ a) h1 (if_pos e)),q⟩
theorem uPm{es:List (List Nat×AV)}{Q:It→St→Prop}(h1:H[a]?=some (.dict es true))(q:Q (.keys a (es.map (·.1))) ⟨L,H⟩):Ok (uB8 (.ref a)) ⟨L,H⟩ Q:=⟨_,_,congrArg (Option.map _) (ob (f:=pIt ⟨L,H⟩ a) h1 rfl),q⟩
theorem uPs{es:List (List Nat×AV)}{Q:It→St→Prop}(h1:H[a]?=some (.dvals d))(h2:H[d]?=some (.dict es true))(q:Q (.vals d es.length) ⟨L,H⟩):Ok (uB8 (.ref a)) ⟨L,H⟩ Q:=⟨_,_,congrArg (Option.map _) (ob (f:=pIt ⟨L,H⟩ a) h1 (congrArg (Option.map _) (ob (f:=pDt) h2 rfl))),q⟩
theorem uPe{s:List Nat}{g:Option Nat}{Q:It→St→Prop}(e:s.all (· < 128)=true)(q:Q (.str s) ⟨L,H⟩):Ok (uB8 (.str s g)) ⟨L,H⟩ Q:=⟨_,_,if_pos e,q⟩
theorem uMm{xs:List AV}(h1:H[a]?=some (.list xs))(q:B (decide (xs≠[])) ⟨L,H⟩):Ok (truthy (.ref a)) ⟨L,H⟩ B:=⟨_,_,by unfold truthy uE5;simp only [h1];rfl,q⟩
theorem uJc{i j:Nat}{xs ys:List AV}(h1:H[i]?=some (.list xs))(h2:H[j]?=some (.list ys))(e:(xs++ys).length≤lz)(q:Q (.ref H.length) ⟨L,H++[.list (xs++ys)]⟩):Ok (catL i j) ⟨L,H⟩ Q:=⟨_,_,ob (ob h1 rfl) (ob (ob h2 rfl) (if_pos e)),q⟩
theorem uWq{n:Int}(h1:H[a]?=some (.list [w]))(e:0≤n∧n≤64)(q:Q (.ref H.length) ⟨L,H++[.list (List.replicate n.toNat w)]⟩):Ok (repL a n) ⟨L,H⟩ Q:=⟨_,_,ob (ob h1 rfl) (if_pos e),q⟩
theorem uFd{xs:List AV}{b:Bool}(h1:H[a]?=some (.list xs))(e:memA v xs=some b)(q:B b ⟨L,H⟩):Ok (isIn v (.ref a)) ⟨L,H⟩ B:=⟨_,_,(congrArg (isInO v ⟨L,H⟩) h1).trans (congrArg (Option.map _) e),q⟩
theorem uXd{xs:List AV}{b:Bool}(h1:H[a]?=some (.tup xs))(e:memA v xs=some b)(q:B b ⟨L,H⟩):Ok (isIn v (.ref a)) ⟨L,H⟩ B:=⟨_,_,(congrArg (isInO v ⟨L,H⟩) h1).trans (congrArg (Option.map _) e),q⟩
theorem uW6{ks:List (List Nat)}{s:List Nat}{g:Option Nat}(h1:H[a]?=some (.sset ks))(q:B (ks.contains s) ⟨L,H⟩):Ok (isIn (.str s g) (.ref a)) ⟨L,H⟩ B:=⟨_,_,congrArg (isInO (.str s g) ⟨L,H⟩) h1,q⟩
theorem uX4{es:List (List Nat×AV)}{t:Bool}{s:List Nat}{g:Option Nat}(h1:H[a]?=some (.dict es t))(q:B ((es.lookup s).isSome) ⟨L,H⟩):Ok (isIn (.str s g) (.ref a)) ⟨L,H⟩ B:=⟨_,_,congrArg (isInO (.str s g) ⟨L,H⟩) h1,q⟩
theorem uN1{b:Bool}(e:eqA 8 H v w=some b)(q:B b ⟨L,H⟩):Ok (uB7 .Eq v w) ⟨L,H⟩ B:=⟨_,_,congrArg (Option.map _) e,q⟩
theorem uGl{b:Bool}(e:eqA 8 H v w=some b)(q:B (!b) ⟨L,H⟩):Ok (uB7 .NotEq v w) ⟨L,H⟩ B:=⟨_,_,congrArg (Option.map _) e,q⟩
theorem uUn{id:String}{i:Nat}{r:Rec}{vs:List AV}(h1:H[a]?=some (.meth id i))(q:Ok (uC8 id i vs) ⟨L,H⟩ Q):Ok (uF8 P r (.ref a) vs) ⟨L,H⟩ Q:=by
 obtain ⟨v,σ',e,q⟩:=q;exact ⟨v,σ',ob (ob (f:=pM) h1 rfl) e,q⟩
theorem uK4{r:Rec}{F:FE}{e:Expr}{p:Pos}{es:List Expr}{Q:List AV→St→Prop}(h:Ok (r.ev e F) ⟨L,H⟩ fun v σ=>∃ (a:Nat) (xs:List AV),v=.ref a∧(σ.H[a]?=some (.list xs)∨σ.H[a]?=some (.tup xs))∧Ok (evL r F es) σ fun ys σ'=>Q (xs++ys) σ'):Ok (evL r F (.Starred e p::es)) ⟨L,H⟩ Q:=by
 refine uAb (uAc h ?_);rintro v σ ⟨a,xs,rfl,h1,q⟩;refine uAb ⟨xs,σ,?_,uAb (uAc q fun ys σ' q=>uAf q)⟩;rcases h1 with h1|h1<;>simp only [h1]
end
noncomputable def retQ(Q:AV→St→Prop)(L:List (Str×AV)):Fl→St→Prop
 | .ret v,σ=>Q v ⟨L,σ.H⟩
 | .next,σ=>Q .none ⟨L,σ.H⟩
 | _,_=>False
noncomputable def flQ(I:St→Prop)(Q:Fl→St→Prop):Fl→St→Prop
 | .next,σ=>I σ
 | .cont,σ=>I σ
 | .brk,σ=>Q .next σ
 | .ret v,σ=>Q (.ret v) σ
noncomputable abbrev kIt(K:It→St→Prop):AV→St→Prop:=fun xv σ=>Ok (uB8 xv) σ K
section
variable {P:uBb}{r:Rec}{F:FE}{L:List (Str×AV)}{H:List AO}
theorem uOu{f:Fn}{bs:List (Str×AV)}{cs:List (Str×Nat)}{Q:AV→St→Prop}(q:Ok (r.ex f.body { scope:=f.scope,cells:=cs }) ⟨uCd f.scope bs,H⟩ (retQ Q L)):Ok (uG8 r f bs cs) ⟨L,H⟩ Q:=by
 obtain ⟨fl,σ',e,q⟩:=q;induction fl using Fl.casesOn with
 | ret v=>exact ⟨v,_,by unfold uG8;simp only [e],q⟩
 | next=>exact ⟨.none,_,by unfold uG8;simp only [e],q⟩
 | brk=>exact q.elim
 | cont=>exact q.elim
theorem uZk{a:Addr}{f:Fn}{args:List AV}{bs:List (Str×AV)}{Q:AV→St→Prop}(h:P.fn.lookup a=some f)(b:bindP f args ⟨L,H⟩=some (.ok bs,⟨L,H⟩))(c:uA7 bs f.scope.names=M.pure [])
  (q:Ok (r.ex f.body { scope:=f.scope,cells:=[] }) ⟨uCd f.scope bs,H⟩ (retQ Q L)):Ok (uF8 P r (.st (.ref a)) args) ⟨L,H⟩ Q:=by
 show Ok (match P.fn.lookup a with | some fn=>uBr r fn args | none=>uA1 P r a args) _ _;rw [h];refine uAb (uDi b (uAb ?_));rw [c];exact uAf (uOu q)
theorem uLz{f:AV}{vs:List AV}{σ:St}{Q:AV→St→Prop}(h:F.hm=false)(q:Ok (r.call f vs) σ Q):Ok (uA0 r F f vs) σ Q:=by
 unfold uA0;rw [h];exact q
theorem uBi{it:It}{xs:List AV}{I:Nat→St→Prop}{tgt:Expr}{body orelse:List Stmt}{Q:Fl→St→Prop}
  (hat:∀ p σ,I p σ→it.at p σ=some (.ok xs[p]?,σ))
  (step:∀ p v σ,xs[p]?=some v→I p σ→Ok (asg P r F tgt v) σ fun _ σ1=>Ok (r.ex body F) σ1 (flQ (I (p+1)) Q))
  (fin:∀ σ,I xs.length σ→Ok (r.ex orelse F) σ Q):∀ n p σ,p≤xs.length→xs.length<p+n→I p σ→Ok (uFi P r F tgt body orelse it n p) σ Q:=by
 intro zz;induction zz with
 | zero=>
  intro p σ h1 h2 i;lia
 | succ n ih=>
  intro p σ h1 h2 i;refine uAb (uDi (hat p σ i) ?_);rcases Nat.lt_or_ge p xs.length with h|h
  ·rw [List.getElem?_eq_getElem h];refine uAb (uAc (step p _ σ (List.getElem?_eq_getElem h) i) fun _ σ1 q=>uAb (uAc q fun fl σ2 q=>?_));induction fl using Fl.casesOn with
   | next=>exact ih (p+1) σ2 h (by lia) q
   | cont=>exact ih (p+1) σ2 h (by lia) q
   | brk=>exact uAf q
   | ret v=>exact uAf q
  ·rw [List.getElem?_eq_none h];have:p=xs.length:=by lia
   subst this;exact fin σ i
theorem uOd{l:Nat}{xs:List AV}{I:Nat→St→Prop}{x y:Str}{body orelse:List Stmt}{Q:Fl→St→Prop}
  (hat:∀ p σ,I p σ→σ.H[l]?=some (.list xs))
  (step:∀ p v σ,xs[p]?=some v→I p σ→Ok (storeName F x (.int p)) σ fun _ σ0=>Ok (storeName F y v) σ0 fun _ σ1=>Ok (r.ex body F) σ1 (flQ (I (p+1)) Q))
  (fin:∀ σ,I xs.length σ→Ok (r.ex orelse F) σ Q):∀ n p σ,p≤xs.length→xs.length<p+n→I p σ→Ok (uCq r F x y body orelse l n p) σ Q:=by
 intro zz;induction zz with
 | zero=>
  intro p σ h1 h2 i;lia
 | succ n ih=>
  intro p σ h1 h2 i;refine uAb (uDi (a:=xs[p]?) (σ':=σ) (congrArg (Option.map _) (ob (f:=pL) (hat p σ i) rfl)) ?_);rcases Nat.lt_or_ge p xs.length with h|h
  ·rw [List.getElem?_eq_getElem h];refine uAb (uAc (step p _ σ (List.getElem?_eq_getElem h) i) fun _ σ1 q=>uAb (uAc q fun _ σ1 q=>uAb (uAc q fun fl σ2 q=>?_)));induction fl using Fl.casesOn with
   | next=>exact ih (p+1) σ2 h (by lia) q
   | cont=>exact ih (p+1) σ2 h (by lia) q
   | brk=>exact uAf q
   | ret v=>exact uAf q
  ·rw [List.getElem?_eq_none h];have:p=xs.length:=by lia
   subst this;exact fin σ i
theorem uCj{I:Nat→St→Prop}{t:Expr}{body orelse:List Stmt}{Q:Fl→St→Prop}
  (step:∀ k σ,I k σ→Ok (r.tst t F) σ fun b σ1=>(b=true→Ok (r.ex body F) σ1 (flQ (fun σ2=>∃ j,j<k∧I j σ2) Q))∧(b=false→Ok (r.ex orelse F) σ1 Q)):∀ n k σ,k<n→I k σ→Ok (uCp r F t body orelse n) σ Q:=by
 intro zz;induction zz with
 | zero=>
  intro k σ h i;lia
 | succ n ih=>
  intro k σ h i;refine uAb (uAc (step k σ i) fun b σ1 q=>?_);induction b using Bool.casesOn with
  | false=>exact uB9 Bool.false_ne_true (q.2 rfl)
  | true=>
   refine uA9 rfl (uAb (uAc (q.1 rfl) fun fl σ2 q=>?_));induction fl using Fl.casesOn with
   | next=>obtain ⟨j,hj,q⟩:=q;exact ih j σ2 (by lia) q
   | cont=>obtain ⟨j,hj,q⟩:=q;exact ih j σ2 (by lia) q
   | brk=>exact uAf q
   | ret v=>exact uAf q
theorem uBp{l p:Nat}{xs:List AV}(h:H[l]?=some (.list xs)):(It.lst l).at p ⟨L,H⟩=some (.ok xs[p]?,⟨L,H⟩):=congrArg (Option.map _) (ob (f:=pL) h rfl)
theorem uLa{l p:Nat}{xs:List AV}(h:H[l]?=some (.tup xs)):(It.tup l xs).at p ⟨L,H⟩=some (.ok xs[p]?,⟨L,H⟩):=ob (ob (f:=pT) h rfl) (if_pos rfl)
noncomputable def uIi(n:Nat):List AV:=(List.range n).map fun (k:Nat)=>AV.int k
theorem uE8{n p:Nat}{σ:St}:(It.rng 0 n).at p σ=some (.ok (uIi n)[p]?,σ):=by
 unfold It.at uIi;dsimp only;rw [List.getElem?_map];rcases Nat.lt_or_ge p n with h|h
 ·rw [if_pos (by lia),List.getElem?_range h];simp
 ·rw [if_neg (by lia),List.getElem?_eq_none (by simpa using h)];rfl
theorem uYl{s:List Nat}{p:Nat}{σ:St}:(It.str s).at p σ=some (.ok (s.map fun c=>AV.str [c] none)[p]?,σ):=by
 unfold It.at
 dsimp only;rw [List.getElem?_map]
theorem uS4{d p:Nat}{es:List (List Nat×AV)}(h:H[d]?=some (.dict es true))(k:∀ e∈es,e.1.length≤lz):(It.keys d (es.map (·.1))).at p ⟨L,H⟩=some (.ok (es.map fun e=>AV.str e.1 none)[p]?,⟨L,H⟩):=by
 refine ob (ob (f:=pDt) h rfl) ((if_pos rfl).trans ?_);rw [List.getElem?_map,List.getElem?_map];rcases q:es[p]? with _|e
 ·rfl
 ·exact if_pos (k e (List.mem_of_getElem? q))
theorem uT5{d p:Nat}{es:List (List Nat×AV)}(h:H[d]?=some (.dict es true)):(It.vals d es.length).at p ⟨L,H⟩=some (.ok (es.map (·.2))[p]?,⟨L,H⟩):=by
 exact ob (ob (f:=pDt) h rfl) ((if_pos rfl).trans (by rw [List.getElem?_map]))
noncomputable def uCl(a:Nat)(H H':List AO):Prop:=∀ (i:Nat) (o:AO),i≠a→H[i]?=some o→H'[i]?=some o
theorem Ext.x{a:Nat}{H H':List AO}(x:Ext H H'):uCl a H H':=fun i o _ h=>x i o h
theorem uCl.set{a:Nat}{H:List AO}{o:AO}:uCl a H (H.set a o):=fun i o' ne h=>by rw [List.getElem?_set_ne (Ne.symm ne)];exact h
theorem uCl.trans{a:Nat}{A B C:List AO}(x:uCl a A B)(y:uCl a B C):uCl a A C:=fun i o ne h=>y i o ne (x i o ne h)
theorem Ext.set{H0 H:List AO}{a:Nat}{o:AO}(x:Ext H0 H)(h:H0.length≤a):Ext H0 (H.set a o):=fun i o' q=>by
 have:=uAe q;rw [List.getElem?_set_ne (by lia)];exact x i o' q
inductive uG0(R:AV→AV→Prop):List AV→List AV→Prop
 | nil:uG0 R [] []
 | cons {x y:AV} {xs ys:List AV}:R x y→uG0 R xs ys→uG0 R (x::xs) (y::ys)
theorem uG0.mono{R S:AV→AV→Prop}{xs ys:List AV}(h:uG0 R xs ys)(i:∀ x y,R x y→S x y):uG0 S xs ys:=by
 induction h with
 | nil=>exact .nil
 | cons a _ ih=>exact .cons (i _ _ a) ih
theorem uG0.snoc{R:AV→AV→Prop}{xs ys:List AV}{x y:AV}(h:uG0 R xs ys)(r:R x y):uG0 R (xs++[x]) (ys++[y]):=by
 induction h with
 | nil=>exact .cons r .nil
 | cons a _ ih=>exact .cons a ih
theorem uG0.len{R:AV→AV→Prop}{xs ys:List AV}(h:uG0 R xs ys):ys.length=xs.length:=by
 induction h with
 | nil=>rfl
 | cons _ _ ih=>simp [ih]
theorem uG0.eq{f:AV→AV}{xs ys:List AV}(h:uG0 (fun x y=>y=f x) xs ys):ys=xs.map f:=by
 induction h with
 | nil=>rfl
 | cons a _ ih=>rw [a,ih];rfl
noncomputable def cndM(r:Rec)(F:FE)(ifs:List Expr):M Bool:=match ifs with | []=>M.pure true | [c]=>r.tst c F | _=>M.fail
theorem uJl{it:It}{xs:List AV}{acc:Nat}{H0:List AO}{x:Str}{tp:Pos}{elt:Expr}{ifs:List Expr}{c:AV→Bool}{R:AV→AV→List AO→Prop}
  (ha:H0.length≤acc) (z:xs.length<lz) (kx:F.kind x=some .local)
  (mono:∀ v y A B,uCl acc A B→R v y A→R v y B)
  (hat:∀ p L H,Ext H0 H→it.at p ⟨L,H⟩=some (.ok xs[p]?,⟨L,H⟩))
  (tst:∀ v∈xs,∀ H,Ext H0 H→Ok (cndM r F ifs) ⟨[(x,v)],H⟩ (Kp (c v) [(x,v)] H))
  (ev:∀ v∈xs,c v=true→∀ H,acc<H.length→Ext H0 H→Ok (r.ev elt F) ⟨[(x,v)],H⟩ (KpR (R v) [(x,v)] H)) :
  ∀ n p ps ys L H,ps=(xs.take p).filter c→p≤xs.length→xs.length<p+n→(L=[]∨∃ w,L=[(x,w)])→Ext H0 H→H[acc]?=some (.list ys)→uG0 (fun v y=>R v y H) ps ys→
   Ok (uDj P r F (.Name x tp) elt ifs it acc n p) ⟨L,H⟩ fun _ σ=>Ext H0 σ.H∧∃ ys,σ.H[acc]?=some (.list ys)∧uG0 (fun v y=>R v y σ.H) (xs.filter c) ys:=by
 intro zz;induction zz with
 | zero=>
  intro p ps ys L H e h1 h2 l ext g al;lia
 | succ n ih=>
  intro p ps ys L H e h1 h2 l ext g al;refine uAb (uDi (hat p L H ext) ?_);rcases Nat.lt_or_ge p xs.length with h|h
  ·rw [List.getElem?_eq_getElem h];have hm:xs[p]∈xs:=List.getElem_mem h;have hl:uD0 x xs[p] L=[(x,xs[p])]:=by
    rcases l with rfl|⟨w,rfl⟩
    ·rfl
    ·rw [uC4,beq_self_eq_true];rfl
   have htk:(xs.take (p+1)).filter c=ps++(if c xs[p] then [xs[p]] else []):=by
    rw [List.take_add_one,List.getElem?_eq_getElem h,List.filter_append,e]
    congr 1
    show [xs[p]].filter c=_;rw [List.filter_cons];cases c xs[p]<;>rfl
   refine uAb (uHv kx ?_);rw [hl];refine uAb (uAc (tst _ hm H ext) ?_);rintro b ⟨L1,H1⟩ ⟨rfl,rfl,x1⟩;refine uAb ?_;generalize hc:c xs[p]=zz;induction zz using Bool.casesOn with
   | false=>
    rw [hc] at htk;refine uB9 Bool.false_ne_true (uAf ?_);exact ih (p+1) _ ys _ H1 (by rw [htk];simp) h (by lia) (.inr ⟨_,rfl⟩) (ext.trans x1) (x1 _ _ g) (al.mono fun v y q=>mono _ _ _ _ x1.x q)
   | true=>
    rw [hc] at htk;refine uA9 rfl (uAb (uAc (ev _ hm hc H1 (uAe (x1 _ _ g)) (ext.trans x1)) ?_));rintro y ⟨L2,H2⟩ ⟨rr,rfl,x2⟩;have g2:=x2 _ _ (x1 _ _ g);have hlen:ys.length<lz:=by
     rw [al.len,e];exact Nat.lt_of_le_of_lt (Nat.le_trans (List.length_filter_le _ _) (List.length_take_le' _ _)) z
    refine uAb (uAw g2 hlen (uAf ?_));have al2:uG0 (fun v u=>R v u (H2.set acc (.list (ys++[y])))) (ps++[xs[p]]) (ys++[y]):=
     (al.mono fun v y q=>mono _ _ _ _ ((x1.x).trans ((x2.x).trans uCl.set)) q).snoc (mono _ _ _ _ uCl.set rr)
    exact ih (p+1) (ps++[xs[p]]) _ _ _ htk.symm h (by lia) (.inr ⟨_,rfl⟩) ((ext.trans (x1.trans x2)).set ha) (set_same g2) al2
  ·rw [List.getElem?_eq_none h];have:p=xs.length:=by lia
   subst this;rw [List.take_length] at e;subst e;exact uAf ⟨ext,ys,g,al⟩
noncomputable def compK(P:uBb)(r:Rec)(F:FE)(x:Str)(tp:Pos)(elt:Expr)(ifs:List Expr)(Q:AV→St→Prop)(it:It)(σ:St):Prop:=
 Ok (calm (uGu [] (uDj P r F (.Name x tp) elt ifs it σ.H.length lim 0))) ⟨σ.L,σ.H++[.list []]⟩ fun _ σ3=>Q (.ref σ.H.length) σ3
theorem uAu{elt iter:Expr}{tx:Str}{tp p:Pos}{ifs:List Expr}{scope:Scope}{fc:List (Str×Nat)}{Q:AV→St→Prop}(hq:(F.hm||uB3 iter)=false)(hs:uCw scope∧scope.kind=.function)(hf:uBc F scope.names=some fc)(hn:uCs scope.names=M.pure [])
  (q:Ok (r.ev iter F) ⟨L,H⟩ (kIt (compK P r { scope:=scope,cells:=fc,hm:=F.hm } tx tp elt ifs Q))) :
  Ok (evE P r (.ListComp elt [⟨.Name tx tp,iter,ifs,0⟩] scope p) F) ⟨L,H⟩ Q:=by
 have e:evE P r (.ListComp elt [⟨.Name tx tp,iter,ifs,0⟩] scope p) F=M.bind (r.ev iter F) fun xv=>M.bind (uB8 xv) fun it=>M.bind (newN (.list [])) fun acc=>
    M.bind (calm (uGu [] (uDj P r { scope:=scope,cells:=fc,hm:=F.hm } (.Name tx tp) elt ifs it acc lim 0))) fun _=>M.pure (.ref acc):=by
  show (if (F.hm||uB3 iter)=true then M.fail else match (if uCw scope∧scope.kind=.function then uBc F scope.names else none) with | none=>M.fail | some fc=>_)=_;rw [hq,if_neg Bool.false_ne_true,if_pos hs,hf];simp only [hn];rfl
 rw [e];exact uAb (uAc q fun xv σ1 q=>uAb (uAc q fun it σ2 q=>uAb ⟨_,_,rfl,uAb (uAc q fun _ σ3 q=>uAf q)⟩))
theorem uAy{it:It}{xs:List AV}{x:Str}{tp:Pos}{elt:Expr}{ifs:List Expr}{Q:AV→St→Prop}(c:AV→Bool)(e:AV→AV)
  (z:xs.length<lim) (kx:F.kind x=some .local)
  (hat:∀ p L H',Ext H H'→it.at p ⟨L,H'⟩=some (.ok xs[p]?,⟨L,H'⟩))
  (tst:∀ v∈xs,∀ H',Ext H H'→Ok (cndM r F ifs) ⟨[(x,v)],H'⟩ (Kp (c v) [(x,v)] H'))
  (ev:∀ v∈xs,c v=true→∀ H',Ext H H'→Ok (r.ev elt F) ⟨[(x,v)],H'⟩ (Kp (e v) [(x,v)] H'))
  (q:∀ H',Ext H H'→H'[H.length]?=some (.list ((xs.filter c).map e))→Q (.ref H.length) ⟨L,H'⟩) :
  compK P r F x tp elt ifs Q it ⟨L,H⟩:=by
 refine uDm (uIp (uAc (uJl (H0:=H) (R:=fun v y _=>y=e v) (Nat.le_refl _) (Nat.lt_trans z (by decide)) kx (fun _ _ _ _ _ h=>h) hat tst (fun v hv hc H' _ x=>uAc (ev v hv hc H' x) fun _ _ q=>⟨q.e,q.l,q.x⟩) lim 0 [] [] [] _ (by simp) (Nat.zero_le _) (by simpa using z) (.inl rfl) (Ext.app _ _) (uAl _ _) .nil) ?_));rintro _ ⟨L',H'⟩ ⟨ext,ys,g,al⟩;rw [al.eq] at g;exact q H' ext g
theorem uIj{it:It}{xs:List AV}{x:Str}{tp:Pos}{elt:Expr}{ifs:List Expr}{Q:AV→St→Prop}(c:AV→Bool)(R:AV→AV→List AO→Prop)
  (z:xs.length<lim) (kx:F.kind x=some .local)
  (mono:∀ v y A B,uCl H.length A B→R v y A→R v y B)
  (hat:∀ p L H',Ext H H'→it.at p ⟨L,H'⟩=some (.ok xs[p]?,⟨L,H'⟩))
  (tst:∀ v∈xs,∀ H',Ext H H'→Ok (cndM r F ifs) ⟨[(x,v)],H'⟩ (Kp (c v) [(x,v)] H'))
  (ev:∀ v∈xs,c v=true→∀ H',H.length<H'.length→Ext H H'→Ok (r.ev elt F) ⟨[(x,v)],H'⟩ (KpR (R v) [(x,v)] H'))
  (q:∀ H' ys,Ext H H'→H'[H.length]?=some (.list ys)→uG0 (fun v y=>R v y H') (xs.filter c) ys→Q (.ref H.length) ⟨L,H'⟩) :
  compK P r F x tp elt ifs Q it ⟨L,H⟩:=by
 refine uDm (uIp (uAc (uJl (H0:=H) (R:=R) (Nat.le_refl _) (Nat.lt_trans z (by decide)) kx mono hat tst ev lim 0 [] [] [] _ (by simp) (Nat.zero_le _) (by simpa using z) (.inl rfl) (Ext.app _ _) (uAl _ _) .nil) ?_));rintro _ ⟨L',H'⟩ ⟨ext,ys,g,al⟩;exact q H' ys ext g al
end
noncomputable def loE(r:Rec)(F:FE):Option Expr→M AV
 | some e=>r.ev e F
 | none=>M.pure .none
noncomputable abbrev kU(Q:AV→St→Prop)(v:AV):Unit→St→Prop:=fun _ σ=>Q v σ
noncomputable abbrev kW(F:FE)(x:Str)(Q:AV→St→Prop):AV→St→Prop:=fun v σ=>Ok (storeName F x v) σ (kU Q v)
noncomputable abbrev kBin2(op:Operator)(x:AV)(Q:AV→St→Prop):AV→St→Prop:=fun y σ=>Ok (uFl op x y) σ Q
noncomputable abbrev kBin(P:uBb)(n:Nat)(F:FE)(b:Expr)(op:Operator)(Q:AV→St→Prop):AV→St→Prop:=fun x σ=>Ok ((run P n).ev b F) σ (kBin2 op x Q)
noncomputable abbrev kNeg(Q:AV→St→Prop):AV→St→Prop:=fun v σ=>∃ i,v=.int i∧Q (.int (-i)) σ
noncomputable abbrev kInv(Q:AV→St→Prop):AV→St→Prop:=fun v σ=>∃ i,v=.int i∧Q (.int (Builtin.bitNot i)) σ
noncomputable abbrev kIfx(P:uBb)(n:Nat)(F:FE)(a b:Expr)(Q:AV→St→Prop):Bool→St→Prop:=fun c σ=>(c=true→Ok ((run P n).ev a F) σ Q)∧(c=false→Ok ((run P n).ev b F) σ Q)
noncomputable abbrev kB(Q:AV→St→Prop):Bool→St→Prop:=fun c σ=>Q (.bool c) σ
noncomputable abbrev kCmp2(op:CmpOp)(x:AV)(B:Bool→St→Prop):AV→St→Prop:=fun y σ=>Ok (uB7 op x y) σ B
noncomputable abbrev kCmp(P:uBb)(n:Nat)(F:FE)(b:Expr)(op:CmpOp)(B:Bool→St→Prop):AV→St→Prop:=fun x σ=>Ok ((run P n).ev b F) σ (kCmp2 op x B)
noncomputable abbrev kOr2(P:uBb)(n:Nat)(F:FE)(b:Expr)(v:AV)(Q:AV→St→Prop):Bool→St→Prop:=fun t σ=>(t=true→Q v σ)∧(t=false→Ok ((run P n).ev b F) σ Q)
noncomputable abbrev kOr(P:uBb)(n:Nat)(F:FE)(b:Expr)(Q:AV→St→Prop):AV→St→Prop:=fun v σ=>Ok (truthy v) σ (kOr2 P n F b v Q)
noncomputable abbrev kAn2(P:uBb)(n:Nat)(F:FE)(b:Expr)(v:AV)(Q:AV→St→Prop):Bool→St→Prop:=fun t σ=>(t=true→Ok ((run P n).ev b F) σ Q)∧(t=false→Q v σ)
noncomputable abbrev kAn(P:uBb)(n:Nat)(F:FE)(b:Expr)(Q:AV→St→Prop):AV→St→Prop:=fun v σ=>Ok (truthy v) σ (kAn2 P n F b v Q)
noncomputable abbrev kC1(P:uBb)(n:Nat)(F:FE)(f:AV)(us:List AV)(Q:AV→St→Prop):List AV→St→Prop:=fun vs σ=>Ok (uA0 (run P n) F f (us++vs)) σ Q
noncomputable abbrev kC0(P:uBb)(n:Nat)(F:FE)(f:AV)(Q:AV→St→Prop):List AV→St→Prop:=fun vs σ=>Ok (uA0 (run P n) F f vs) σ Q
noncomputable abbrev kM2(P:uBb)(n:Nat)(F:FE)(args:List Expr)(Q:AV→St→Prop):AV×List AV→St→Prop:=fun m σ=>(uAz args||uGv P m.1)=true∧Ok (evL (run P n) F args) σ (kC1 P n F m.1 m.2 Q)
noncomputable abbrev kM(P:uBb)(n:Nat)(F:FE)(x:Str)(args:List Expr)(Q:AV→St→Prop):AV→St→Prop:=fun ov σ=>Ok (getMethod P ov x) σ (kM2 P n F args Q)
noncomputable abbrev kC(P:uBb)(n:Nat)(F:FE)(args:List Expr)(Q:AV→St→Prop):AV→St→Prop:=fun fv σ=>Ok (evL (run P n) F args) σ (kC0 P n F fv Q)
noncomputable abbrev kAt(P:uBb)(x:Str)(Q:AV→St→Prop):AV→St→Prop:=fun ov σ=>Ok (getAttr P ov x) σ Q
noncomputable abbrev kSl3(P:uBb)(ov lv:AV)(Q:AV→St→Prop):AV→St→Prop:=fun hv σ=>∃ l h,uB6 lv=some l∧uB6 hv=some h∧Ok (uBh P ov l h) σ Q
noncomputable abbrev kSl2(P:uBb)(n:Nat)(F:FE)(hi:Option Expr)(ov:AV)(Q:AV→St→Prop):AV→St→Prop:=fun lv σ=>Ok (loE (run P n) F hi) σ (kSl3 P ov lv Q)
noncomputable abbrev kSl(P:uBb)(n:Nat)(F:FE)(lo hi:Option Expr)(Q:AV→St→Prop):AV→St→Prop:=fun ov σ=>Ok (loE (run P n) F lo) σ (kSl2 P n F hi ov Q)
noncomputable abbrev kSb2(ov:AV)(Q:AV→St→Prop):AV→St→Prop:=fun iv σ=>Ok (getItem ov iv) σ Q
noncomputable abbrev kSb(P:uBb)(n:Nat)(F:FE)(i:Expr)(Q:AV→St→Prop):AV→St→Prop:=fun ov σ=>Ok ((run P n).ev i F) σ (kSb2 ov Q)
noncomputable abbrev kF(P:uBb)(n:Nat)(F:FE)(out:List Nat)(es:List Expr)(Q:AV→St→Prop):AV→St→Prop:=fun v σ=>∃ x g,v=.str x g∧(out++x).length≤lz∧Ok (uB4 (run P n) F (out++x) es) σ Q
noncomputable abbrev kL2(v:AV)(V:List AV→St→Prop):List AV→St→Prop:=fun vs σ=>V (v::vs) σ
noncomputable abbrev kL(P:uBb)(n:Nat)(F:FE)(es:List Expr)(V:List AV→St→Prop):AV→St→Prop:=fun v σ=>Ok (evL (run P n) F es) σ (kL2 v V)
noncomputable abbrev kNot(B:Bool→St→Prop):Bool→St→Prop:=fun b σ=>B (!b) σ
noncomputable abbrev kTA(P:uBb)(n:Nat)(F:FE)(b:Expr)(B:Bool→St→Prop):Bool→St→Prop:=fun c σ=>(c=true→Ok ((run P n).tst b F) σ B)∧(c=false→B false σ)
noncomputable abbrev kTO(P:uBb)(n:Nat)(F:FE)(b:Expr)(B:Bool→St→Prop):Bool→St→Prop:=fun c σ=>(c=false→Ok ((run P n).tst b F) σ B)∧(c=true→B true σ)
noncomputable abbrev kT3b(P:uBb)(n:Nat)(F:FE)(c:Expr)(B:Bool→St→Prop):Bool→St→Prop:=fun x σ=>(x=true→B true σ)∧(x=false→Ok ((run P n).tst c F) σ B)
noncomputable abbrev kT3(P:uBb)(n:Nat)(F:FE)(b c:Expr)(B:Bool→St→Prop):Bool→St→Prop:=fun x σ=>(x=true→B true σ)∧(x=false→Ok ((run P n).tst b F) σ (kT3b P n F c B))
noncomputable abbrev kTr(B:Bool→St→Prop):AV→St→Prop:=fun v σ=>Ok (truthy v) σ B
noncomputable abbrev kNx{α:Type}(X:Fl→St→Prop):α→St→Prop:=fun _ σ=>X .next σ
noncomputable abbrev kRt(X:Fl→St→Prop):AV→St→Prop:=fun v σ=>X (.ret v) σ
noncomputable abbrev kAs(P:uBb)(n:Nat)(F:FE)(t:Expr)(X:Fl→St→Prop):AV→St→Prop:=fun v σ=>Ok (asg P (run P n) F t v) σ (kNx X)
noncomputable abbrev kAs3(P:uBb)(n:Nat)(F:FE)(t':Expr)(v:AV)(X:Fl→St→Prop):Unit→St→Prop:=fun _ σ=>Ok (asg P (run P n) F t' v) σ (kNx X)
noncomputable abbrev kAs2(P:uBb)(n:Nat)(F:FE)(t t':Expr)(X:Fl→St→Prop):AV→St→Prop:=fun v σ=>Ok (asg P (run P n) F t v) σ (kAs3 P n F t' v X)
noncomputable abbrev kAg3(F:FE)(x:Str)(X:Fl→St→Prop):AV→St→Prop:=fun c σ=>Ok (storeName F x c) σ (kNx X)
noncomputable abbrev kAg2(F:FE)(x:Str)(op:Operator)(a:AV)(X:Fl→St→Prop):AV→St→Prop:=fun b σ=>Ok (augOp op a b) σ (kAg3 F x X)
noncomputable abbrev kAg(P:uBb)(n:Nat)(F:FE)(x:Str)(op:Operator)(e:Expr)(X:Fl→St→Prop):AV→St→Prop:=fun a σ=>Ok ((run P n).ev e F) σ (kAg2 F x op a X)
noncomputable abbrev kAh4(P:uBb)(x:Str)(ov:AV)(X:Fl→St→Prop):AV→St→Prop:=fun c σ=>Ok (setAttr P ov x c) σ (kNx X)
noncomputable abbrev kAh3(P:uBb)(x:Str)(op:Operator)(ov a:AV)(X:Fl→St→Prop):AV→St→Prop:=fun b σ=>Ok (augOp op a b) σ (kAh4 P x ov X)
noncomputable abbrev kAh2(P:uBb)(n:Nat)(F:FE)(x:Str)(op:Operator)(e:Expr)(ov:AV)(X:Fl→St→Prop):AV→St→Prop:=fun a σ=>Ok ((run P n).ev e F) σ (kAh3 P x op ov a X)
noncomputable abbrev kAh(P:uBb)(n:Nat)(F:FE)(x:Str)(op:Operator)(e:Expr)(X:Fl→St→Prop):AV→St→Prop:=fun ov σ=>Ok (getAttr P ov x) σ (kAh2 P n F x op e ov X)
noncomputable abbrev kIf(P:uBb)(n:Nat)(F:FE)(a b:List Stmt)(X:Fl→St→Prop):Bool→St→Prop:=fun c σ=>(c=true→Ok ((run P n).ex a F) σ X)∧(c=false→Ok ((run P n).ex b F) σ X)
noncomputable abbrev kEn(P:uBb)(n:Nat)(F:FE)(x y:Str)(body orelse:List Stmt)(X:Fl→St→Prop):AV→St→Prop:=fun v σ=>∃ l,v=.ref l∧Ok (uCq (run P n) F x y body orelse l lim 0) σ X
noncomputable abbrev kFr(P:uBb)(n:Nat)(F:FE)(tgt:Expr)(body orelse:List Stmt)(X:Fl→St→Prop):It→St→Prop:=fun it σ=>Ok (uFi P (run P n) F tgt body orelse it lim 0) σ X
noncomputable abbrev kAst(X:Fl→St→Prop):Bool→St→Prop:=fun b σ=>b=true∧X .next σ
noncomputable abbrev kD2(ov:AV)(X:Fl→St→Prop):AV→St→Prop:=fun iv σ=>Ok (delItem ov iv) σ (kNx X)
noncomputable abbrev kD(P:uBb)(n:Nat)(F:FE)(i:Expr)(X:Fl→St→Prop):AV→St→Prop:=fun ov σ=>Ok ((run P n).ev i F) σ (kD2 ov X)
noncomputable abbrev kAA(P:uBb)(x:Str)(v:AV)(U:Unit→St→Prop):AV→St→Prop:=fun ov σ=>Ok (setAttr P ov x v) σ U
noncomputable abbrev kAB2(ov v:AV)(U:Unit→St→Prop):AV→St→Prop:=fun iv σ=>Ok (setItem ov iv v) σ U
noncomputable abbrev kAB(P:uBb)(n:Nat)(F:FE)(i:Expr)(v:AV)(U:Unit→St→Prop):AV→St→Prop:=fun ov σ=>Ok ((run P n).ev i F) σ (kAB2 ov v U)
noncomputable abbrev kAC(F:FE)(ts:List Expr)(vs:List AV)(U:Unit→St→Prop):Unit→St→Prop:=fun _ σ=>Ok (uBn F ts vs) σ U
noncomputable def Frz{α:Type}(Q X:α→St→Prop):Prop:=∀ a σ,Q a σ→X a σ
theorem fz{α:Type}{Q X:α→St→Prop}{a:α}{σ:St}(h:Frz Q X)(q:Q a σ):X a σ:=h a σ q
section
variable {P:uBb}{n:Nat}{F:FE}{σ:St}{Q:AV→St→Prop}{B:Bool→St→Prop}{X:Fl→St→Prop}{p:Pos}
theorem uZd{f:AV}{vs:List AV}(q:Ok (uF8 P (run P n) f vs) σ Q):Ok ((run P (n+1)).call f vs) σ Q:=q
theorem u1c{b:List Stmt}(q:∀ Y:Fl→St→Prop,Frz X Y→Ok (exB P (run P n) F b) σ Y):Ok ((run P (n+1)).ex b F) σ X:=q X fun _ _ h=>h
theorem uZ6{b:List Stmt}(q:Ok (exB P (run P n) F b) σ X):Ok ((run P (n+1)).ex b F) σ X:=q
theorem uWh(q:X .next σ):Ok (exB P (run P n) F []) σ X:=uAf q
noncomputable def seqQ(P:uBb)(n:Nat)(F:FE)(xs:List Stmt)(X:Fl→St→Prop):Fl→St→Prop
 | .next,σ=>Ok (exB P (run P n) F xs) σ X
 | .brk,σ=>X .brk σ
 | .cont,σ=>X .cont σ
 | .ret v,σ=>X (.ret v) σ
theorem uAx{x:Stmt}{xs:List Stmt}(q:Ok (exS P (run P n) x F) σ (seqQ P n F xs X)):Ok (exB P (run P n) F (x::xs)) σ X:=by
 refine uAb (uAc q fun fl σ' q=>?_);induction fl using Fl.casesOn with
 | next=>exact q
 | brk=>exact uAf q
 | cont=>exact uAf q
 | ret v=>exact uAf q
theorem uNm{c:Const}{k:Nat}(q:Ok (uD2 c) σ Q):Ok ((run P (n+1)).ev (.Constant c k p) F) σ Q:=q
theorem uWw{x:Str}(q:Ok (loadName P F x) σ Q):Ok ((run P (n+1)).ev (.Name x p) F) σ Q:=q
theorem uR9{x:Str}{e:Expr}{p':Pos}(q:Ok ((run P n).ev e F) σ (kW F x Q)):Ok ((run P (n+1)).ev (.NamedExpr (.Name x p') e p) F) σ Q:=
 uAb (uAc q fun v σ q=>uAb (uAc q fun _ σ q=>uAf q))
theorem u0m{a b:Expr}{op:Operator}(q:Ok ((run P n).ev a F) σ (kBin P n F b op Q)):Ok ((run P (n+1)).ev (.BinOp a op b p) F) σ Q:=
 uAb (uAc q fun v σ q=>uAb (uAc q fun _ σ q=>q))
theorem uZ1{e:Expr}(q:Ok ((run P n).ev e F) σ (kNeg Q)):Ok ((run P (n+1)).ev (.UnaryOp .USub e p) F) σ Q:=
 uAb (uAc q fun v σ h=>by obtain ⟨i,rfl,q⟩:=h;exact uAf q)
theorem uZm{e:Expr}(q:Ok ((run P n).ev e F) σ (kInv Q)):Ok ((run P (n+1)).ev (.UnaryOp .Invert e p) F) σ Q:=
 uAb (uAc q fun v σ h=>by obtain ⟨i,rfl,q⟩:=h;exact uAf q)
theorem uJ6{t a b:Expr}(q:Ok ((run P n).tst t F) σ (kIfx P n F a b Q)):Ok ((run P (n+1)).ev (.IfExp t a b p) F) σ Q:=
 uAb (uAc q fun c σ q=>by cases c;exact uB9 Bool.false_ne_true (q.2 rfl);exact uA9 rfl (q.1 rfl))
noncomputable def listQ(Q:AV→St→Prop)(vs:List AV)(σ:St):Prop:=vs.length≤lz∧Q (.ref σ.H.length) ⟨σ.L,σ.H++[.list vs]⟩
noncomputable def tupQ(Q:AV→St→Prop)(vs:List AV)(σ:St):Prop:=vs.length≤lz∧Q (.ref σ.H.length) ⟨σ.L,σ.H++[.tup vs]⟩
theorem uY0{vs:List AV}{L:List (Str×AV)}{H:List AO}(h:Nat.ble vs.length lz=true)(q:Q (.ref H.length) ⟨L,H++[.list vs]⟩):listQ Q vs ⟨L,H⟩:=⟨Nat.le_of_ble_eq_true h,q⟩
theorem uZy{vs:List AV}{L:List (Str×AV)}{H:List AO}(h:Nat.ble vs.length lz=true)(q:Q (.ref H.length) ⟨L,H++[.tup vs]⟩):tupQ Q vs ⟨L,H⟩:=⟨Nat.le_of_ble_eq_true h,q⟩
theorem uY1{es:List Expr}(q:Ok (evL (run P n) F es) σ (listQ Q)):Ok ((run P (n+1)).ev (.List es p) F) σ Q:=
 uAb (uAc q fun vs σ q=>uA9 q.1 ⟨_,_,rfl,q.2⟩)
theorem uZe{L:List (Str×AV)}{H:List AO}(q:Q (.ref H.length) ⟨L,H++[.dict [] true]⟩):Ok ((run P (n+1)).ev (.Dict [] [] p) F) ⟨L,H⟩ Q:=⟨_,_,rfl,q⟩
theorem u02{es:List Expr}{k:Nat}(q:Ok (evL (run P n) F es) σ (tupQ Q)):Ok ((run P (n+1)).ev (.Tuple es k p) F) σ Q:=
 uAb (uAc q fun vs σ q=>uA9 q.1 ⟨_,_,rfl,q.2⟩)
theorem u0x{a b:Expr}{op:CmpOp}(h:behindInMarks op b=false)(q:Ok ((run P n).ev a F) σ (kCmp P n F b op (kB Q))):Ok ((run P (n+1)).ev (.Compare a [op] [b] p) F) σ Q:=
 uB9 (by rw [h];exact Bool.false_ne_true) (uAb (uAc q fun x σ q=>uAb (uAc q fun y σ q=>uAb (uAc q fun c σ q=>uAf q))))
theorem v_or{a b:Expr}(q:Ok ((run P n).ev a F) σ (kOr P n F b Q)):Ok ((run P (n+1)).ev (.BoolOp .Or [a,b] p) F) σ Q:=
 uAb (uAc q fun v σ q=>uAb (uAc q fun t σ q=>by cases t;exact uB9 Bool.false_ne_true (q.2 rfl);exact uA9 rfl (uAf (q.1 rfl))))
theorem u0s{a b:Expr}(q:Ok ((run P n).ev a F) σ (kAn P n F b Q)):Ok ((run P (n+1)).ev (.BoolOp .And [a,b] p) F) σ Q:=
 uAb (uAc q fun v σ q=>uAb (uAc q fun t σ q=>by cases t;exact uB9 Bool.false_ne_true (uAf (q.2 rfl));exact uA9 rfl (q.1 rfl)))
theorem uYz{o:Expr}{x:Str}{ap:Pos}{args:List Expr}(h:(uCb o&&(ap.endLine==p.line)&&decide (args.length<30)&&(uAz args || !F.hm))=true)
  (q:Ok ((run P n).ev o F) σ (kM P n F x args Q)) :
  Ok ((run P (n+1)).ev (.Call (.Attribute o x ap) args [] p) F) σ Q:=
 uA9 h (uAb (uAc q fun ov σ q=>uAb (uAc q fun m σ q=>uA9 (by have:=q.1;cases hs:uAz args<;>simp_all) (uAb q.2))))
theorem uXk{x:Str}{np:Pos}{args:List Expr}(q:Ok ((run P n).ev (.Name x np) F) σ (kC P n F args Q)):Ok ((run P (n+1)).ev (.Call (.Name x np) args [] p) F) σ Q:=
 uAb (uAc q fun fv σ q=>uAb q)
theorem uVr{o i:Expr}{np:Pos}{args:List Expr}(q:Ok ((run P n).ev (.Subscript o i np) F) σ (kC P n F args Q)):Ok ((run P (n+1)).ev (.Call (.Subscript o i np) args [] p) F) σ Q:=
 uAb (uAc q fun fv σ q=>uAb q)
theorem uYt{o:Expr}{x:Str}(h:uCb o=true)(q:Ok ((run P n).ev o F) σ (kAt P x Q)):Ok ((run P (n+1)).ev (.Attribute o x p) F) σ Q:=
 uA9 h (uAb q)
theorem uU0{o:Expr}{lo hi:Option Expr}{sp:Pos}(q:Ok ((run P n).ev o F) σ (kSl P n F lo hi Q)):Ok ((run P (n+1)).ev (.Subscript o (.Slice lo hi none sp) p) F) σ Q:=by
 have fin:∀ (ov lv hv:AV) (σ:St),(∃ l h,uB6 lv=some l∧uB6 hv=some h∧Ok (uBh P ov l h) σ Q)→Ok (match uB6 lv,uB6 hv with | some l,some h=>uBh P ov l h | _,_=>M.fail) σ Q:=fun ov lv hv σ h=>by
  obtain ⟨l,h,e1,e2,q⟩:=h;simp only [e1,e2];exact q
 cases lo<;>cases hi<;>exact uAb (uAc q fun ov σ q=>uAb (uAc q fun lv σ q=>uAb (uAc q fun hv σ q=>fin ov lv hv σ q)))
theorem uZ3{o i:Expr}(h:evE P (run P n) (.Subscript o i p) F=M.bind ((run P n).ev o F) fun ov=>M.bind ((run P n).ev i F) fun iv=>getItem ov iv)(q:Ok ((run P n).ev o F) σ (kSb P n F i Q)):Ok ((run P (n+1)).ev (.Subscript o i p) F) σ Q:=by
 show Ok (evE P (run P n) (.Subscript o i p) F) σ Q;rw [h];exact uAb (uAc q fun v σ q=>uAb (uAc q fun _ σ q=>q))
theorem uXt{elt:Expr}{cs:List Comprehension}{sc:Scope}(q:Ok (evE P (run P n) (.ListComp elt cs sc p) F) σ Q):Ok ((run P (n+1)).ev (.ListComp elt cs sc p) F) σ Q:=q
theorem uVc{s:Str}{k:Nat}{cp:Pos}(q:Ok (strV (tl s)) σ Q):Ok ((run P (n+1)).ev (.JoinedStr [.Constant (.str s) k cp] p) F) σ Q:=q
theorem uSi{e₁ e₂:Expr}{es:List Expr}(q:Ok (uB4 (run P n) F [] (e₁::e₂::es)) σ Q)(h:evE P (run P n) (.JoinedStr (e₁::e₂::es) p) F=uB4 (run P n) F [] (e₁::e₂::es)):Ok ((run P (n+1)).ev (.JoinedStr (e₁::e₂::es) p) F) σ Q:=by
 show Ok (evE P (run P n) (.JoinedStr (e₁::e₂::es) p) F) σ Q;rw [h];exact q
theorem uW3{out:List Nat}(q:Ok (strV out) σ Q):Ok (uB4 (run P n) F out []) σ Q:=q
theorem uId{out:List Nat}{s:Str}{k:Nat}{cp:Pos}{es:List Expr}(h:(out++tl s).length≤lz)(q:Ok (uB4 (run P n) F (out++tl s) es) σ Q):Ok (uB4 (run P n) F out (.Constant (.str s) k cp::es)) σ Q:=uA9 h q
theorem uX8{out:List Nat}{e:Expr}{cp:Pos}{es:List Expr}(q:Ok ((run P n).ev e F) σ (kF P n F out es Q)):Ok (uB4 (run P n) F out (.FormattedValue e (-1) none cp::es)) σ Q:=
 uAb (uAc q fun v σ h=>by obtain ⟨x,g,rfl,h,q⟩:=h;exact uA9 h q)
variable {V:List AV→St→Prop}
theorem uZx(q:V [] σ):Ok (evL (run P n) F []) σ V:=uAf q
noncomputable def notStar:Expr→Bool
 | .Starred ..=>false
 | _=>true
theorem uYw{e:Expr}{es:List Expr}(h:notStar e=true)(q:Ok ((run P n).ev e F) σ (kL P n F es V)):Ok (evL (run P n) F (e::es)) σ V:=by
 have e':evL (run P n) F (e::es)=M.bind ((run P n).ev e F) fun v=>M.bind (evL (run P n) F es) fun vs=>M.pure (v::vs):=by
  cases e<;>first | rfl | cases h
 rw [e'];exact uAb (uAc q fun v σ q=>uAb (uAc q fun vs σ q=>uAf q))
theorem uWc{e:Expr}(q:Ok ((run P n).tst e F) σ (kNot B)):Ok ((run P (n+1)).tst (.UnaryOp .Not e p) F) σ B:=uAb (uAc q fun b σ q=>uAf q)
theorem u0o{a b:Expr}(q:Ok ((run P n).tst a F) σ (kTA P n F b B)):Ok ((run P (n+1)).tst (.BoolOp .And [a,b] p) F) σ B:=by
 refine uAb (uAc q fun c σ q=>?_);induction c using Bool.casesOn with
 | false=>exact uAf (q.2 rfl)
 | true=>
  refine uAb (uAc (q.1 rfl) fun c σ q=>?_);cases c<;>exact uAf q
theorem t_or{a b:Expr}(q:Ok ((run P n).tst a F) σ (kTO P n F b B)):Ok ((run P (n+1)).tst (.BoolOp .Or [a,b] p) F) σ B:=by
 refine uAb (uAc q fun c σ q=>?_);induction c using Bool.casesOn with
 | true=>exact uAf (q.2 rfl)
 | false=>
  refine uAb (uAc (q.1 rfl) fun c σ q=>?_);cases c<;>exact uAf q
theorem u04{a b c:Expr}(q:Ok ((run P n).tst a F) σ (kT3 P n F b c B)):Ok ((run P (n+1)).tst (.BoolOp .Or [a,b,c] p) F) σ B:=by
 refine uAb (uAc q fun x σ q=>?_);induction x using Bool.casesOn with
 | true=>exact uAf (q.1 rfl)
 | false=>
  refine uAb (uAc (q.2 rfl) fun x σ q=>?_);induction x using Bool.casesOn with
  | true=>exact uAf (q.1 rfl)
  | false=>
   refine uAb (uAc (q.2 rfl) fun c σ q=>?_);cases c<;>exact uAf q
theorem u03{a b:Expr}{op:CmpOp}(h:behindInMarks op b=false)(q:Ok ((run P n).ev a F) σ (kCmp P n F b op B)):Ok ((run P (n+1)).tst (.Compare a [op] [b] p) F) σ B:=
 uB9 (by rw [h];exact Bool.false_ne_true) (uAb (uAc q fun x σ q=>uAb (uAc q fun y σ q=>q)))
theorem uEr{e:Expr}(h:tstE (run P n) e F=M.bind ((run P n).ev e F) fun v=>truthy v)(q:Ok ((run P n).ev e F) σ (kTr B)):Ok ((run P (n+1)).tst e F) σ B:=by
 show Ok (tstE (run P n) e F) σ B;rw [h];exact uAb q
variable {U:Unit→St→Prop}
theorem uXm{e:Expr}(h:uCg e=true)(q:Ok ((run P n).ev e F) σ (kNx X)):Ok (exS P (run P n) (.Expr e p) F) σ X:=uA9 h (uAb (uAc q fun _ σ q=>uAf q))
theorem u0j(q:X .brk σ):Ok (exS P (run P n) (.Break p) F) σ X:=uAf q
theorem uXz(q:X .cont σ):Ok (exS P (run P n) (.Continue p) F) σ X:=uAf q
theorem u0r{e:Expr}(q:Ok ((run P n).ev e F) σ (kRt X)):Ok (exS P (run P n) (.Return (some e) p) F) σ X:=uAb (uAc q fun v σ q=>uAf q)
theorem uZb{t e:Expr}(h:uCn [t] e=false)(k:uCg e=true)(q:Ok ((run P n).ev e F) σ (kAs P n F t X)):Ok (exS P (run P n) (.Assign [t] e p) F) σ X:=
 uB9 (by rw [h];exact Bool.false_ne_true) (uAb (uA9 k (uAc q fun v σ q=>uAb (uAb (uAc q fun _ σ q=>uAf (uAf q))))))
theorem uYn{t t' e:Expr}(h:uCn [t,t'] e=false)(k:uCg e=true)(q:Ok ((run P n).ev e F) σ (kAs2 P n F t t' X)):Ok (exS P (run P n) (.Assign [t,t'] e p) F) σ X:=
 uB9 (by rw [h];exact Bool.false_ne_true) (uAb (uA9 k (uAc q fun v σ q=>uAb (uAb (uAc q fun _ σ q=>uAb (uAc q fun _ σ q=>uAf (uAf q)))))))
theorem uXc{t elt:Expr}{cs:List Comprehension}{sc:Scope}{cp:Pos}(h:uCn [t] (.ListComp elt cs sc cp)=false)(q:Ok (evE P (run P n) (.ListComp elt cs sc cp) F) σ (kAs P n F t X)):Ok (exS P (run P n) (.Assign [t] (.ListComp elt cs sc cp) p) F) σ X:=
 uB9 (by rw [h];exact Bool.false_ne_true) (uAb (uB9 Bool.false_ne_true (uAc q fun v σ q=>uAb (uAb (uAc q fun _ σ q=>uAf (uAf q))))))
theorem u0n{x:Str}{op:Operator}{e:Expr}{np:Pos}(h:F.kind x=some .local)(q:Ok (loadName P F x) σ (kAg P n F x op e X)):Ok (exS P (run P n) (.AugAssign (.Name x np) op e p) F) σ X:=
 uA9 h (uAb (uAc q fun v σ q=>uAb (uAc q fun v σ q=>uAb (uAc q fun v σ q=>uAb (uAc q fun v σ q=>uAf q)))))
theorem uXl{o:Expr}{x:Str}{op:Operator}{e:Expr}{np:Pos}(q:Ok ((run P n).ev o F) σ (kAh P n F x op e X)):Ok (exS P (run P n) (.AugAssign (.Attribute o x np) op e p) F) σ X:=
 uAb (uAc q fun v σ q=>uAb (uAc q fun v σ q=>uAb (uAc q fun v σ q=>uAb (uAc q fun v σ q=>uAb (uAc q fun v σ q=>uAf q)))))
theorem uPc{t:Expr}{a b:List Stmt}(q:Ok ((run P n).tst t F) σ (kIf P n F a b X)):Ok (exS P (run P n) (.If t a b p) F) σ X:=
 uAb (uAc q fun c σ q=>by cases c;exact uB9 Bool.false_ne_true (q.2 rfl);exact uA9 rfl (q.1 rfl))
theorem uVt{t:Expr}{body orelse:List Stmt}(h:F.hm=false)(q:Ok (uCp (run P n) F t body orelse lim) σ X):Ok (exS P (run P n) (.While t body orelse p) F) σ X:=by
 show Ok (if F.hm=true then M.fail else calm (uCp (run P n) F t body orelse lim)) σ X;rw [h];exact uDm q
theorem uXw {x y en:Str} {a:Expr} {p1 p2 p3 p4 p5:Pos} {k:Nat} {body orelse:List Stmt} (h:F.hm=false) (h2:en=Str.ofString "enumerate"∧F.kind en=some .globalImplicit∧uAz [a]=true) (q:Ok ((run P n).ev a F) σ (kEn P n F x y body orelse X)):Ok (exS P (run P n) (.For (.Tuple [.Name x p1,.Name y p2] k p3) (.Call (.Name en p4) [a] [] p5) body orelse p) F) σ X:=by
 refine uB9 (by rw [h];exact Bool.false_ne_true) (uA9 h2 (uAb (uAc q fun v σ q=>?_)));obtain ⟨l,rfl,q⟩:=q;exact uDm q
theorem uZq{tgt iter:Expr}{body orelse:List Stmt}(h:exS P (run P n) (.For tgt iter body orelse p) F=M.bind ((run P n).ev iter F) fun xv=>M.bind (uB8 xv) fun it=>calm (uFi P (run P n) F tgt body orelse it lim 0))(q:Ok ((run P n).ev iter F) σ (kIt (kFr P n F tgt body orelse X))):Ok (exS P (run P n) (.For tgt iter body orelse p) F) σ X:=by
 rw [h];exact uAb (uAc q fun v σ q=>uAb (uAc q fun it σ q=>uDm q))
theorem uQ0{t:Expr}{m:Option Expr}(q:Ok ((run P n).tst t F) σ (kAst X)):Ok (exS P (run P n) (.Assert t m p) F) σ X:=
 uAb (uAc q fun b σ q=>by obtain ⟨rfl,q⟩:=q;exact uA9 rfl (uAf q))
theorem uZ2{o i:Expr}{sp:Pos}(q:Ok ((run P n).ev o F) σ (kD P n F i X)):Ok (exS P (run P n) (.Delete [.Subscript o i sp] p) F) σ X:=
 uAb (uAc q fun v σ q=>uAb (uAc q fun v σ q=>uAb (uAc q fun v σ q=>uAf q)))
theorem uSp{x:Str}{v:AV}(q:Ok (storeName F x v) σ U):Ok (asg P (run P n) F (.Name x p) v) σ U:=q
theorem uXf{o:Expr}{x:Str}{v:AV}(q:Ok ((run P n).ev o F) σ (kAA P x v U)):Ok (asg P (run P n) F (.Attribute o x p) v) σ U:=uAb q
theorem u06{o i:Expr}{v:AV}(q:Ok ((run P n).ev o F) σ (kAB P n F i v U)):Ok (asg P (run P n) F (.Subscript o i p) v) σ U:=uAb (uAc q fun _ σ q=>uAb q)
theorem uZo{ts:List Expr}{k:Nat}{a:Nat}{xs:List AV}(h:F.hm=false)(h1:σ.H[a]?=some (.tup xs))(q:Ok (uBn F ts xs) σ U):Ok (asg P (run P n) F (.Tuple ts k p) (.ref a)) σ U:=by
 refine uB9 (by rw [h];exact Bool.false_ne_true) ?_;obtain ⟨u,σ',e,q⟩:=q;exact ⟨u,σ',ob (ob (f:=pT) h1 rfl) e,q⟩
theorem uZs(q:U () σ):Ok (uBn F [] []) σ U:=uAf q
theorem uYr{x:Str}{ts:List Expr}{v:AV}{vs:List AV}(q:Ok (storeName F x v) σ (kAC F ts vs U)):Ok (uBn F (.Name x p::ts) (v::vs)) σ U:=uAb q
end
section
variable {P:uBb}{n:Nat}{F:FE}{σ:St}{Q:AV→St→Prop}{X:Fl→St→Prop}{xs:List Stmt}
theorem uCz{L:List (Str×AV)}{H:List AO}{a:Addr}{f:Fn}{args:List AV}{bs:List (Str×AV)}{body:List Stmt}(L':List (Str×AV))(h:P.fn.lookup a=some f)(b:bindP f args ⟨L,H⟩=some (.ok bs,⟨L,H⟩))(c:uA7 bs f.scope.names=M.pure [])(l:uCd f.scope bs=L')(hb:f.body=body)
  (q:Ok (exB P (run P n) { scope:=f.scope,cells:=[] } body) ⟨L',H⟩ (retQ Q L)):Ok ((run P (n+2)).call (.st (.ref a)) args) ⟨L,H⟩ Q:=by
 subst hb;exact uZk h b c (by rw [l];exact q)
theorem uSt(q:Ok (exB P (run P n) F xs) σ X):seqQ P n F xs X .next σ:=q
theorem uXj(q:X .cont σ):seqQ P n F xs X .cont σ:=q
theorem u0y(q:X .brk σ):seqQ P n F xs X .brk σ:=q
theorem u0a{v:AV}(q:X (.ret v) σ):seqQ P n F xs X (.ret v) σ:=q
theorem u05{i:Int}(q:Q (.int i) σ):Ok (uD2 (.int i)) σ Q:=uAf q
theorem uSm{i:Bool}(q:Q (.bool i) σ):Ok (uD2 (.bool i)) σ Q:=uAf q
theorem uXg(q:Q .none σ):Ok (uD2 .none) σ Q:=uAf q
theorem uZp{s:Str}(h:decide ((tl s).length≤lz)=true)(q:Q (.str (tl s) none) σ):Ok (uD2 (.str s)) σ Q:=uA9 (of_decide_eq_true h) (uAf q)
theorem uVa{x:Str}{v:AV}(k:F.kind x=some .globalImplicit)(h:P.glob.lookup x=some v)(q:Q v σ):Ok (loadName P F x) σ Q:=⟨v,σ,by unfold loadName;rw [k];dsimp only;rw [h],q⟩
theorem uZ7{x:Str}{v:AV}(k:F.kind x=some .globalImplicit)(h:P.glob.lookup x=none)(h2:P.bi.lookup x=some v)(q:Q v σ):Ok (loadName P F x) σ Q:=⟨v,σ,by unfold loadName;rw [k];dsimp only;rw [h];exact congrArg (Option.map _) h2,q⟩
theorem uYy{vs:List AV}{q:Prop}(h:Nat.ble vs.length lz=true)(q':q):vs.length≤lz∧q:=⟨Nat.le_of_ble_eq_true h,q'⟩
theorem uVf{L:List (Str×AV)}{H:List AO}{x:Str}{v:AV}{i:Nat}{k:NameKind}(hk:F.kind x=some k)(hk2:k=.cell∨k=.free)(hc:F.cells.lookup x=some i)(h:H[i]?=some (.cell (some v)))(q:Q v ⟨L,H⟩):Ok (loadName P F x) ⟨L,H⟩ Q:=by
 refine ⟨v,⟨L,H⟩,?_,q⟩;unfold loadName;rcases hk2 with rfl|rfl<;>rw [hk]<;>exact ob hc (ob (ob (ob h rfl) rfl) rfl)
theorem uF1{L:List (Str×AV)}{H:List AO}{x:Str}{v:AV}{i:Nat}{o:Option AV}{U:Unit→St→Prop}(hk:F.kind x=some .cell)(hc:F.cells.lookup x=some i)(h:H[i]?=some (.cell o))(q:U () ⟨L,H.set i (.cell (some v))⟩):Ok (storeName F x v) ⟨L,H⟩ U:=by
 refine ⟨(),_,?_,q⟩;unfold storeName;rw [hk];exact ob hc (ob (ob h rfl) rfl)
theorem u1h{x y:Int}(q:Q (.int (x+y)) σ):Ok (uFl .Add (.int x) (.int y)) σ Q:=uAf q
theorem u1b{x y:Int}(q:Q (.int (x-y)) σ):Ok (uFl .Sub (.int x) (.int y)) σ Q:=uAf q
theorem uRk{L:List (Str×AV)}{H:List AO}{t:Expr}{a b:List Stmt}{p:Pos}(c:Bool)(q1:Ok ((run P n).tst t F) ⟨L,H⟩ (Kp c L H))(q2:∀ H',Ext H H'→(c=true→Ok ((run P n).ex a F) ⟨L,H'⟩ X)∧(c=false→Ok ((run P n).ex b F) ⟨L,H'⟩ X)):Ok (exS P (run P n) (.If t a b p) F) ⟨L,H⟩ X:=by
 refine uPc (uAc q1 ?_);rintro d ⟨L',H'⟩ ⟨rfl,rfl,x⟩;exact q2 H' x
theorem u07 {P:uBb} {s:List Nat} {g:Option Nat} {x:Str} {id:String} {Q:AV×List AV→St→Prop} (c:(if x==Str.ofString "join" then some "str.join" else if x==Str.ofString "isalnum" then some "str.isalnum" else if x==Str.ofString "translate" then some "str.translate" else none)=some id) (q:Q (.st (.builtin id),[.str s g]) σ):Ok (getMethod P (.str s g) x) σ Q:=by
 refine ⟨_,_,?_,q⟩;unfold getMethod;dsimp only
 split at c
 ·rename_i h;rw [if_pos h];cases c;rfl
 ·rename_i h;rw [if_neg h]
  split at c
  ·rename_i h;rw [if_pos h];cases c;rfl
  ·rename_i h;rw [if_neg h]
   split at c
   ·rename_i h;rw [if_pos h];cases c;rfl
   ·cases c
theorem uU8{x:AV}(q:Ok (bAlnum x) σ Q):Ok (uAo P .isalnum [x]) σ Q:=q
theorem uT6{x y:AV}(q:Ok (uHf P x y) σ Q):Ok (uAo P .translate [x,y]) σ Q:=q
theorem uP2{x y:AV}(q:Ok (uHq x y) σ Q):Ok (uAo P .isinstance [x,y]) σ Q:=q
theorem uZf{p:Prop}{v:AV}{es:List Expr}(h:(uAz es||uGv P v)=true)(q:p):(uAz es||uGv P v)=true∧p:=⟨h,q⟩
theorem uM3{i:Nat}{v:AV}(q:Ok (uDb (.ref i) v) σ Q):Ok (uC8 "list.append" i [v]) σ Q:=uA9 rfl q
theorem uUm{i:Nat}(q:Ok (uFn (.ref i)) σ Q):Ok (uC8 "list_iterator.__next__" i []) σ Q:=uB9 (by decide) (uA9 rfl q)
theorem uYh{r:Rec}{f x:AV}{vs:List AV}(q:Ok (uA0 r F f (x::vs)) σ Q):Ok (uA0 r F (f,[x]).1 ((f,[x]).2++vs)) σ Q:=q
theorem uSf{a i:Nat}{H H':List AO}{o:AO}(x:uCl a H H')(ne:i≠a)(h:H[i]?=some o):H'[i]?=some o:=x i o ne h
theorem u0w{i:Int}{p:Int→Prop}(q:p i) : ∃ j,AV.int i=.int j∧p j:=⟨i,rfl,q⟩
theorem uUj{r:Rec}{e:Expr}(q:Ok (r.ev e F) σ Q):Ok (loE r F (some e)) σ Q:=q
theorem uTd{r:Rec}(q:Q .none σ):Ok (loE r F none) σ Q:=uAf q
theorem uX9{ov lv hv:AV}{l h:Option Int}(h1:uB6 lv=some l)(h2:uB6 hv=some h)(q:Ok (uBh P ov l h) σ Q) : ∃ l h,uB6 lv=some l∧uB6 hv=some h∧Ok (uBh P ov l h) σ Q:=⟨l,h,h1,h2,q⟩
theorem uY3{x:List Nat}{g:Option Nat}{l h:Option Int}(q:Q (.str (cut x l h) none) σ):Ok (uBh P (.str x g) l h) σ Q:=⟨_,_,rfl,q⟩
theorem in_str{x:Nat}{y:List Nat}{g g':Option Nat}{B:Bool→St→Prop}(q:B (y.contains x) σ):Ok (isIn (.str [x] g) (.str y g')) σ B:=⟨_,_,rfl,q⟩
theorem uUu{B:Bool→St→Prop}{r:Rec}(q:B true σ):Ok (cndM r F []) σ B:=uAf q
theorem uTe{B:Bool→St→Prop}{r:Rec}{c:Expr}(q:Ok (r.tst c F) σ B):Ok (cndM r F [c]) σ B:=q
theorem u1d{L L':List (Str×AV)}{H:List AO}{v:AV}(q:Q v ⟨L,H⟩):retQ Q L (.ret v) ⟨L',H⟩:=q
theorem uYu{L L':List (Str×AV)}{H:List AO}(q:Q .none ⟨L,H⟩):retQ Q L .next ⟨L',H⟩:=q
theorem uP8{I:St→Prop}(q:I σ):flQ I X .next σ:=q
theorem uQn{I:St→Prop}(q:I σ):flQ I X .cont σ:=q
theorem uV0{I:St→Prop}(q:X .next σ):flQ I X .brk σ:=q
theorem uV4{I:St→Prop}{v:AV}(q:X (.ret v) σ):flQ I X (.ret v) σ:=q
theorem uPd{v w:AV}{b:Bool}{B:Bool→St→Prop}(e:isA v w=some b)(q:B b σ):Ok (uB7 .Is v w) σ B:=⟨b,σ,congrArg (Option.map _) e,q⟩
theorem uCm{v w:AV}{b:Bool}{B:Bool→St→Prop}(e:isA v w=some b)(q:B (!b) σ):Ok (uB7 .IsNot v w) σ B:=⟨!b,σ,congrArg (Option.map _) (congrArg (Option.map (!·)) e),q⟩
theorem c_lt{x y:Int}{B:Bool→St→Prop}(q:B (decide (x<y)) σ):Ok (uB7 .Lt (.int x) (.int y)) σ B:=⟨_,σ,rfl,q⟩
theorem uZ8{x y:Int}{B:Bool→St→Prop}(q:B (decide (x=y)) σ):Ok (uB7 .Eq (.int x) (.int y)) σ B:=⟨_,σ,rfl,q⟩
theorem u0c{x y:Int}{B:Bool→St→Prop}(q:B (!decide (x=y)) σ):Ok (uB7 .NotEq (.int x) (.int y)) σ B:=⟨_,σ,rfl,q⟩
theorem u0k{x y:List Nat}{g g':Option Nat}{B:Bool→St→Prop}(q:B (decide (x=y)) σ):Ok (uB7 .Eq (.str x g) (.str y g')) σ B:=⟨_,σ,rfl,q⟩
theorem u0p{x y:List Nat}{g g':Option Nat}{B:Bool→St→Prop}(q:B (!decide (x=y)) σ):Ok (uB7 .NotEq (.str x g) (.str y g')) σ B:=⟨_,σ,rfl,q⟩
theorem c_in{v w:AV}{B:Bool→St→Prop}(q:Ok (isIn v w) σ B):Ok (uB7 .In v w) σ B:=q
theorem uVg{v w:AV}{B:Bool→St→Prop}(q:Ok (isIn v w) σ (kNot B)):Ok (uB7 .NotIn v w) σ B:=uAb (uAc q fun b σ q=>uAf q)
theorem u0h{x y:Int}(q:Q (.int (x+y)) σ):Ok (augOp .Add (.int x) (.int y)) σ Q:=uAf q
theorem u0u{x y:Int}(q:Q (.int (x-y)) σ):Ok (augOp .Sub (.int x) (.int y)) σ Q:=uAf q
theorem uD7{op:Operator}{x y z:Int}(e:intOp op x y=some z)(q:Q (.int z) σ):Ok (uFl op (.int x) (.int y)) σ Q:=by
 show Ok (match intOp op x y with | some c=>M.pure (AV.int c) | none=>M.fail) σ Q;rw [e];exact uAf q
theorem uT1{x y:List Nat}{g g':Option Nat}(h:(x++y).length≤lz)(q:Q (.str (x++y) none) σ):Ok (uFl .Add (.str x g) (.str y g')) σ Q:=uA9 h (uAf q)
theorem u1f{i j:Nat}(q:Ok (catL i j) σ Q):Ok (uFl .Add (.ref i) (.ref j)) σ Q:=q
theorem u0l{i:Nat}{k:Int}(q:Ok (repL i k) σ Q):Ok (uFl .Mult (.ref i) (.int k)) σ Q:=q
theorem uV6{b:Bool}{B:Bool→St→Prop}(q:B b σ):Ok (truthy (.bool b)) σ B:=⟨b,σ,rfl,q⟩
theorem uTc{B:Bool→St→Prop}(q:B false σ):Ok (truthy .none) σ B:=⟨_,σ,rfl,q⟩
theorem uY9{id:String}{r:Rec}{vs:List AV}{b:BI}(h:biTab.lookup id=some b)(q:Ok (uAo P b vs) σ Q):Ok (uF8 P r (.st (.builtin id)) vs) σ Q:=by
 show Ok (match biTab.lookup id with | some b=>uAo P b vs | none=>M.fail) σ Q;rw [h];exact q
theorem uZg{id:String}{r:Rec}{vs:List AV}{b:TY}(h:tyTab.lookup id=some b)(q:Ok (uBg b vs) σ Q):Ok (uF8 P r (.st (.type id)) vs) σ Q:=by
 show Ok (match tyTab.lookup id with | some b=>uBg b vs | none=>M.fail) σ Q;rw [h];exact q
theorem uZt{x:AV}(q:Ok (bLen x) σ Q):Ok (uAo P .len [x]) σ Q:=q
theorem uX2{x:List Nat}{g:Option Nat}(q:Q (.int x.length) σ):Ok (bLen (.str x g)) σ Q:=⟨_,_,rfl,q⟩
theorem uRn{x y:AV}(q:Ok (uDb x y) σ Q):Ok (uAo P .append [x,y]) σ Q:=q
theorem uWa{x:AV}(q:Ok (bClear x) σ Q):Ok (uAo P .clear [x]) σ Q:=q
theorem u1e{x y:AV}(q:Ok (bGet x y) σ Q):Ok (uAo P .dget [x,y]) σ Q:=q
theorem uQ6{x:AV}(q:Ok (uHx x) σ Q):Ok (uAo P .dvalues [x]) σ Q:=q
theorem uZv{x y:AV}(q:Ok (bAdd x y) σ Q):Ok (uAo P .sadd [x,y]) σ Q:=q
theorem uWo{x y:AV}(q:Ok (bJoin x y) σ Q):Ok (uAo P .join [x,y]) σ Q:=q
theorem uNt{x y:AV}(q:Ok (uFu x y) σ Q):Ok (uAo P .hasattr [x,y]) σ Q:=q
theorem uWs{x:AV}(q:Ok (bIter x) σ Q):Ok (uAo P .iter [x]) σ Q:=q
theorem u0g{x:AV}(q:Ok (bSum x) σ Q):Ok (uAo P .sum [x]) σ Q:=q
theorem uR2{L:List (Str×AV)}{H:List AO}{y:Int}(q:Q (.ref H.length) ⟨L,H++[.rng 0 y]⟩):Ok (uBg .range [.int y]) ⟨L,H⟩ Q:=⟨_,_,rfl,q⟩
theorem uSb{L:List (Str×AV)}{H:List AO}{x y:Int}(q:Q (.ref H.length) ⟨L,H++[.rng x y]⟩):Ok (uBg .range [.int x,.int y]) ⟨L,H⟩ Q:=⟨_,_,rfl,q⟩
theorem uXp{x:AV}(q:Ok (tList x) σ Q):Ok (uBg .list [x]) σ Q:=q
theorem uTr{x:AV}(q:Ok (tTuple x) σ Q):Ok (uBg .tuple [x]) σ Q:=q
theorem uW0{x:AV}(q:Ok (tType x) σ Q):Ok (uBg .type [x]) σ Q:=q
theorem uZc{x:AV}(q:Ok (tBool x) σ Q):Ok (uBg .bool [x]) σ Q:=q
theorem uRr{L:List (Str×AV)}{H:List AO}(q:Q (.ref H.length) ⟨L,H++[.obj]⟩):Ok (uBg .object []) ⟨L,H⟩ Q:=⟨_,_,rfl,q⟩
theorem u0e{L:List (Str×AV)}{H:List AO}(q:Q (.ref H.length) ⟨L,H++[.sset []]⟩):Ok (uBg .set []) ⟨L,H⟩ Q:=⟨_,_,rfl,q⟩
end
noncomputable abbrev sn(s:String):Str:=Str.ofString s
local macro_rules (kind:=Lean.Parser.Tactic.fail) | x=>Mine.Internal.mf x
local macro_rules (kind:=Lean.Parser.Tactic.omega) | x=>Mine.Internal.mo x
section
variable {a:Addr}{ns:List Int}{n:Nat}
theorem uL8{L:List (Str×AV)}{H:List AO}{i:Nat}{xs:List AV}{b:AV}{Q:AV→St→Prop}(f:AV→Bool)(h:H[i]?=some (.list xs))(z:xs.length<lim)(e:∀ x∈xs,isA x b=some (f x)∧eqA 8 H x b=some (f x))(q:Q (.int (xs.countP f)) ⟨L,H⟩) :
  Ok ((run (PGs a ns) (n+12)).call (fr 245) [.ref i,b]) ⟨L,H⟩ Q:=by
 refine uCz (f:=uAd "countOf" false (top 24)) [(sn "a",.ref i),(sn "b",b)] rfl rfl rfl rfl rfl ?_;refine uAx ?_
 repeat fail "!st"
 refine uFw h ?_;refine uBi (xs:=xs) (I:=fun p σ=>σ.H=H∧σ.L.lookup (sn "count")=some (.int ((xs.take p).countP f))∧σ.L.lookup (sn "b")=some b) ?_ ?_ ?_ lim 0 _ (Nat.zero_le _) (by simpa using z) ⟨rfl,rfl,rfl⟩
 ·rintro p ⟨L',H'⟩ ⟨rfl,h1,h2⟩;exact uBp h
 ·rintro p v ⟨L',H'⟩ hv ⟨rfl,h1,h2⟩;dsimp only at h1 h2;have hc:(xs.take (p+1)).countP f=(xs.take p).countP f+if f v then 1 else 0:=by
   rw [List.take_add_one,hv,List.countP_append];simp
  obtain ⟨e1,e2⟩:=e v (List.mem_of_getElem? hv)
  repeat fail "!st"
  refine uPd e1 ?_;generalize hf:f v=zz;induction zz using Bool.casesOn with
  | true=>
   rw [hf,if_pos rfl] at hc;refine ⟨fun q=>by (cases q),fun _=>?_⟩;refine ⟨fun _=>?_,fun q=>by (cases q)⟩
   repeat fail "!st"
   refine ⟨rfl,?_,?_⟩
   ·rw [hc];exact uOt _ _ _
   ·fail "!lk"
  | false=>
   rw [hf] at hc;simp only [Bool.false_eq_true,if_false,Nat.add_zero] at hc;refine ⟨fun _=>?_,fun q=>by (cases q)⟩
   repeat fail "!st"
   rw [hf] at e2;refine uN1 e2 ⟨fun q=>by (cases q),fun _=>?_⟩
   repeat fail "!st"
   refine ⟨rfl,?_,?_⟩
   ·rw [hc];fail "!lk"
   ·fail "!lk"
 ·rintro ⟨L',H'⟩ ⟨rfl,h1,h2⟩;dsimp only at h1 h2
  repeat fail "!st"
  rw [List.take_length];exact q
end
noncomputable def nm:Nat→List Nat
 | 0=>[97] | 1=>[46] | 2=>[97,97] | 3=>[97,46] | 4=>[46,97] | _=>[46,46]
noncomputable def nv(k:Nat):AV:=.str (nm k) (some k)
theorem uKt:nms=(List.range 6).map nv:=rfl
theorem uDl:∀ j<6,∀ k<6,nm j=nm k→j=k:=by decide
theorem uYs{j k:Nat}(hj:j<6)(hk:k<6):isA (nv j) (nv k)=some (decide (j=k)):=by
 show some (decide (nm j=nm k))=_
 congr 1
 by_cases e:j=k
 ·subst e;simp
 ·rw [decide_eq_false e,decide_eq_false fun q=>e (uDl j hj k hk q)]
theorem uPx{j k:Nat}(n:Nat)(H:List AO)(hj:j<6)(hk:k<6):eqA (n+1) H (nv j) (nv k)=some (decide (j=k)):=by
 show some (decide (nm j=nm k))=_
 congr 1
 by_cases e:j=k
 ·subst e;simp
 ·rw [decide_eq_false e,decide_eq_false fun q=>e (uDl j hj k hk q)]
theorem uT8{p:Nat}{v:AV}(h:nms[p]?=some v):p<6∧v=nv p:=by
 rw [uKt,List.getElem?_map] at h;rcases Nat.lt_or_ge p 6 with q|q
 ·rw [List.getElem?_range q] at h;cases h;exact ⟨q,rfl⟩
 ·rw [List.getElem?_eq_none (by simpa using q)] at h;cases h
section
variable {a:Addr}{ns:List Int}{n:Nat}{L:List (Str×AV)}{H:List AO}{Q:AV→St→Prop}
theorem uDs{k:Nat}(hk:k<6)(h:H[1]?=some (.list nms))(q:Q (.int k) ⟨L,H⟩):Ok ((run (PGs a ns) (n+12)).call (fr 252) [.ref 1,nv k]) ⟨L,H⟩ Q:=by
 refine uCz (f:=uAd "indexOf" false (top 25)) [(sn "a",.ref 1),(sn "b",nv k)] rfl rfl rfl rfl rfl ?_;refine uAx ?_;refine uXw rfl ⟨rfl,rfl,rfl⟩ ?_
 repeat fail "!st"
 refine ⟨1,rfl,?_⟩;refine uOd (xs:=nms) (I:=fun p σ=>σ.H=H∧p≤k∧σ.L.lookup (sn "b")=some (nv k)) ?_ ?_ ?_ lim 0 _ (Nat.zero_le _) (by decide) ⟨rfl,Nat.zero_le _,rfl⟩
 ·rintro p ⟨L',H'⟩ ⟨rfl,h1,h2⟩;exact h
 ·rintro p v ⟨L',H'⟩ hv ⟨rfl,h1,h2⟩;dsimp only at h1 h2;obtain ⟨hp,rfl⟩:=uT8 hv
  repeat fail "!st"
  refine uPd (uYs hp hk) ?_;by_cases e:p=k
  ·subst e;refine ⟨fun q=>by (simp at q),fun _=>?_⟩;refine ⟨fun _=>?_,fun q=>by (cases q)⟩
   repeat fail "!st"
   exact q
  ·rw [decide_eq_false e];refine ⟨fun _=>?_,fun q=>by (cases q)⟩
   repeat fail "!st"
   refine uN1 (uPx _ _ hp hk) ?_;rw [decide_eq_false e];refine ⟨fun q=>by (cases q),fun _=>?_⟩
   repeat fail "!st"
   refine ⟨rfl,by omega,?_⟩;fail "!lk"
 ·rintro ⟨L',H'⟩ ⟨rfl,h1,h2⟩;have:nms.length=6:=rfl;omega
theorem uT3{x y:Int}(q:Q (.bool (decide (x=y))) ⟨L,H⟩):Ok ((run (PGs a ns) (n+6)).call (fr 203) [.int x,.int y]) ⟨L,H⟩ Q:=by
 refine uCz (f:=uAd "eq" false (top 18)) [(sn "a",.int x),(sn "b",.int y)] rfl rfl rfl rfl rfl ?_;refine uAx ?_
 repeat fail "!st"
 exact q
theorem uM0{x y:Int}(q:Q (.int (Builtin.bitAnd x y)) ⟨L,H⟩):Ok ((run (PGs a ns) (n+6)).call (fr 210) [.int x,.int y]) ⟨L,H⟩ Q:=by
 refine uCz (f:=uAd "and_" false (top 19)) [(sn "a",.int x),(sn "b",.int y)] rfl rfl rfl rfl rfl ?_;refine uAx ?_
 repeat fail "!st"
 refine uD7 rfl ?_
 repeat fail "!st"
 exact q
theorem uYo{x:Int}(q:Q (.int (Builtin.bitNot x)) ⟨L,H⟩):Ok ((run (PGs a ns) (n+6)).call (fr 217) [.int x]) ⟨L,H⟩ Q:=by
 refine uCz (f:=uAd "inv" false (top 20)) [(sn "a",.int x)] rfl rfl rfl rfl rfl ?_;refine uAx ?_
 repeat fail "!st"
 exact q
theorem uEs{k:Nat}(hk:k<6)(q:Q (.int (2 ^ k:Nat)) ⟨L,H⟩):Ok ((run (PGs a ns) (n+6)).call (fr 224) [.int 1,.int k]) ⟨L,H⟩ Q:=by
 refine uCz (f:=uAd "lshift" false (top 21)) [(sn "a",.int 1),(sn "b",.int k)] rfl rfl rfl rfl rfl ?_;refine uAx ?_
 repeat fail "!st"
 refine uD7 (z:=(2 ^ k:Nat)) ?_ ?_
 ·show (if ((0:Int)≤k∧(k:Int)<64)∧((0:Int)≤1∧(1:Int)<64) then some (1*2 ^ (k:Int).toNat) else none)=_;rw [if_pos (by omega)];simp
 repeat fail "!st"
 exact q
theorem uW1{x y:Int}(q:Q (.int (Builtin.bitOr x y)) ⟨L,H⟩):Ok ((run (PGs a ns) (n+6)).call (fr 231) [.int x,.int y]) ⟨L,H⟩ Q:=by
 refine uCz (f:=uAd "or_" false (top 22)) [(sn "a",.int x),(sn "b",.int y)] rfl rfl rfl rfl rfl ?_;refine uAx ?_
 repeat fail "!st"
 refine uD7 rfl ?_
 repeat fail "!st"
 exact q
theorem uI1{i j:Nat}{xs ys:List AV}(h1:H[i]?=some (.list xs))(h2:H[j]?=some (.list ys))(e:(xs++ys).length≤lz)(q:Q (.ref H.length) ⟨L,H++[.list (xs++ys)]⟩):Ok ((run (PGs a ns) (n+12)).call (fr 238) [.ref i,.ref j]) ⟨L,H⟩ Q:=by
 refine uCz (f:=uAd "concat" false (top 23)) [(sn "a",.ref i),(sn "b",.ref j)] rfl rfl rfl rfl rfl ?_;refine uAx ?_
 repeat fail "!st"
 refine uEr rfl ?_
 repeat fail "!st"
 refine uL2 h1 rfl ?_
 repeat fail "!st"
 refine ⟨fun q=>by (cases q),fun _=>?_⟩
 repeat fail "!st"
 exact uJc h1 h2 e q
end
section
variable {P:uBb}{n:Nat}{F:FE}{σ:St}{Q:AV→St→Prop}{L:List (Str×AV)}{H:List AO}
theorem uG5{a:Addr}{f:Fn}{args:List AV}{bs:List (Str×AV)}{body:List Stmt}{H2:List AO}(L':List (Str×AV))(cs:List (Str×Nat))(h:P.fn.lookup a=some f)(b:bindP f args ⟨L,H⟩=some (.ok bs,⟨L,H⟩))(c:uA7 bs f.scope.names ⟨L,H⟩=some (.ok cs,⟨L,H2⟩))(l:uCd f.scope bs=L')(hb:f.body=body)
  (q:Ok (exB P (run P n) { scope:=f.scope,cells:=cs } body) ⟨L',H2⟩ (retQ Q L)):Ok ((run P (n+2)).call (.st (.ref a)) args) ⟨L,H⟩ Q:=by
 subst hb;show Ok (match P.fn.lookup a with | some fn=>uBr (run P (n+1)) fn args | none=>uA1 P (run P (n+1)) a args) _ _;rw [h];refine uAb (uDi b (uAb (uDi c ?_)));exact uOu (by rw [l];exact q)
end
noncomputable def pl(ps:List Nat):List AV:=ps.map fun (k:Nat)=>.int k
noncomputable def intB(f:Nat→Bool):AV→Bool
 | .int i=>f i.toNat
 | _=>false
noncomputable def intF(f:Nat→AV):AV→AV
 | .int i=>f i.toNat
 | _=>.none
theorem uC5(f:Nat→Bool)(ps:List Nat):(pl ps).filter (intB f)=pl (ps.filter f):=by
 unfold pl;rw [List.filter_map]
 congr 1
theorem uLb(f:Nat→AV)(ps:List Nat):(pl ps).map (intF f)=ps.map f:=by
 unfold pl;rw [List.map_map];rfl
theorem uEi{v:AV}{ps:List Nat}(h:v∈pl ps) : ∃ k∈ps,v=.int k:=by
 unfold pl at h;rw [List.mem_map] at h;obtain ⟨k,hk,rfl⟩:=h;exact ⟨k,hk,rfl⟩
noncomputable def uA4(w:List Nat)(c:Nat)(ps:List Nat):List Nat:=
 if c=42 then (match ps with | []=>[] | p::_=>(List.range (w.length+1-p)).map (p + ·))
 else (ps.filter fun k=>decide (k<w.length)&&(decide (c=63)||decide (w[k]?=some c))).map (· + 1)
noncomputable def fitF(w:List Nat)(s:List Nat):Bool:=(s.foldl (fun ps c=>uA4 w c ps) [0]).contains w.length
theorem uGr{H:List AO}{n i j:Nat}{xs:List AV}(h1:H[i]?=some (.list xs))(h2:H[j]?=some (.list [])):eqA (n+1) H (.ref i) (.ref j)=some (decide (xs=[])):=by
 show eqO (eqA n H) H[i]? H[j]?=_;rw [h1,h2];cases xs<;>rfl
theorem getlt{α:Type}{xs:List α}{k:Nat}{v:α}(h:xs[k]?=some v):k<xs.length:=(List.getElem?_eq_some_iff.mp h).1
theorem seqJ{i:Int}{n k:Nat}(e:(if i<0 then i+n else i)=(k:Int))(h:k<n):seqIndex? i n=some k:=by
 show (if (decide (0≤(if i<0 then i+(n:Int) else i))&&decide ((if i<0 then i+(n:Int) else i)<(n:Int)))=true then some (if i<0 then i+(n:Int) else i).toNat else none)=some k;rw [e];exact if_pos (by rw [decide_eq_true (Int.natCast_nonneg k),decide_eq_true (Int.ofNat_lt.mpr h)];rfl)
theorem seqN{k n:Nat}(h:k<n):seqIndex? (k:Int) n=some k:=seqJ (if_neg (Int.not_lt.mpr (Int.natCast_nonneg k))) h
theorem uB5{xs:List AV}{k:Nat}{v:AV}(h:xs[k]?=some v):nth xs (k:Int)=some v:=by
 unfold nth;rw [seqN (getlt h)];exact h
theorem uCr{s:List Nat}{k c:Nat}(h:s[k]?=some c):nthS s (k:Int)=some (.str [c] none):=by
 unfold nthS;rw [seqN (getlt h)];dsimp only;rw [h];rfl
theorem uEz(k:Nat):∀ ps:List Nat,memA (.int k) (pl ps)=some (ps.contains k):=by
 intro zz;induction zz with
 | nil=>
  exact rfl
 | cons p ps ih=>
  show (anyO (isI k) (pl ps)).map (fun b=>decide (((p:Nat):Int)=((k:Nat):Int))||b)=_;rw [show anyO (isI k) (pl ps)=some (ps.contains k) from ih];show some (decide ((p:Int)=k)||ps.contains k)=_;rw [List.contains_cons]
  congr 2
  by_cases e:p=k
  ·subst e;simp
  ·have h1:¬ ((p:Int)=k):=by omega
   have h2:(k==p)=false:=by simp;omega
   rw [decide_eq_false h1,h2]
theorem uDx{i:Nat}(h:i≤64):small (i:Int)=true:=by unfold small;simp;omega
theorem uX6{p m:Nat}:uCf (p:Int) (m:Int)=pl ((List.range (m-p)).map (p + ·)):=by
 unfold uCf pl;rw [List.map_map,Int.toNat_sub];refine List.map_congr_left fun k _=>?_;simp
theorem uJv{p m:Nat}:uCf (p:Int) ((m:Int)+1)=pl ((List.range (m+1-p)).map (p + ·)):=uX6 (m:=m+1)
theorem uGq{i:Nat}(h:i<64):small ((i:Int)+1)=true:=uDx (i:=i+1) h
theorem uJg{w:List Nat}{c:Nat}{ps:List Nat}(h:∀ p∈ps,p≤w.length):∀ p∈uA4 w c ps,p≤w.length:=by
 intro p hp;unfold uA4 at hp
 split at hp
 ·induction ps using List.casesOn with
  | nil=>cases hp
  | cons p0 ps=>
   have:=h p0 (.head _);simp only [List.mem_map,List.mem_range] at hp;obtain ⟨k,hk,rfl⟩:=hp;omega
 ·simp only [List.mem_map,List.mem_filter] at hp;obtain ⟨k,⟨_,hk⟩,rfl⟩:=hp;simp only [Bool.and_eq_true,decide_eq_true_eq] at hk;omega
theorem uF5{w:List Nat}{c:Nat}{ps:List Nat}(hw:w.length<60)(h:ps.length≤60):(uA4 w c ps).length≤60:=by
 unfold uA4
 split
 ·induction ps using List.casesOn with
  | nil=>simp
  | cons p0 ps=>simp;omega
 ·rw [List.length_map];exact Nat.le_trans (List.length_filter_le _ _) h
section
variable {a:Addr}{ns:List Int}{n:Nat}{L:List (Str×AV)}{H:List AO}{Q:AV→St→Prop}
inductive FtI(H:List AO)(w s:List Nat)(g':Option Nat)(c1:Nat)(p:Nat)(σ:St):Prop
 | mk:∀ (pa:Nat) (ps:List Nat),Ext H σ.H→σ.H[H.length]?=some (AO.cell (some (.str w g')))→(∃ o,σ.H[c1]?=some (AO.cell o))→σ.L.lookup (sn "places")=some (.ref pa)→c1<pa→σ.H[pa]?=some (.list (pl ps))→(((∀ p∈ps,p≤w.length)∧ps.length≤60))→ps=(s.take p).foldl (fun ps c=>uA4 w c ps) [0]→FtI H w s g' c1 p σ
theorem uVw{s w:List Nat}{g g':Option Nat}(hs:s.length<60)(hs2:s.all (· < 128)=true)(hw:w.length<60)(q:∀ H',Ext H H'→Q (.bool (fitF w s)) ⟨L,H'⟩):Ok ((run (PGs a ns) (n+16)).call (fr 267) [.str s g,.str w g']) ⟨L,H⟩ Q:=by
 have hc:bindP (uAd "_law_fits" false (top 29)) [.str s g,.str w g'] ⟨L,H⟩=some (.ok [(sn "pattern",.str s g),(sn "word",.str w g')],⟨L,H⟩):=rfl;refine uG5 (f:=uAd "_law_fits" false (top 29)) (H2:=(H++[AO.cell (some (.str w g'))])++[AO.cell none]) [(sn "pattern",.str s g)] [(sn "word",H.length),(sn "sign",(H++[AO.cell (some (.str w g'))]).length)] rfl hc rfl rfl rfl ?_;have e0:(H++[AO.cell (some (.str w g'))]++[AO.cell none])[H.length]?=some (AO.cell (some (.str w g'))):=uAh (uAl _ _);have e1:(H++[AO.cell (some (.str w g'))]++[AO.cell none])[(H++[AO.cell (some (.str w g'))]).length]?=some (AO.cell none):=uAl _ _;have x:Ext H (H++[AO.cell (some (.str w g'))]++[AO.cell none]):=(Ext.app _ _).trans (Ext.app _ _);have l1:(H++[AO.cell (some (.str w g'))]).length=H.length+1:=by simp
 have l2:(H++[AO.cell (some (.str w g'))]++[AO.cell none]).length=H.length+2:=by simp
 generalize H++[AO.cell (some (.str w g'))]++[AO.cell none]=H1 at *;generalize (H++[AO.cell (some (.str w g'))]).length=c1 at *;refine uAx ?_
 repeat fail "!st"
 refine uPe hs2 ?_;refine uBi (xs:=s.map fun c=>AV.str [c] none) (I:=FtI H w s g' c1) ?_ ?_ ?_ lim 0 _ (Nat.zero_le _) (by rw [List.length_map];exact Nat.lt_of_lt_of_le hs (by decide)) ?_
 ·rintro p σ _;exact uYl
 ·rintro p v ⟨L',H'⟩ hv hz;refine Classical.byContradiction fun hn=>?_;obtain ⟨pa,ps,x',f0,⟨o,f1⟩,f2,f3,f4,⟨f5,f7⟩,f6⟩:=hz;refine hn ?_;clear hn;dsimp only at f0 f1 f2 f4;rw [List.getElem?_map] at hv;generalize hc:s[p]?=zz;induction zz using Option.casesOn with
  | none=>rw [hc] at hv;cases hv
  | some c=>
  rw [hc] at hv;cases hv;have hnext:uA4 w c ps=(s.take (p+1)).foldl (fun ps c=>uA4 w c ps) [0]:=by
   rw [List.take_add_one,hc,List.foldl_append,← f6];rfl
  fail "!st";refine uF1 rfl rfl f1 ?_;have g0:(H'.set c1 (AO.cell (some (.str [c] none))))[H.length]?=some (AO.cell (some (.str w g'))):=uAa (by omega) f0;have g1:(H'.set c1 (AO.cell (some (.str [c] none))))[c1]?=some (AO.cell (some (.str [c] none))):=set_same f1;have g4:(H'.set c1 (AO.cell (some (.str [c] none))))[pa]?=some (.list (pl ps)):=uAa (by omega) f4;have x2:Ext H (H'.set c1 (AO.cell (some (.str [c] none)))):=x'.set (by omega);generalize H'.set c1 (AO.cell (some (.str [c] none)))=H2 at *
  repeat fail "!st"
  rw [show tl (Str.ofString "*")=[42] from rfl];by_cases h42:c=42
  ·subst h42;refine ⟨fun _=>?_,fun q=>by (simp at q)⟩
   repeat fail "!st"
   refine uGl (uGr (by fail "!hp") (by fail "!hp")) ?_;induction ps using List.casesOn with
   | nil=>
    refine ⟨fun q=>by (simp [pl] at q),fun _=>?_⟩
    repeat fail "!st"
    try dsimp only
    exact ⟨_,[],by fail "!ex",by fail "!hp",⟨_,by fail "!hp"⟩,by fail "!lk",by have:=uAe g1;simp;omega,uAl _ _,⟨f5,f7⟩,hnext⟩
   | cons p0 ps=>
    have b0:=f5 p0 (.head _);refine ⟨fun _=>?_,fun q=>by (simp [pl] at q)⟩
    repeat fail "!st"
    refine uAt (xs:=pl (p0::ps)) (v:=.int p0) (by fail "!hp") (uB5 (k:=0) rfl) ?_
    repeat fail "!st"
    refine uKi (m:=(p0:Int)) (n:=(w.length:Int)+1) (by fail "!hp") (by rw [uDx (by omega),uGq (by omega)];rfl) ?_;rw [uJv]
    repeat fail "!st"
    try dsimp only
    exact ⟨_,_,by fail "!ex",by fail "!hp",⟨_,by fail "!hp"⟩,by fail "!lk",by have:=uAe g1;simp;omega,uAl _ _,⟨uJg (c:=42) f5,uF5 (c:=42) hw f7⟩,hnext⟩
  ·refine ⟨fun q=>by (simp [h42] at q),fun _=>?_⟩
   repeat fail "!st"
   refine uAu rfl (by decide) rfl rfl ?_
   repeat fail "!st"
   refine uFw (by fail "!hp") ?_;refine uAy (xs:=pl ps) (intB fun k=>decide (k<w.length)&&(decide (c=63)||decide (w[k]?=some c))) (intF fun k=>.int (k+1:Nat)) ?_ rfl ?_ ?_ ?_ ?_
   ·unfold pl;rw [List.length_map];exact Nat.lt_of_le_of_lt f7 (by decide)
   ·intro p L H3 x3;exact uBp (x3 _ _ g4)
   ·intro v hv H3 x3;obtain ⟨k,hk,rfl⟩:=uEi hv
    repeat fail "!st"
    by_cases hlt:k<w.length
    ·refine ⟨fun _=>?_,fun q=>by (simp at q;omega)⟩
     repeat fail "!st"
     refine uBw (v:=.str [w[k]] none) (uCr (List.getElem?_eq_getElem hlt)) ?_
     repeat fail "!st"
     refine uFd (uAl _ _) (b:=decide ([63]=[c])||(decide ([w[k]]=[c])||false)) rfl ?_;refine ⟨?_,rfl,by fail "!ex"⟩;show _=(decide (k<w.length)&&(decide (c=63)||decide (w[k]?=some c)))
     rw [List.getElem?_eq_getElem hlt,decide_eq_true hlt];simp [eq_comm]
    ·refine ⟨fun q=>by (simp at q;omega),fun _=>?_⟩;refine ⟨?_,rfl,Ext.refl _⟩;show _=(decide (k<w.length)&&_)
     rw [decide_eq_false hlt];rfl
   ·intro v hv hc H3 x3;obtain ⟨k,hk,rfl⟩:=uEi hv
    repeat fail "!st"
    exact ⟨rfl,rfl,Ext.refl _⟩
   ·intro H3 x3 h3;rw [uC5,uLb] at h3
    repeat fail "!st"
    try dsimp only
    refine ⟨H2.length,uA4 w c ps,by fail "!ex",by fail "!hp",⟨_,by fail "!hp"⟩,by fail "!lk",uAe g1,?_,⟨uJg f5,uF5 hw f7⟩,hnext⟩;rw [h3];unfold uA4;rw [if_neg h42];unfold pl;rw [List.map_map];rfl
 ·rintro ⟨L',H'⟩ ⟨pa,ps,x',f0,⟨o,f1⟩,f2,f3,f4,f5,f6⟩;dsimp only at f0 f1 f2 f4
  repeat fail "!st"
  refine uFd f4 (uEz _ _) ?_
  repeat fail "!st"
  rw [List.length_map,List.take_length] at f6;rw [f6];exact q _ x'
 ·refine ⟨H1.length,[0],by fail "!ex",by fail "!hp",⟨_,by fail "!hp"⟩,by fail "!lk",by omega,uAl _ _,⟨by simp,by simp⟩,by simp⟩
end
noncomputable def badC:List Nat:=[40,41,91,93,123,125,63,42,43,124,94,36]
noncomputable def tk(w:List Nat):Nat→List Nat→Nat→List Nat→Option Bool
 | 0,_,_,_=>none
 | n+1,t,deep,ps=>match t with
  | []=>some (decide (deep≠1)&&ps.contains w.length)
  | c::t'=>if ps=[] then some (decide (deep≠1)&&ps.contains w.length) else
   if (c::t').take 6=[40,63,62,46,42,63]∧deep=0 then tk w n ((c::t').drop 6) 1 (uA4 w 42 ps)
   else if c=41∧deep=1 then tk w n t' 0 (ps.take 1)
   else if c::t'.take 1=[46,42]∧deep=0 then tk w n (t'.drop 1) 2 (uA4 w 42 ps)
   else if badC.contains c then some false
   else if c=92 then (if t'.take 1=[46] then tk w n (t'.drop 1) deep (uA4 w 46 ps) else none)
   else tk w n t' deep (uA4 w (if c=46 then 63 else c) ps)
theorem uKs{α:Type}{xs:List α}{k m:Nat}(h:k≤xs.length):cut xs (some (k:Int)) (some ((k:Int)+(m:Int)))=(xs.drop k).take m:=by
 unfold cut bnd;dsimp only;rw [if_pos (by omega),if_pos (by omega),show ((k:Int)+(m:Int)).toNat=k+m by omega,show (k:Int).toNat=k by omega,Nat.min_eq_left h];rw [List.drop_take];rcases Nat.le_total (k+m) xs.length with q|q
 ·rw [Nat.min_eq_left q,Nat.add_sub_cancel_left]
 ·rw [Nat.min_eq_right q,List.take_of_length_le (by simp),List.take_of_length_le (by simp;omega)]
theorem uTt(ps:List Nat):cut (pl ps) none (some 1)=pl (ps.take 1):=by
 unfold cut bnd;dsimp only;rw [if_pos (by decide),List.drop_zero];unfold pl;rw [List.map_take,show min (1:Int).toNat (ps.map fun (k:Nat)=>AV.int k).length=min 1 ps.length by simp];rcases Nat.le_total 1 ps.length with q|q
 ·rw [Nat.min_eq_left q]
 ·rw [Nat.min_eq_right q,List.take_of_length_le (by simp),List.take_of_length_le (by simpa using q)]
theorem uPi{ps:List Nat}{m:Nat}(h:∀ p∈ps,p≤m):∀ p∈ps.take 1,p≤m:=fun p hp=>h p (List.mem_of_mem_take hp)
theorem uT0{A B:Prop}[Decidable A][Decidable B](h:decide A=false):false=decide (A∧B):=by
 have:=of_decide_eq_false h;simp [this]
theorem uTu{A B:Prop}[Decidable A][Decidable B](h:decide A=true):decide B=decide (A∧B):=by
 have:=of_decide_eq_true h;simp [this]
theorem uKc(j k:Nat):decide ((j:Int)=(k:Int))=decide (j=k):=by
 by_cases h:j=k
 ·subst h;simp
 ·rw [decide_eq_false h,decide_eq_false (by omega)]
theorem uM7(p q s:List Nat)(hp:p.length=4)(hq:q.length=3):cut (p++s++q) (some 4) (some (-3))=s:=by
 unfold cut bnd;dsimp only;rw [if_pos (by decide),if_neg (by decide)];simp only [List.length_append,hp,hq];rw [show min (4:Int).toNat (4+s.length+3)=4 by simp;omega,show (4+s.length+3)-(-(-3:Int)).toNat=4+s.length by simp];rw [List.take_append_of_le_length (by simp [hp]),List.take_of_length_le (by simp [hp]),List.drop_append_of_le_length (by simp [hp]),List.drop_of_length_le (by simp [hp])];rfl
section
variable {w t ps:List Nat}{n c deep:Nat}(hp:ps≠[])
include hp
theorem tk_A(hA:(c::t).take 6=[40,63,62,46,42,63]∧deep=0):tk w (n+1) (c::t) deep ps=tk w n ((c::t).drop 6) 1 (uA4 w 42 ps):=(if_neg hp).trans (if_pos hA)
variable (hA:¬ ((c::t).take 6=[40,63,62,46,42,63]∧deep=0))
include hA
theorem tk_B(hB:c=41∧deep=1):tk w (n+1) (c::t) deep ps=tk w n t 0 (ps.take 1):=(if_neg hp).trans ((if_neg hA).trans (if_pos hB))
variable (hB:¬ (c=41∧deep=1))
include hB
theorem tk_C(hC:c::t.take 1=[46,42]∧deep=0):tk w (n+1) (c::t) deep ps=tk w n (t.drop 1) 2 (uA4 w 42 ps):=(if_neg hp).trans ((if_neg hA).trans ((if_neg hB).trans (if_pos hC)))
variable (hC:¬ (c::t.take 1=[46,42]∧deep=0))
include hC
theorem uTz:tk w (n+1) (c::t) deep ps=if badC.contains c=true then some false
   else if c=92 then (if t.take 1=[46] then tk w n (t.drop 1) deep (uA4 w 46 ps) else none)
   else tk w n t deep (uA4 w (if c=46 then 63 else c) ps):=(if_neg hp).trans ((if_neg hA).trans ((if_neg hB).trans (if_neg hC)))
end
theorem uW5{w:List Nat}{n:Nat}{t:List Nat}{deep:Nat}{ps:List Nat}{b:Bool}(e:tk w (n+1) t deep ps=some b)(h:t=[]∨ps=[]):b=(decide (deep≠1)&&ps.contains w.length):=by
 rcases h with rfl|rfl
 ·exact (Option.some.inj e).symm
 ·induction t using List.casesOn with
  | nil=>exact (Option.some.inj e).symm
  | cons c t=>exact (Option.some.inj (show some (decide (deep≠1)&&([]:List Nat).contains w.length)=some b from e)).symm
inductive TkI(c0 c1 c2 c3:Nat)(s w:List Nat)(g':Option Nat)(b:Bool)(H:List AO)(m:Nat)(σ:St):Prop
 | mk (kk deep:Nat) (ps:List Nat) (pa nf:Nat):(kk≤s.length∧m=s.length-kk)→tk w nf (s.drop kk) deep ps=some b→Ext H σ.H→σ.H[c0]?=some (AO.cell (some (.str w g')))→σ.H[c1]?=some (AO.cell (some (.str s none)))→σ.H[c2]?=some (AO.cell (some (.int (kk:Nat))))→(∃ o,σ.H[c3]?=some (AO.cell o))→σ.L.lookup (sn "places")=some (.ref pa)→c3<pa→σ.H[pa]?=some (.list (pl ps))→((∀ p∈ps,p≤w.length)∧ps.length≤60)→σ.L.lookup (sn "deep")=some (.int (deep:Nat))→TkI c0 c1 c2 c3 s w g' b H m σ
section
variable {a:Addr}{ns:List Int}{n:Nat}{L:List (Str×AV)}{H:List AO}{Q:AV→St→Prop}
theorem uRg{s w:List Nat}{g g':Option Nat}{b:Bool}(hs:s.length<70)(hw:w.length<60)(ht:tk w 71 s 0 [0]=some b)(q:∀ H',Ext H H'→Q (.bool b) ⟨L,H'⟩):Ok ((run (PGs a ns) (n+16)).call (fr 262) [.str (tl (sn "(?s:")++s++tl (sn ")\\Z")) g,.str w g']) ⟨L,H⟩ Q:=by
 have hc:bindP (uAd "_law_takes" false (top 28)) [.str (tl (sn "(?s:")++s++tl (sn ")\\Z")) g,.str w g'] ⟨L,H⟩=some (.ok [(sn "text",.str (tl (sn "(?s:")++s++tl (sn ")\\Z")) g),(sn "word",.str w g')],⟨L,H⟩):=rfl;refine uG5 (f:=uAd "_law_takes" false (top 28)) (H2:=(((H++[AO.cell (some (.str w g'))])++[AO.cell none])++[AO.cell none])++[AO.cell none]) [(sn "text",.str (tl (sn "(?s:")++s++tl (sn ")\\Z")) g)]
  [(sn "word",H.length),(sn "inner",(H++[AO.cell (some (.str w g'))]).length),(sn "k",((H++[AO.cell (some (.str w g'))])++[AO.cell none]).length),(sn "step",(((H++[AO.cell (some (.str w g'))])++[AO.cell none])++[AO.cell none]).length)] rfl hc rfl rfl rfl ?_
 have e0:((((H++[AO.cell (some (.str w g'))])++[AO.cell none])++[AO.cell none])++[AO.cell none])[H.length]?=some (AO.cell (some (.str w g'))):=by fail "!hp"
 have e1:((((H++[AO.cell (some (.str w g'))])++[AO.cell none])++[AO.cell none])++[AO.cell none])[(H++[AO.cell (some (.str w g'))]).length]?=some (AO.cell none):=by fail "!hp"
 have e2:((((H++[AO.cell (some (.str w g'))])++[AO.cell none])++[AO.cell none])++[AO.cell none])[((H++[AO.cell (some (.str w g'))])++[AO.cell none]).length]?=some (AO.cell none):=by fail "!hp"
 have e3:((((H++[AO.cell (some (.str w g'))])++[AO.cell none])++[AO.cell none])++[AO.cell none])[(((H++[AO.cell (some (.str w g'))])++[AO.cell none])++[AO.cell none]).length]?=some (AO.cell none):=by fail "!hp"
 have x:Ext H ((((H++[AO.cell (some (.str w g'))])++[AO.cell none])++[AO.cell none])++[AO.cell none]):=by fail "!ex"
 have l1:(H++[AO.cell (some (.str w g'))]).length=H.length+1:=by simp
 have l2:((H++[AO.cell (some (.str w g'))])++[AO.cell none]).length=H.length+2:=by simp
 have l3:(((H++[AO.cell (some (.str w g'))])++[AO.cell none])++[AO.cell none]).length=H.length+3:=by simp
 have l4:((((H++[AO.cell (some (.str w g'))])++[AO.cell none])++[AO.cell none])++[AO.cell none]).length=H.length+4:=by simp
 generalize ((((H++[AO.cell (some (.str w g'))])++[AO.cell none])++[AO.cell none])++[AO.cell none])=H1 at *;generalize (((H++[AO.cell (some (.str w g'))])++[AO.cell none])++[AO.cell none]).length=c3 at *;generalize ((H++[AO.cell (some (.str w g'))])++[AO.cell none]).length=c2 at *;generalize (H++[AO.cell (some (.str w g'))]).length=c1 at *;refine uAx ?_
 repeat fail "!st"
 rw [uM7 _ _ _ rfl rfl]
 repeat fail "!st"
 have lA:(tl (Str.ofString "(?s:")).length=4:=rfl;have lB:(tl (Str.ofString ")\\Z")).length=3:=rfl;refine uT1 (by simp only [List.length_append,lA];unfold lz;omega) ?_
 repeat fail "!st"
 refine uT1 (by simp only [List.length_append,lA,lB];unfold lz;omega) ?_
 repeat fail "!st"
 refine ⟨fun q=>by (simp at q),fun _=>?_⟩
 repeat fail "!st"
 refine uCj (I:=TkI H.length c1 c2 c3 s w g' b H) ?_ lim (s.length) _ (Nat.lt_of_lt_of_le hs (by decide)) ?_
 ·rintro m ⟨L',H'⟩ hz;refine Classical.byContradiction fun hn=>?_;obtain ⟨kk,deep,ps,pa,nf,⟨hk,hm⟩,htk,x',f0,f1,f2,⟨o,f3⟩,f4,f5,f6,⟨f7,f8⟩,f9⟩:=hz;refine hn ?_;clear hn;dsimp only at x' f0 f1 f2 f3 f4 f6 f9;induction nf using Nat.casesOn with
  | zero=>cases htk
  | succ nf=>
  have hend:(s.drop kk=[]∨ps=[])→b=(decide (deep≠1)&&ps.contains w.length):=uW5 htk
  repeat fail "!st"
  refine ⟨fun h1=>?_,fun h1=>⟨fun q=>by (cases q),fun _=>?_⟩⟩
  ·have h1':kk<s.length:=by simpa using h1
   repeat fail "!st"
   refine uGl (uGr (by fail "!hp") (by fail "!hp")) ?_;by_cases hps:ps=[]
   ·refine ⟨fun q=>by (simp [pl,hps] at q),fun _=>?_⟩;have hb:=hend (.inr hps)
    repeat fail "!st"
    by_cases hd1:deep=1
    ·refine ⟨fun q=>by (simp [hd1] at q),fun _=>?_⟩
     repeat fail "!st"
     rw [show (!decide ((deep:Int)=1))=b by rw [hb];simp [hd1]];exact q _ (by fail "!ex")
    ·refine ⟨fun _=>?_,fun q=>by (simp at q;omega)⟩
     repeat fail "!st"
     refine uFd (by fail "!hp") (uEz _ _) ?_
     repeat fail "!st"
     rw [show ps.contains w.length=b by rw [hb];simp [hd1]];exact q _ (by fail "!ex")
   ·refine ⟨fun _=>?_,fun q=>by (simp [pl,hps] at q)⟩;obtain ⟨c,t,hd⟩ : ∃ c t,s.drop kk=c::t:=by
     generalize hd:s.drop kk=zz;induction zz using List.casesOn with
     | nil=>have:=congrArg List.length hd;simp at this;omega
     | cons c t=>exact ⟨c,t,rfl⟩
    have hcc:s[kk]?=some c:=by
     have:=List.getElem?_drop (xs:=s) (i:=kk) (j:=0);rw [hd] at this;simpa using this.symm
    have hd1:s.drop (kk+1)=t:=by rw [← List.drop_drop,hd];rfl
    have hcut1:cut s (some ((kk:Int)+1)) (some ((kk:Int)+2))=t.take 1:=by
     have:=uKs (xs:=s) (k:=kk+1) (m:=1) h1';rw [hd1] at this;rw [← this]
     congr 2
    have hcut6:cut s (some (kk:Int)) (some ((kk:Int)+6))=(c::t).take 6:=by
     have:=uKs (xs:=s) (k:=kk) (m:=6) hk;rw [hd] at this;exact this
    rw [hd] at htk
    repeat fail "!su"
    rw [hcut1];generalize hHs:(H'++[AO.list []]++[AO.tup [AV.int 1,AV.str (List.take 1 t)]]).set c3 (AO.cell (some (AV.int 1)))=H2;have r0:H2[H.length]?=some (AO.cell (some (.str w g'))):=by rw [← hHs];fail "!hp"
    have r1:H2[c1]?=some (AO.cell (some (.str s none))):=by rw [← hHs];fail "!hp"
    have r2:H2[c2]?=some (AO.cell (some (.int (kk:Nat)))):=by rw [← hHs];fail "!hp"
    have r3:H2[c3]?=some (AO.cell (some (.int 1))):=by rw [← hHs];fail "!hp"
    have r4:H2[pa]?=some (.list (pl ps)):=by rw [← hHs];fail "!hp"
    have x2:Ext H H2:=by rw [← hHs];exact (Ext.trans x' (by fail "!ex")).set (by omega)
    clear hHs;generalize hLs:uD0 (Str.ofString "behind") (AV.str (List.take 1 t)) L'=L2;have m0:L2.lookup (sn "behind")=some (.str (t.take 1) none):=by rw [← hLs];fail "!lk"
    have m1:L2.lookup (sn "places")=some (.ref pa):=by rw [← hLs];fail "!lk"
    have m2:L2.lookup (sn "deep")=some (.int (deep:Nat)):=by rw [← hLs];fail "!lk"
    clear hLs;obtain ⟨p0,ps',hps'⟩ : ∃ p0 ps',ps=p0::ps':=by
     induction ps using List.casesOn with
     | nil=>exact absurd rfl hps
     | cons p0 ps'=>exact ⟨p0,ps',rfl⟩
    have b0:p0≤w.length:=f7 p0 (by rw [hps'];exact .head _);have hk1:kk+1≤s.length:=h1';refine uRk (decide ((c::t).take 6=[40,63,62,46,42,63]∧deep=0)) ?_ ?_
    ·repeat fail "!su"
     rw [hcut6,show tl (Str.ofString "(?>.*?")=[40,63,62,46,42,63] from rfl];refine ⟨fun hA=>?_,fun hA=>⟨uT0 hA,rfl,Ext.refl _⟩⟩
     repeat fail "!su"
     exact ⟨(uKc deep 0).trans (uTu hA),rfl,by fail "!ex"⟩
    intro H3 x3;have hl3:=uAe (x3 _ _ r3);by_cases hA:(c::t).take 6=[40,63,62,46,42,63]∧deep=0
    ·refine ⟨fun _=>?_,fun q=>by (rw [decide_eq_true hA] at q;cases q)⟩;rw [tk_A hps hA] at htk;have hl6:kk+6≤s.length:=by
      have h6:=congrArg List.length hA.1;have hdl:=congrArg List.length hd;simp at h6 hdl;omega
     rw [← hd,List.drop_drop] at htk
     repeat fail "!su"
     refine uAt (xs:=pl ps) (v:=.int p0) (by fail "!hp") (uB5 (k:=0) (by rw [hps'];rfl)) ?_
     repeat fail "!su"
     refine uKi (m:=(p0:Int)) (n:=(w.length:Int)+1) (by fail "!hp") (by rw [uDx (by omega),uGq (by omega)];rfl) ?_;rw [uJv]
     repeat fail "!su"
     refine ⟨s.length-(kk+6),by omega,kk+6,1,_,_,nf,⟨hl6,rfl⟩,htk,?_,by fail "!hp",by fail "!hp",?_,⟨_,by fail "!hp"⟩,by fail "!lk",?_,?_,⟨uJg f7,uF5 hw f8⟩,?_⟩
     ·exact ((x2.trans (by fail "!ex")).set (by omega)).set (by omega)
     ·show _=some (AO.cell (some (AV.int ((kk:Int)+6))));fail "!hp"
     ·simp;omega
     ·rw [show uA4 w 42 ps=(List.range (w.length+1-p0)).map (p0 + ·) by rw [hps'];rfl];fail "!hp"
     ·show _=some (AV.int 1);fail "!lk"
    ·refine ⟨fun q=>by (rw [decide_eq_false hA] at q;cases q),fun _=>?_⟩;have nA:=hA;clear hA
     repeat fail "!su"
     refine uRk (decide (c=41∧deep=1)) ?_ ?_
     ·repeat fail "!su"
      refine uBw (uCr hcc) ?_
      repeat fail "!su"
      rw [show decide ([c]=tl (Str.ofString ")"))=decide (c=41) by simp [show tl (Str.ofString ")")=[41] from rfl]];refine ⟨fun hA=>?_,fun hA=>⟨uT0 hA,rfl,Ext.refl _⟩⟩
      repeat fail "!su"
      exact ⟨(uKc deep 1).trans (uTu hA),rfl,by fail "!ex"⟩
     intro H4 x4;have y4:Ext H2 H4:=x3.trans x4;clear x3 x4 hl3;have hl4:=uAe (y4 _ _ r3);by_cases hA:c=41∧deep=1
     ·refine ⟨fun _=>?_,fun q=>by (rw [decide_eq_true hA] at q;cases q)⟩;rw [tk_B hps nA hA,← hd1] at htk
      repeat fail "!su"
      refine uIu (xs:=pl ps) (by fail "!hp") ?_;rw [uTt]
      repeat fail "!su"
      refine ⟨s.length-(kk+1),by omega,kk+1,0,_,_,nf,⟨hk1,rfl⟩,htk,?_,by fail "!hp",by fail "!hp",?_,⟨_,by fail "!hp"⟩,by fail "!lk",?_,by fail "!hp",⟨uPi f7,by simp;omega⟩,?_⟩
      ·exact (x2.trans (by fail "!ex")).set (by omega)
      ·show _=some (AO.cell (some (AV.int ((kk:Int)+1))));fail "!hp"
      ·omega
      ·show _=some (AV.int 0);fail "!lk"
     ·refine ⟨fun q=>by (rw [decide_eq_false hA] at q;cases q),fun _=>?_⟩;have nB:=hA;clear hA;have ht1:(t.take 1).length≤1:=by simp;omega
      repeat fail "!su"
      refine uRk (decide (c::t.take 1=[46,42]∧deep=0)) ?_ ?_
      ·repeat fail "!su"
       refine uBw (uCr hcc) ?_
       repeat fail "!su"
       refine uT1 (by simp only [List.length_append,List.length_cons,List.length_nil];unfold lz;omega) ?_
       repeat fail "!su"
       rw [show decide ([c]++t.take 1=tl (Str.ofString ".*"))=decide (c::t.take 1=[46,42]) from rfl];refine ⟨fun hA=>?_,fun hA=>⟨uT0 hA,rfl,Ext.refl _⟩⟩
       repeat fail "!su"
       exact ⟨(uKc deep 0).trans (uTu hA),rfl,by fail "!ex"⟩
      intro H5 x5;have y5:Ext H2 H5:=y4.trans x5;clear x5 y4 hl4;have hl5:=uAe (y5 _ _ r3);by_cases hA:c::t.take 1=[46,42]∧deep=0
      ·refine ⟨fun _=>?_,fun q=>by (rw [decide_eq_true hA] at q;cases q)⟩;rw [tk_C hps nA nB hA] at htk;have hl2:kk+2≤s.length:=by
        have h6:=congrArg List.length hA.1;have hdl:=congrArg List.length hd;simp at h6 hdl;omega
       rw [← hd1,List.drop_drop] at htk
       repeat fail "!su"
       refine uAt (xs:=pl ps) (v:=.int p0) (by fail "!hp") (uB5 (k:=0) (by rw [hps'];rfl)) ?_
       repeat fail "!su"
       refine uKi (m:=(p0:Int)) (n:=(w.length:Int)+1) (by fail "!hp") (by rw [uDx (by omega),uGq (by omega)];rfl) ?_;rw [uJv]
       repeat fail "!su"
       refine ⟨s.length-(kk+2),by omega,kk+2,2,_,_,nf,⟨hl2,rfl⟩,htk,?_,by fail "!hp",by fail "!hp",?_,⟨_,by fail "!hp"⟩,by fail "!lk",?_,?_,⟨uJg f7,uF5 hw f8⟩,?_⟩
       ·exact ((x2.trans (by fail "!ex")).set (by omega)).set (by omega)
       ·show _=some (AO.cell (some (AV.int ((kk:Int)+2))));fail "!hp"
       ·simp;omega
       ·rw [show uA4 w 42 ps=(List.range (w.length+1-p0)).map (p0 + ·) by rw [hps'];rfl];fail "!hp"
       ·show _=some (AV.int 2);fail "!lk"
      ·refine ⟨fun q=>by (rw [decide_eq_false hA] at q;cases q),fun _=>?_⟩;rw [uTz hps nA nB hA] at htk;clear hA
       repeat fail "!su"
       refine uRk (badC.contains c) ?_ ?_
       ·repeat fail "!su"
        refine uBw (uCr hcc) ?_
        repeat fail "!su"
        rw [show (tl (Str.ofString "()[]{}?*+|^$")).contains c=badC.contains c from rfl];refine ⟨fun hb=>?_,fun hb=>⟨hb.symm,rfl,Ext.refl _⟩⟩;rw [hb,if_neg Bool.false_ne_true] at htk;rw [hb]
        repeat fail "!su"
        refine uBw (uCr hcc) ?_
        repeat fail "!su"
        rw [show decide ([c]=tl (Str.ofString "\\"))=decide (c=92) by simp [show tl (Str.ofString "\\")=[92] from rfl]];refine ⟨fun hA=>?_,fun hA=>⟨rfl,rfl,Ext.refl _⟩⟩;rw [if_pos (of_decide_eq_true hA)] at htk;by_cases ht:t.take 1=[46]
        ·rw [ht] at m0
         repeat fail "!su"
         refine ⟨fun _=>?_,fun q=>by (exact absurd q (by decide))⟩;refine uEr rfl ?_
         repeat fail "!su"
         refine uDi rfl ?_
         repeat fail "!su"
         exact ⟨rfl,rfl,by fail "!ex"⟩
        ·rw [if_neg ht] at htk;cases htk
       intro H6 x6;have y6:Ext H2 H6:=y5.trans x6;clear x6 y5 hl5;have hl6:=uAe (y6 _ _ r3);generalize hb:badC.contains c=zz;induction zz using Bool.casesOn with
       | true=>
        rw [hb,if_pos rfl] at htk;refine ⟨fun _=>?_,fun q=>by (cases q)⟩
        repeat fail "!su"
        cases htk;exact q _ (x2.trans y6)
       | false=>
        rw [hb,if_neg Bool.false_ne_true] at htk;refine ⟨fun q=>by (cases q),fun _=>?_⟩;obtain ⟨stp,cc,ch,hst,hks,hch,hcase,hcc2,htk'⟩ : ∃ stp cc ch:Nat,(if c=92 then 2 else 1)=stp∧kk+stp≤s.length∧s[kk+stp-1]?=some ch∧(∀ o:Option Nat,(decide (cc=63)||decide (o=some cc))=(decide (c=46)||decide (o=some ch)))∧cc≠42∧tk w nf (s.drop (kk+stp)) deep (uA4 w cc ps)=some b:=by
         by_cases h92:c=92
         ·rw [if_pos h92] at htk;by_cases ht:t.take 1=[46]
          ·rw [if_pos ht] at htk;induction t using List.casesOn with
           | nil=>cases ht
           | cons c' t'=>
            have hc':c'=46:=by simpa using ht
            subst hc';have h2:s[kk+1]?=some 46:=by
             have:=List.getElem?_drop (xs:=s) (i:=kk+1) (j:=0);rw [hd1] at this;simpa using this.symm
            have hl:kk+1<s.length:=by
             rcases Nat.lt_or_ge (kk+1) s.length with q|q
             ·exact q
             ·rw [List.getElem?_eq_none q] at h2;cases h2
            refine ⟨2,46,46,by rw [if_pos h92],by omega,h2,fun o=>by simp [h92],by decide,?_⟩;rw [← hd1,List.drop_drop] at htk;exact htk
          ·rw [if_neg ht] at htk;cases htk
         ·rw [if_neg h92] at htk;rw [← hd1] at htk;by_cases h46:c=46
          ·rw [if_pos h46] at htk;exact ⟨1,63,c,by rw [if_neg h92],hk1,hcc,fun o=>by simp [h46],by decide,htk⟩
          ·rw [if_neg h46] at htk;have h63:c≠63:=fun e=>by rw [e] at hb;exact absurd hb (by decide)
           exact ⟨1,c,c,by rw [if_neg h92],hk1,hcc,fun o=>by simp [h46,h63],fun e=>by rw [e] at hb;exact absurd hb (by decide),htk⟩
        have hst':1≤stp∧stp≤2:=by rw [← hst];split<;>omega
        repeat fail "!su"
        refine uAc (Q':=(Kp (.int (stp:Nat)) L2 H6)) (uJ6 ?_) ?_
        ·repeat fail "!su"
         refine uBw (uCr hcc) ?_
         repeat fail "!su"
         rw [show decide ([c]=tl (Str.ofString "\\"))=decide (c=92) by simp [show tl (Str.ofString "\\")=[92] from rfl]];refine ⟨fun h=>?_,fun h=>?_⟩
         ·rw [if_pos (of_decide_eq_true h)] at hst
          repeat fail "!su"
          subst hst;exact ⟨rfl,rfl,by fail "!ex"⟩
         ·rw [if_neg (of_decide_eq_false h)] at hst
          repeat fail "!su"
          subst hst;exact ⟨rfl,rfl,by fail "!ex"⟩
        rintro v ⟨L7,H7⟩ ⟨rfl,rfl,x7⟩;have y7:Ext H2 H7:=y6.trans x7
        repeat fail "!su"
        generalize hHs:H7.set c3 (AO.cell (some (AV.int (stp:Nat))))=H8;have r0':H8[H.length]?=some (AO.cell (some (.str w g'))):=by rw [← hHs];fail "!hp"
        have r1':H8[c1]?=some (AO.cell (some (.str s none))):=by rw [← hHs];fail "!hp"
        have r2':H8[c2]?=some (AO.cell (some (.int (kk:Nat)))):=by rw [← hHs];fail "!hp"
        have r3':H8[c3]?=some (AO.cell (some (.int (stp:Nat)))):=by rw [← hHs];fail "!hp"
        have r4':H8[pa]?=some (.list (pl ps)):=by rw [← hHs];fail "!hp"
        have x8:Ext H H8:=by rw [← hHs];exact (x2.trans y7).set (by omega)
        clear hHs;refine uAu rfl (by decide) rfl rfl ?_
        repeat fail "!su"
        refine uFw (by fail "!hp") ?_;refine uAy (xs:=pl ps) (intB fun p=>decide (p<w.length)&&(decide (c=46)||decide (w[p]?=some ch))) (intF fun k=>.int (k+1:Nat)) ?_ rfl ?_ ?_ ?_ ?_
        ·unfold pl;rw [List.length_map];exact Nat.lt_of_le_of_lt f8 (by decide)
        ·intro p L H9 x9;exact uBp (x9 _ _ r4')
        ·intro v hv H9 x9;obtain ⟨p,hp,rfl⟩:=uEi hv
         repeat fail "!su"
         by_cases hlt:p<w.length
         ·refine ⟨fun _=>?_,fun q=>by (simp at q;omega)⟩
          repeat fail "!su"
          refine uBw (uCr hcc) ?_
          repeat fail "!su"
          rw [show decide ([c]=tl (Str.ofString "."))=decide (c=46) by simp [show tl (Str.ofString ".")=[46] from rfl]];by_cases h46:c=46
          ·rw [decide_eq_true h46];refine ⟨fun q=>by (cases q),fun _=>⟨?_,rfl,Ext.refl _⟩⟩;show true=(decide (p<w.length)&&(true||_))
           rw [decide_eq_true hlt];rfl
          ·rw [decide_eq_false h46];refine ⟨fun _=>?_,fun q=>by (cases q)⟩
           repeat fail "!su"
           refine uBw (uCr (List.getElem?_eq_getElem hlt)) ?_
           repeat fail "!su"
           rw [show (kk:Int)+(stp:Int)-1=((kk+stp-1:Nat):Int) by omega];refine uBw (uCr hch) ?_
           repeat fail "!su"
           refine ⟨?_,rfl,Ext.refl _⟩;show decide ([w[p]]=[ch])=(decide (p<w.length)&&(false||decide (w[p]?=some ch)))
           rw [decide_eq_true hlt,List.getElem?_eq_getElem hlt];simp
         ·refine ⟨fun q=>by (simp at q;omega),fun _=>⟨?_,rfl,Ext.refl _⟩⟩;show _=(decide (p<w.length)&&_)
          rw [decide_eq_false hlt];rfl
        ·intro v hv hc H9 x9;obtain ⟨k,hk,rfl⟩:=uEi hv
         repeat fail "!su"
         exact ⟨rfl,rfl,Ext.refl _⟩
        ·intro H9 x9 h9;rw [uC5,uLb] at h9
         repeat fail "!su"
         have hfs:(ps.filter fun p=>decide (p<w.length)&&(decide (c=46)||decide (w[p]?=some ch))).map (fun k=>AV.int (k+1:Nat))=pl (uA4 w cc ps):=by
          unfold uA4 pl;rw [if_neg hcc2,List.map_map];simp only [hcase];rfl
         rw [hfs] at h9;have hl9:=uAe h9;have hl8:=uAe r3';refine ⟨s.length-(kk+stp),by omega,kk+stp,deep,_,_,nf,⟨hks,rfl⟩,htk',?_,by fail "!hp",by fail "!hp",?_,⟨_,by fail "!hp"⟩,by fail "!lk",?_,by fail "!hp",⟨uJg f7,uF5 hw f8⟩,by fail "!lk"⟩
         ·exact (x8.trans x9).set (by omega)
         ·show _=some (AO.cell (some (AV.int ((kk:Int)+(stp:Int)))));fail "!hp"
         ·omega
  ·have h1':kk=s.length:=by simp at h1;omega
   have hb:=hend (.inl (by rw [h1',List.drop_length]))
   repeat fail "!st"
   by_cases hd1:deep=1
   ·refine ⟨fun q=>by (simp [hd1] at q),fun _=>?_⟩
    repeat fail "!st"
    rw [show (!decide ((deep:Int)=1))=b by rw [hb];simp [hd1]];exact q _ (by fail "!ex")
   ·refine ⟨fun _=>?_,fun q=>by (simp at q;omega)⟩
    repeat fail "!st"
    refine uFd (by fail "!hp") (uEz _ _) ?_
    repeat fail "!st"
    rw [show ps.contains w.length=b by rw [hb];simp [hd1]];exact q _ (by fail "!ex")
 ·refine ⟨0,0,[0],H1.length,71,⟨Nat.zero_le _,rfl⟩,ht,?_,by fail "!hp",by fail "!hp",?_,⟨_,by fail "!hp"⟩,by fail "!lk",by omega,?_,⟨by simp,by simp⟩,?_⟩
  ·exact ((Ext.trans x (by fail "!ex")).set (by omega)).set (by omega)
  ·show _=some (AO.cell (some (AV.int 0)));fail "!hp"
  ·show _=some (AO.list [AV.int 0]);fail "!hp"
  ·show _=some (AV.int 0);fail "!lk"
end
noncomputable def itV(sr:Nat):Option (List Nat)→AV
 | none=>.ref sr
 | some s=>.str s none
noncomputable def escF(c:Nat):List Nat:=if c=46 then [92,46] else [c]
noncomputable def uCt(c:Nat)(res:List (Option (List Nat))):List (Option (List Nat)):=
 if c=42 then (if res.getLast?=some none then res else res++[none]) else if c=63 then res++[some [46]] else res++[some (escF c)]
noncomputable def trF(s:List Nat):List (Option (List Nat)):=s.foldl (fun res c=>uCt c res) []
theorem uLq{c:Nat}{res:List (Option (List Nat))}:(uCt c res).length≤res.length+1:=by
 unfold uCt
 split
 ·split<;>simp
 ·split<;>simp
theorem uEq{xs:List AV}{v:AV}(h:xs.getLast?=some v):nth xs (-1)=some v:=by
 rw [List.getLast?_eq_getElem?] at h;have hl:=getlt h;obtain ⟨m,e⟩:=Nat.exists_eq_succ_of_ne_zero (fun e:xs.length=0=>by rw [e] at hl;exact absurd hl (Nat.lt_irrefl 0));have q:seqIndex? (-1) xs.length=some (xs.length-1):=seqJ ((if_pos (by decide)).trans (by rw [e];show (-1:Int)+((m:Int)+1)=m;exact (Int.add_comm _ _).trans (Int.add_neg_cancel_right _ _))) hl;unfold nth;rw [q];exact h
section
variable {a:Addr}{ns:List Int}{n:Nat}{L:List (Str×AV)}{H:List AO}{Q:AV→St→Prop}
theorem uO2{c:Nat}{g:Option Nat}(hc:c=46∨c=97)(q:Q (.str (escF c) none) ⟨L,H⟩):Ok ((run (PGs a ns) (n+12)).call (fr 62) [.str [c] g]) ⟨L,H⟩ Q:=by
 refine uCz (f:=uAd "escape" false (top 7)) [(sn "pattern",.str [c] g)] rfl rfl rfl rfl rfl ?_;refine uAx ?_
 repeat fail "!st"
 refine uEr rfl ?_
 repeat fail "!st"
 refine uDi rfl ?_
 repeat fail "!st"
 refine ⟨fun _=>?_,fun q=>by (cases q)⟩
 repeat fail "!st"
 rcases hc with rfl|rfl
 ·refine uDi rfl ?_
  repeat fail "!st"
  exact q
 ·refine uDi rfl ?_
  repeat fail "!st"
  exact q
inductive TrI(H:List AO)(s:List Nat)(g:Option Nat)(sr ma:Nat)(m:Nat)(σ:St):Prop
 | mk:∀ (k:Nat),((k≤s.length∧m=s.length-k))→Ext H σ.H→σ.H[H.length]?=some (.list ((trF (s.take k)).map (itV sr)))→(trF (s.take k)).length≤k→σ.H[ma]?=some (.meth "list.append" H.length)→σ.L.lookup (sn "pat")=some (.str s g)→σ.L.lookup (sn "STAR")=some (.ref sr)→σ.L.lookup (sn "QUESTION_MARK")=some (.str [46] none)→σ.L.lookup (sn "res")=some (.ref H.length)→σ.L.lookup (sn "add")=some (.ref ma)→σ.L.lookup (sn "n")=some (.int (s.length:Nat))→σ.L.lookup (sn "i")=some (.int (k:Nat))→TrI H s g sr ma m σ
theorem uH2{s:List Nat}{sr:Nat}{g:Option Nat}(hs:s.length<60)(hcs:∀ c∈s,c=42∨c=63∨c=46∨c=97)(q:∀ H' ra,Ext H H'→H'[ra]?=some (.list ((trF s).map (itV sr)))→Q (.ref ra) ⟨L,H'⟩):Ok ((run (PGs a ns) (n+20)).call (fr 69) [.str s g,.ref sr,.str [46] none]) ⟨L,H⟩ Q:=by
 refine uCz (f:=uAd "_translate" false (top 9)) [(sn "pat",.str s g),(sn "STAR",.ref sr),(sn "QUESTION_MARK",.str [46] none)] rfl rfl rfl rfl rfl ?_;refine uAx ?_
 repeat fail "!sx"
 have g0:(H++[AO.list []]++[AO.meth "list.append" H.length]++[AO.tup [AV.int 0,AV.int s.length]])[H.length]?=some (.list []):=by fail "!hp"
 have g1:(H++[AO.list []]++[AO.meth "list.append" H.length]++[AO.tup [AV.int 0,AV.int s.length]])[(H++[AO.list []]).length]?=some (.meth "list.append" H.length):=by fail "!hp"
 have x1:Ext H (H++[AO.list []]++[AO.meth "list.append" H.length]++[AO.tup [AV.int 0,AV.int s.length]]):=by fail "!ex"
 have l1:(H++[AO.list []]).length=H.length+1:=by simp
 generalize H++[AO.list []]++[AO.meth "list.append" H.length]++[AO.tup [AV.int 0,AV.int s.length]]=H1 at *;generalize (H++[AO.list []]).length=ma at *;refine uCj (I:=TrI H s g sr ma) ?_ lim (s.length) _ (Nat.lt_of_lt_of_le hs (by decide)) ?_
 ·rintro m ⟨L',H'⟩ hz;refine Classical.byContradiction fun hn=>?_;obtain ⟨k,⟨hk,hm⟩,x',f0,f1,f2,f3,f4,f5,f6,f7,f8,f9⟩:=hz;refine hn ?_;clear hn;dsimp only at x' f0 f2 f3 f4 f5 f6 f7 f8 f9
  repeat fail "!sx"
  refine ⟨fun h1=>?_,fun h1=>?_⟩
  ·have h1':k<s.length:=by simpa using h1
   obtain ⟨c,hc⟩ : ∃ c,s[k]?=some c:=⟨_,List.getElem?_eq_getElem h1'⟩
   have hnext:trF (s.take (k+1))=uCt c (trF (s.take k)):=by
    unfold trF;rw [List.take_add_one,hc,List.foldl_append];rfl
   have hlen:=@uLq c (trF (s.take k));rw [← hnext] at hlen
   repeat fail "!sx"
   refine uBw (uCr hc) ?_
   repeat fail "!sx"
   refine uPc ?_
   repeat fail "!sx"
   rw [show decide ([c]=tl (Str.ofString "*"))=decide (c=42) by simp [show tl (Str.ofString "*")=[42] from rfl]];refine ⟨fun h2=>?_,fun h2=>?_⟩
   ·have h42:=of_decide_eq_true h2
    repeat fail "!sx"
    refine uPc ?_
    repeat fail "!sx"
    refine uEr rfl ?_
    repeat fail "!sx"
    generalize hlast:(trF (s.take k)).getLast?=zz;induction zz using Option.casesOn with
    | none=>
     have hnil:trF (s.take k)=[]:=by simpa using hlast
     refine ⟨fun q=>by (rw [hnil] at q;cases q),fun _=>⟨fun _=>?_,fun q=>by (cases q)⟩⟩
     repeat fail "!sx"
     refine uAw f0 (by rw [List.length_map];exact Nat.lt_of_le_of_lt f1 (by unfold lz;omega)) ?_
     repeat fail "!sx"
     refine ⟨s.length-(k+1),by omega,k+1,⟨h1',rfl⟩,x'.set (Nat.le_refl _),?_,Nat.le_trans hlen (by omega),by fail "!hp",by fail "!lk",by fail "!lk",by fail "!lk",by fail "!lk",by fail "!lk",by fail "!lk",(by show _=some (AV.int ((k:Int)+1));fail "!lk")⟩;rw [hnext,show uCt c (trF (s.take k))=trF (s.take k)++[none] by unfold uCt;simp [h42,hlast],List.map_append];exact set_same f0
    | some o=>
     have hnn:trF (s.take k)≠[]:=fun e=>by rw [e] at hlast;cases hlast
     refine ⟨fun _=>?_,fun q=>by (simp [hnn] at q)⟩
     repeat fail "!sx"
     refine uAt (v:=itV sr o) f0 (uEq (by rw [List.getLast?_map,hlast];rfl)) ?_
     repeat fail "!sx"
     induction o using Option.casesOn with
     | none=>
      refine uCm (b:=true) (by show (if sr=sr then some true else none)=_;rw [if_pos rfl]) ?_;refine ⟨fun q=>by (cases q),fun _=>?_⟩
      repeat fail "!sx"
      refine ⟨s.length-(k+1),by omega,k+1,⟨h1',rfl⟩,x',?_,Nat.le_trans hlen (by omega),by fail "!hp",by fail "!lk",by fail "!lk",by fail "!lk",by fail "!lk",by fail "!lk",by fail "!lk",(by show _=some (AV.int ((k:Int)+1));fail "!lk")⟩;rw [hnext,show uCt c (trF (s.take k))=trF (s.take k) by unfold uCt;simp [h42,hlast]];exact f0
     | some w=>
      refine uCm (b:=false) rfl ?_;refine ⟨fun _=>?_,fun q=>by (cases q)⟩
      repeat fail "!sx"
      refine uAw f0 (by rw [List.length_map];exact Nat.lt_of_le_of_lt f1 (by unfold lz;omega)) ?_
      repeat fail "!sx"
      refine ⟨s.length-(k+1),by omega,k+1,⟨h1',rfl⟩,x'.set (Nat.le_refl _),?_,Nat.le_trans hlen (by omega),by fail "!hp",by fail "!lk",by fail "!lk",by fail "!lk",by fail "!lk",by fail "!lk",by fail "!lk",(by show _=some (AV.int ((k:Int)+1));fail "!lk")⟩;rw [hnext,show uCt c (trF (s.take k))=trF (s.take k)++[none] by unfold uCt;simp [h42,hlast],List.map_append];exact set_same f0
   ·have h42:=of_decide_eq_false h2
    repeat fail "!sx"
    refine uPc ?_
    repeat fail "!sx"
    rw [show decide ([c]=tl (Str.ofString "?"))=decide (c=63) by simp [show tl (Str.ofString "?")=[63] from rfl]];refine ⟨fun h3=>?_,fun h3=>?_⟩
    ·have h63:=of_decide_eq_true h3
     repeat fail "!sx"
     refine uAw f0 (by rw [List.length_map];exact Nat.lt_of_le_of_lt f1 (by unfold lz;omega)) ?_
     repeat fail "!sx"
     refine ⟨s.length-(k+1),by omega,k+1,⟨h1',rfl⟩,x'.set (Nat.le_refl _),?_,Nat.le_trans hlen (by omega),by fail "!hp",by fail "!lk",by fail "!lk",by fail "!lk",by fail "!lk",by fail "!lk",by fail "!lk",(by show _=some (AV.int ((k:Int)+1));fail "!lk")⟩;rw [hnext,show uCt c (trF (s.take k))=trF (s.take k)++[some [46]] by unfold uCt;simp [h63],List.map_append];exact set_same f0
    ·have h63:=of_decide_eq_false h3;have hc46:c=46∨c=97:=by
      have:=hcs c (List.mem_of_getElem? hc);omega
     repeat fail "!sx"
     refine uPc ?_
     repeat fail "!sx"
     rewrite [show decide ([c]=tl (Str.ofString "["))=false by rcases hc46 with rfl|rfl<;>rfl];refine ⟨fun q=>by (cases q),fun _=>?_⟩
     repeat fail "!sx"
     refine uO2 hc46 ?_
     repeat fail "!sx"
     refine uAw f0 (by rw [List.length_map];exact Nat.lt_of_le_of_lt f1 (by unfold lz;omega)) ?_
     repeat fail "!sx"
     refine ⟨s.length-(k+1),by omega,k+1,⟨h1',rfl⟩,x'.set (Nat.le_refl _),?_,Nat.le_trans hlen (by omega),by fail "!hp",by fail "!lk",by fail "!lk",by fail "!lk",by fail "!lk",by fail "!lk",by fail "!lk",(by show _=some (AV.int ((k:Int)+1));fail "!lk")⟩;rw [hnext,show uCt c (trF (s.take k))=trF (s.take k)++[some (escF c)] by unfold uCt;simp [h42,h63],List.map_append];exact set_same f0
  ·have h1':k=s.length:=by simp at h1;omega
   repeat fail "!sx"
   refine ⟨by simp [h1'],?_⟩
   repeat fail "!sx"
   rw [h1',List.take_length] at f0;exact q _ _ x' f0
 ·exact ⟨0,⟨Nat.zero_le _,rfl⟩,x1,g0,Nat.le_refl _,g1,by fail "!lk",by fail "!lk",by fail "!lk",by fail "!lk",by fail "!lk",by fail "!lk",by show _=some (AV.int 0);fail "!lk"⟩
end
noncomputable def sp:List (Option (List Nat))→List (List Nat)×List (Option (List Nat))
 | some s::r=>(s::(sp r).1,(sp r).2)
 | none::r=>([],none::r)
 | []=>([],[])
noncomputable def jnR:Nat→List (Option (List Nat))→Option (List (List Nat))
 | 0,_=>none
 | _+1,[]=>some []
 | _+1,some _::_=>none
 | n+1,none::r=>match r with
  | []=>some [[46,42]]
  | none::_=>none
  | some s::r'=>if (sp (some s::r')).2=[] then some [[46,42],(sp (some s::r')).1.flatten] else (jnR n (sp (some s::r')).2).map (([40,63,62,46,42,63]++(sp (some s::r')).1.flatten++[41])::·)
noncomputable def cost:List (Option (List Nat))→Nat
 | []=>0
 | none::r=>8+cost r
 | some s::r=>s.length+cost r
noncomputable def uDy(ts:List (List Nat)):List AV:=ts.map fun s=>AV.str s none
theorem uDc:∀ ts:List (List Nat),uGa (uDy ts)=some ts:=by
 intro zz;induction zz with
 | nil=>
  exact rfl
 | cons t ts ih=>
  show (uGa (uDy ts)).map (t::·)=_;rw [ih];rfl
theorem uDr:∀ ts:List (List Nat),uEc [] ts=ts.flatten:=by
 intro ts;induction ts with
 | nil=>rfl
 | cons t r ih=>
  rcases r with _|⟨u,r⟩
  ·exact (List.append_nil t).symm
  ·show t++[]++uEc [] (u::r)=_;rw [ih,List.append_nil];rfl
theorem uKb:∀ xs:List (Option (List Nat)),(sp xs).1.flatten.length+cost (sp xs).2=cost xs
 | []=>rfl
 | none::r=>by simp [sp]
 | some s::r=>by
  have:=uKb r;simp only [sp,List.flatten_cons,List.length_append,cost];omega
theorem uEa{α:Type}{xs:List α}{k:Nat}{x:α}(h:xs[k]?=some x):xs.drop k=x::xs.drop (k+1):=by
 have hl:k<xs.length:=by
  rcases Nat.lt_or_ge k xs.length with q|q
  ·exact q
  ·rw [List.getElem?_eq_none q] at h;cases h
 rw [List.drop_eq_getElem_cons hl];rw [List.getElem?_eq_getElem hl] at h;cases h;rfl
theorem uHm{xs:List (Option (List Nat))}{sr k:Nat}{o:Option (List Nat)}(h:xs[k]?=some o):nth (xs.map (itV sr)) (k:Int)=some (itV sr o):=uB5 (by rw [List.getElem?_map,h];rfl)
section
variable {a:Addr}{ns:List Int}{n:Nat}{L:List (Str×AV)}{H:List AO}{Q:AV→St→Prop}
inductive JnQ(H:List AO)(xs:List (Option (List Nat)))(ma pa sr:Nat)(fl:Fl)(σ:St):Prop
 | mk:(fl=Fl.next)→∀ (k:Nat),k≤xs.length→Ext H σ.H→σ.H[H.length]?=some (.list (uDy (sp xs).1))→xs.drop k=(sp xs).2→(sp xs).1.length≤k→σ.H[ma]?=some (.meth "list.append" H.length)→σ.L.lookup (sn "inp")=some (.ref pa)→σ.L.lookup (sn "STAR")=some (.ref sr)→σ.L.lookup (sn "res")=some (.ref H.length)→σ.L.lookup (sn "add")=some (.ref ma)→σ.L.lookup (sn "n")=some (.int (xs.length:Nat))→σ.L.lookup (sn "i")=some (.int (k:Nat))→JnQ H xs ma pa sr fl σ
inductive JnI(H:List AO)(xs:List (Option (List Nat)))(ma pa sr:Nat)(m:Nat)(σ:St):Prop
 | mk:∀ (k:Nat) (res:List (List Nat)),((k≤xs.length∧m=xs.length-k))→Ext H σ.H→σ.H[H.length]?=some (.list (uDy res))→((res.length≤k∧res++(sp (xs.drop k)).1=(sp xs).1∧(sp (xs.drop k)).2=(sp xs).2))→σ.H[ma]?=some (.meth "list.append" H.length)→σ.L.lookup (sn "inp")=some (.ref pa)→σ.L.lookup (sn "STAR")=some (.ref sr)→σ.L.lookup (sn "res")=some (.ref H.length)→σ.L.lookup (sn "add")=some (.ref ma)→σ.L.lookup (sn "n")=some (.int (xs.length:Nat))→σ.L.lookup (sn "i")=some (.int (k:Nat))→JnI H xs ma pa sr m σ
inductive JnQ2(H:List AO)(xs:List (Option (List Nat)))(out:List (List Nat))(fl:Fl)(σ:St):Prop
 | mk:(fl=Fl.next)→Ext H σ.H→σ.H[H.length]?=some (.list (uDy ((sp xs).1++out)))→((sp xs).1++out).flatten.length≤1000→σ.L.lookup (sn "res")=some (.ref H.length)→σ.L.lookup (sn "n")=some (.int (xs.length:Nat))→σ.L.lookup (sn "i")=some (.int (xs.length:Nat))→JnQ2 H xs out fl σ
inductive JnI2(H:List AO)(xs:List (Option (List Nat)))(ma pa sr:Nat)(out:List (List Nat))(m:Nat)(σ:St):Prop
 | mk:∀ (k:Nat) (res:List (List Nat)) (nf:Nat) (out':List (List Nat)),((k≤xs.length∧m=xs.length-k))→Ext H σ.H→σ.H[H.length]?=some (.list (uDy res))→((res.length≤2*k∧res.flatten.length+cost (xs.drop k)≤1000∧jnR nf (xs.drop k)=some out'∧res++out'=(sp xs).1++out))→σ.H[ma]?=some (.meth "list.append" H.length)→σ.L.lookup (sn "inp")=some (.ref pa)→σ.L.lookup (sn "STAR")=some (.ref sr)→σ.L.lookup (sn "res")=some (.ref H.length)→σ.L.lookup (sn "add")=some (.ref ma)→σ.L.lookup (sn "n")=some (.int (xs.length:Nat))→σ.L.lookup (sn "i")=some (.int (k:Nat))→JnI2 H xs ma pa sr out m σ
inductive JnQ3(H:List AO)(xs:List (Option (List Nat)))(ma pa sr fa k:Nat)(res:List (List Nat))(fl:Fl)(σ:St):Prop
 | mk:(fl=Fl.next)→∀ (k2:Nat),k+1≤k2→k2≤xs.length→xs.drop k2=(sp (xs.drop (k+1))).2→Ext H σ.H→σ.H[fa]?=some (.list (uDy (sp (xs.drop (k+1))).1))→σ.H[H.length]?=some (.list (uDy res))→σ.H[ma]?=some (.meth "list.append" H.length)→σ.L.lookup (sn "inp")=some (.ref pa)→σ.L.lookup (sn "STAR")=some (.ref sr)→σ.L.lookup (sn "res")=some (.ref H.length)→σ.L.lookup (sn "add")=some (.ref ma)→σ.L.lookup (sn "n")=some (.int (xs.length:Nat))→σ.L.lookup (sn "fixed")=some (.ref fa)→σ.L.lookup (sn "i")=some (.int (k2:Nat))→JnQ3 H xs ma pa sr fa k res fl σ
inductive JnI3(H:List AO)(xs:List (Option (List Nat)))(ma pa sr fa k:Nat)(res:List (List Nat))(m:Nat)(σ:St):Prop
 | mk:∀ (k2:Nat) (fx:List (List Nat)),((k2≤xs.length∧m=xs.length-k2))→((k+1≤k2∧fx.length≤k2∧fx++(sp (xs.drop k2)).1=(sp (xs.drop (k+1))).1∧(sp (xs.drop k2)).2=(sp (xs.drop (k+1))).2))→Ext H σ.H→σ.H[fa]?=some (.list (uDy fx))→σ.H[H.length]?=some (.list (uDy res))→σ.H[ma]?=some (.meth "list.append" H.length)→σ.L.lookup (sn "inp")=some (.ref pa)→σ.L.lookup (sn "STAR")=some (.ref sr)→σ.L.lookup (sn "res")=some (.ref H.length)→σ.L.lookup (sn "add")=some (.ref ma)→σ.L.lookup (sn "n")=some (.int (xs.length:Nat))→σ.L.lookup (sn "fixed")=some (.ref fa)→σ.L.lookup (sn "i")=some (.int (k2:Nat))→JnI3 H xs ma pa sr fa k res m σ
theorem uTw{xs:List (Option (List Nat))}{pa sr:Nat}{out:List (List Nat)}(hx:xs.length<60)(hp:H[pa]?=some (.list (xs.map (itV sr))))(hcost:cost xs≤1000)(hj:jnR 61 (sp xs).2=some out)
  (q:∀ H',Ext H H'→Q (.str (tl (sn "(?s:")++((sp xs).1++out).flatten++tl (sn ")\\Z")) none) ⟨L,H'⟩):Ok ((run (PGs a ns) (n+20)).call (fr 76) [.ref pa,.ref sr]) ⟨L,H⟩ Q:=by
 refine uCz (f:=uAd "_join_translated_parts" false (top 10)) [(sn "inp",.ref pa),(sn "STAR",.ref sr)] rfl rfl rfl rfl rfl ?_;refine uAx ?_
 repeat fail "!sx"
 rw [List.length_map];have g0:(H++[AO.list []]++[AO.meth "list.append" H.length]++[AO.tup [AV.int 0,AV.int xs.length]])[H.length]?=some (.list []):=by fail "!hp"
 have g1:(H++[AO.list []]++[AO.meth "list.append" H.length]++[AO.tup [AV.int 0,AV.int xs.length]])[(H++[AO.list []]).length]?=some (.meth "list.append" H.length):=by fail "!hp"
 have x1:Ext H (H++[AO.list []]++[AO.meth "list.append" H.length]++[AO.tup [AV.int 0,AV.int xs.length]]):=by fail "!ex"
 have l1:(H++[AO.list []]).length=H.length+1:=by simp
 generalize H++[AO.list []]++[AO.meth "list.append" H.length]++[AO.tup [AV.int 0,AV.int xs.length]]=H1 at *;generalize (H++[AO.list []]).length=ma at *;refine uAc (Q':=JnQ H xs ma pa sr)
  (uCj (I:=JnI H xs ma pa sr) ?_ lim (xs.length) _ (Nat.lt_of_lt_of_le hx (by decide)) ?_) ?_
 ·rintro m ⟨L',H'⟩ hz;refine Classical.byContradiction fun hn=>?_;obtain ⟨k,res,⟨hk,hm⟩,x',f0,⟨f1,f1c,f1d⟩,f2,f3,f4,f6,f7,f8,f9⟩:=hz;refine hn ?_;clear hn;dsimp only at x' f0 f2 f3 f4 f6 f7 f8 f9
  repeat fail "!sx"
  refine ⟨fun h1=>?_,fun h1=>⟨fun q=>by (cases q),fun _=>?_⟩⟩
  ·have h1':k<xs.length:=by simpa using h1
   obtain ⟨o,ho⟩ : ∃ o,xs[k]?=some o:=⟨_,List.getElem?_eq_getElem h1'⟩
   have hdr:=uEa ho
   repeat fail "!sx"
   refine uAt (x' _ _ hp) (uHm ho) ?_
   repeat fail "!sx"
   induction o using Option.casesOn with
   | none=>
    refine uCm (b:=true) (by show (if sr=sr then some true else none)=_;rw [if_pos rfl]) ⟨fun q=>by (cases q),fun _=>?_⟩
    repeat fail "!sx"
    rw [hdr] at f1c f1d;simp only [sp,List.append_nil] at f1c f1d;subst f1c;exact ⟨rfl,k,hk,x',f0,by rw [hdr];exact f1d,f1,f2,f3,f4,f6,f7,f8,f9⟩
   | some s=>
    refine uCm (b:=false) rfl ⟨fun _=>?_,fun q=>by (cases q)⟩
    repeat fail "!sx"
    refine uAt (x' _ _ hp) (uHm ho) ?_
    repeat fail "!sx"
    refine uAw f0 (by unfold uDy;rw [List.length_map];exact Nat.lt_of_le_of_lt f1 (by unfold lz;omega)) ?_
    repeat fail "!sx"
    rw [hdr] at f1c f1d;simp only [sp] at f1c f1d;refine ⟨xs.length-(k+1),by omega,k+1,res++[s],⟨h1',rfl⟩,x'.set (Nat.le_refl _),?_,⟨by simpa using f1,by simpa using f1c,f1d⟩,by fail "!hp",by fail "!lk",by fail "!lk",by fail "!lk",by fail "!lk",by fail "!lk",by show _=some (AV.int ((k:Int)+1));fail "!lk"⟩;rw [show uDy (res++[s])=uDy res++[itV sr (some s)] by unfold uDy;rw [List.map_append];rfl];fail "!hp"
  ·have h1':k=xs.length:=by simp at h1;omega
   repeat fail "!sx"
   rw [h1',List.drop_length] at f1c f1d;simp only [sp,List.append_nil] at f1c f1d;subst f1c;exact ⟨rfl,k,hk,x',f0,by rw [h1',List.drop_length];exact f1d,f1,f2,f3,f4,f6,f7,f8,f9⟩
 ·exact ⟨0,[],⟨Nat.zero_le _,rfl⟩,x1,g0,⟨Nat.le_refl _,rfl,rfl⟩,g1,by fail "!lk",by fail "!lk",by fail "!lk",by fail "!lk",by fail "!lk",by show _=some (AV.int 0);fail "!lk"⟩
 rintro fl ⟨L',H'⟩ ⟨rfl,k,hk,x',f0,fd,f1,f2,f3,f4,f6,f7,f8,f9⟩;dsimp only at x' f0 f2 f3 f4 f6 f7 f8 f9;have hc0:=uKb xs
 repeat fail "!sx"
 refine uAc (Q':=JnQ2 H xs out)
  (uCj (I:=JnI2 H xs ma pa sr out) ?_ lim (xs.length-k) _ (Nat.lt_of_le_of_lt (Nat.sub_le _ _) (Nat.lt_of_lt_of_le hx (by decide))) ?_) ?_
 ·clear f0 fd f1 f2 f3 f4 f6 f7 f8 f9 hk x';rintro m ⟨L',H'⟩ hz;refine Classical.byContradiction fun hn=>?_;obtain ⟨k,res,nf,out',⟨hk,hm⟩,x',f0,⟨f1,f1b,f1c,f1d⟩,f2,f3,f4,f6,f7,f8,f9⟩:=hz;refine hn ?_;clear hn;dsimp only at x' f0 f2 f3 f4 f6 f7 f8 f9;induction nf using Nat.casesOn with
  | zero=>cases f1c
  | succ nf=>
  have hma:=uAe f2
  repeat fail "!sx"
  refine ⟨fun h1=>?_,fun h1=>?_⟩
  ·have h1':k<xs.length:=by simpa using h1
   obtain ⟨o,ho⟩ : ∃ o,xs[k]?=some o:=⟨_,List.getElem?_eq_getElem h1'⟩
   have hdr:=uEa ho;rw [hdr] at f1b f1c;induction o using Option.casesOn with
   | some s=>cases f1c
   | none=>
   simp only [cost] at f1b
   repeat fail "!sx"
   refine uAt (x' _ _ hp) (uHm ho) ?_
   repeat fail "!sx"
   refine uPd (b:=true) (by show (if sr=sr then some true else none)=_;rw [if_pos rfl]) ⟨rfl,?_⟩
   repeat fail "!sx"
   refine uPc ?_
   repeat fail "!sx"
   by_cases hend:k+1=xs.length
   ·refine ⟨fun _=>?_,fun q=>by (simp at q;omega)⟩;have hnil:xs.drop (k+1)=[]:=by rw [hend,List.drop_length]
    rw [hnil] at f1c;cases f1c
    repeat fail "!sx"
    refine uAw f0 (by unfold uDy;rw [List.length_map];exact Nat.lt_of_le_of_lt f1 (by unfold lz;omega)) ?_
    repeat fail "!sx"
    refine ⟨rfl,x'.set (Nat.le_refl _),?_,?_,by fail "!lk",by fail "!lk",?_⟩
    ·rw [← f1d,show uDy (res++[[46,42]])=uDy res++[AV.str (tl (Str.ofString ".*")) none] by unfold uDy;rw [List.map_append];rfl];exact set_same f0
    ·rw [← f1d];simp only [List.flatten_append,List.length_append,List.flatten_cons,List.flatten_nil,List.append_nil,List.length_cons,List.length_nil];omega
    ·rw [← hend];show _=some (AV.int ((k:Int)+1));fail "!lk"
   ·refine ⟨fun q=>by (simp at q;omega),fun _=>?_⟩
    repeat fail "!sx"
    obtain ⟨o1,ho1⟩ : ∃ o1,xs[k+1]?=some o1:=⟨_,List.getElem?_eq_getElem (by omega)⟩
    have hdr1:=uEa ho1;induction o1 using Option.casesOn with
    | none=>rw [hdr1] at f1c;cases f1c
    | some s1=>
    refine uAt (x' _ _ hp) (k:=(k:Int)+1) (uHm ho1) ?_
    repeat fail "!sx"
    refine uCm (b:=false) rfl ⟨rfl,?_⟩
    repeat fail "!sx"
    generalize hHe:H'++[AO.list []]=H2;have e0:H2[H'.length]?=some (.list []):=by rw [← hHe];fail "!hp"
    have e1:H2[H.length]?=some (.list (uDy res)):=by rw [← hHe];fail "!hp"
    have e2:H2[ma]?=some (.meth "list.append" H.length):=by rw [← hHe];fail "!hp"
    have x2:Ext H H2:=by rw [← hHe];fail "!ex"
    clear hHe;generalize hfa:H'.length=fa at *;refine uAc (Q':=JnQ3 H xs ma pa sr fa k res)
     (uCj (I:=JnI3 H xs ma pa sr fa k res) ?_ lim (xs.length-(k+1)) _ (Nat.lt_of_le_of_lt (Nat.sub_le _ _) (Nat.lt_of_lt_of_le hx (by decide))) ?_) ?_
    ·clear e0 e1 e2 x2;rintro m2 ⟨L2,H3⟩ hz;refine Classical.byContradiction fun hn=>?_;obtain ⟨k2,fx,⟨hk2,hm2⟩,⟨u0,u1,u2,u3⟩,x3,v0,v1,v2,v3,v4,v5,v6,v7,v8,v9⟩:=hz;refine hn ?_;clear hn;dsimp only at x3 v0 v1 v2 v3 v4 v5 v6 v7 v8 v9
     repeat fail "!sx"
     refine ⟨fun h1=>?_,fun h1=>⟨fun q=>by (cases q),fun _=>?_⟩⟩
     ·have h2':k2<xs.length:=by simpa using h1
      obtain ⟨o,ho⟩ : ∃ o,xs[k2]?=some o:=⟨_,List.getElem?_eq_getElem h2'⟩
      have hdr:=uEa ho
      repeat fail "!sx"
      refine uAt (x3 _ _ hp) (uHm ho) ?_
      repeat fail "!sx"
      induction o using Option.casesOn with
      | none=>
       refine uCm (b:=true) (by show (if sr=sr then some true else none)=_;rw [if_pos rfl]) ⟨fun q=>by (cases q),fun _=>?_⟩
       repeat fail "!sx"
       rw [hdr] at u2 u3;simp only [sp,List.append_nil] at u2 u3;subst u2;exact ⟨rfl,k2,u0,hk2,by rw [hdr];exact u3,x3,v0,v1,v2,v3,v4,v5,v6,v7,v8,v9⟩
      | some s=>
       refine uCm (b:=false) rfl ⟨fun _=>?_,fun q=>by (cases q)⟩
       repeat fail "!sx"
       refine uAt (x3 _ _ hp) (uHm ho) ?_
       repeat fail "!sx"
       refine uAw v0 (by unfold uDy;rw [List.length_map];exact Nat.lt_of_le_of_lt u1 (by unfold lz;omega)) ?_
       repeat fail "!sx"
       rw [hdr] at u2 u3;simp only [sp] at u2 u3;refine ⟨xs.length-(k2+1),by omega,k2+1,fx++[s],⟨h2',rfl⟩,⟨by omega,by simpa using u1,by simpa using u2,u3⟩,x3.set (by omega),?_,by fail "!hp",by fail "!hp",by fail "!lk",by fail "!lk",by fail "!lk",by fail "!lk",by fail "!lk",by fail "!lk",by show _=some (AV.int ((k2:Int)+1));fail "!lk"⟩;rw [show uDy (fx++[s])=uDy fx++[itV sr (some s)] by unfold uDy;rw [List.map_append];rfl];exact set_same v0
     ·have h1':k2=xs.length:=by simp at h1;omega
      repeat fail "!sx"
      rw [h1',List.drop_length] at u2 u3;simp only [sp,List.append_nil] at u2 u3;subst u2;exact ⟨rfl,k2,u0,hk2,by rw [h1',List.drop_length];exact u3,x3,v0,v1,v2,v3,v4,v5,v6,v7,v8,v9⟩
    ·exact ⟨k+1,[],⟨h1',rfl⟩,⟨Nat.le_refl _,Nat.zero_le _,rfl,rfl⟩,x2,e0,e1,e2,by fail "!lk",by fail "!lk",by fail "!lk",by fail "!lk",by fail "!lk",by fail "!lk",by show _=some (AV.int ((k:Int)+1));fail "!lk"⟩
    clear e0 e1 e2 x2 x' f0 f2 f3 f4 f6 f7 f8 f9;rintro fl ⟨L2,H3⟩ ⟨rfl,k2,u0,hk2,ud,x3,v0,v1,v2,v3,v4,v5,v6,v7,v8,v9⟩;dsimp only at x3 v0 v1 v2 v3 v4 v5 v6 v7 v8 v9;have hc2:=uKb (xs.drop (k+1));rw [hdr1] at f1c;unfold jnR at f1c;dsimp only at f1c;rw [← hdr1] at f1c
    repeat fail "!sx"
    rw [show tl (Str.ofString "")=[] from rfl];refine uH3 v0 (uDc _) (by rw [uDr];unfold lz;omega) ?_;rw [uDr]
    repeat fail "!sx"
    generalize hfl:(sp (xs.drop (k+1))).1.flatten=fl at *;refine uPc ?_
    repeat fail "!sx"
    by_cases hend2:k2=xs.length
    ·refine ⟨fun _=>?_,fun q=>by (simp at q;omega)⟩;have hnil:(sp (xs.drop (k+1))).2=[]:=by rw [← ud,hend2,List.drop_length]
     rw [if_pos hnil] at f1c;cases f1c
     repeat fail "!sx"
     refine uAw v1 (by unfold uDy;rw [List.length_map];exact Nat.lt_of_le_of_lt f1 (by unfold lz;omega)) ?_
     repeat fail "!sx"
     refine uAw (set_same v1) (by unfold uDy;rw [List.length_append,List.length_map];simp only [List.length_cons,List.length_nil];unfold lz;omega) ?_
     repeat fail "!sx"
     rw [hnil] at hc2;simp only [cost] at hc2;refine ⟨xs.length-k2,by omega,k2,res++[[46,42],fl],1,[],⟨hk2,rfl⟩,(x3.set (Nat.le_refl _)).set (Nat.le_refl _),?_,⟨?_,?_,?_,?_⟩,by fail "!hp",by fail "!lk",by fail "!lk",by fail "!lk",by fail "!lk",by fail "!lk",by fail "!lk"⟩
     ·rw [show uDy (res++[[46,42],fl])=uDy res++[AV.str (tl (Str.ofString ".*")) none]++[AV.str fl none] by unfold uDy;rw [List.map_append,List.append_assoc];rfl];exact set_same (set_same v1)
     ·simp only [List.length_append,List.length_cons,List.length_nil];omega
     ·rw [ud,hnil];simp only [List.flatten_append,List.length_append,List.flatten_cons,List.flatten_nil,List.append_nil,List.length_cons,List.length_nil,cost];omega
     ·rw [ud,hnil];rfl
     ·rw [← f1d];simp
    ·refine ⟨fun q=>by (simp at q;omega),fun _=>?_⟩;have hnn:(sp (xs.drop (k+1))).2≠[]:=fun e=>by
      rw [← ud] at e;have:=congrArg List.length e;simp at this;omega
     rw [if_neg hnn] at f1c;generalize hj2:jnR nf (sp (xs.drop (k+1))).2=zz;induction zz using Option.casesOn with
     | none=>rw [hj2] at f1c;cases f1c
     | some o2=>
     rw [hj2] at f1c;cases f1c
     repeat fail "!sx"
     refine uSi ?_ rfl;refine uId (Nat.le_of_ble_eq_true rfl) (uX8 ?_)
     repeat fail "!sx"
     refine ⟨_,_,rfl,?_,?_⟩
     ·simp only [List.length_append,List.nil_append,show (tl (Str.ofString "(?>.*?")).length=6 from rfl];unfold lz;omega
     refine uId ?_ (uW3 ?_)
     ·simp only [List.length_append,List.nil_append,show (tl (Str.ofString "(?>.*?")).length=6 from rfl,show (tl (Str.ofString ")")).length=1 from rfl];unfold lz;omega
     refine uA9 ?_ (uAf ?_)
     ·simp only [List.length_append,List.nil_append,show (tl (Str.ofString "(?>.*?")).length=6 from rfl,show (tl (Str.ofString ")")).length=1 from rfl];unfold lz;omega
     repeat fail "!sx"
     refine uAw v1 (by unfold uDy;rw [List.length_map];exact Nat.lt_of_le_of_lt f1 (by unfold lz;omega)) ?_
     repeat fail "!sx"
     refine ⟨xs.length-k2,by omega,k2,res++[[40,63,62,46,42,63]++fl++[41]],nf,o2,⟨hk2,rfl⟩,x3.set (Nat.le_refl _),?_,⟨?_,?_,?_,?_⟩,by fail "!hp",by fail "!lk",by fail "!lk",by fail "!lk",by fail "!lk",by fail "!lk",by fail "!lk"⟩
     ·rw [show uDy (res++[[40,63,62,46,42,63]++fl++[41]])=uDy res++[AV.str ([]++tl (Str.ofString "(?>.*?")++fl++tl (Str.ofString ")")) none] by unfold uDy;rw [List.map_append];rfl];exact set_same v1
     ·simp only [List.length_append,List.length_cons,List.length_nil];omega
     ·rw [ud];simp only [List.flatten_append,List.length_append,List.flatten_cons,List.flatten_nil,List.append_nil,List.length_cons,List.length_nil];omega
     ·rw [ud];exact hj2
     ·rw [← f1d];simp
  ·have h1':k=xs.length:=by simp at h1;omega
   repeat fail "!sx"
   have hnil:xs.drop k=[]:=by rw [h1',List.drop_length]
   rw [hnil] at f1c f1b;cases f1c;rw [List.append_nil] at f1d;exact ⟨rfl,x',by rw [← f1d];exact f0,by rw [← f1d];simpa [cost] using f1b,f6,f8,by rw [← h1'];exact f9⟩
 ·exact ⟨k,(sp xs).1,61,out,⟨hk,rfl⟩,x',f0,⟨by omega,by rw [fd];omega,by rw [fd];exact hj,rfl⟩,f2,f3,f4,f6,f7,f8,f9⟩
 clear f0 fd f1 f2 f3 f4 f6 f7 f8 f9 hk x';rintro fl ⟨L',H'⟩ ⟨rfl,x',f0,f1,f2,f3,f4⟩;dsimp only at x' f0 f2 f3 f4
 repeat fail "!sx"
 refine ⟨by simp,?_⟩
 repeat fail "!sx"
 rw [show tl (Str.ofString "")=[] from rfl];refine uH3 f0 (uDc _) (by rw [uDr];unfold lz;omega) ?_;rw [uDr]
 repeat fail "!sx"
 refine uSi ?_ rfl;refine uId (Nat.le_of_ble_eq_true rfl) (uX8 ?_)
 repeat fail "!sx"
 refine ⟨_,_,rfl,?_,?_⟩
 ·simp only [List.length_append,List.nil_append,show (tl (Str.ofString "(?s:")).length=4 from rfl] at f1 ⊢;unfold lz;omega
 refine uId ?_ (uW3 ?_)
 ·simp only [List.length_append,List.nil_append,show (tl (Str.ofString "(?s:")).length=4 from rfl,show (tl (Str.ofString ")\\Z")).length=3 from rfl] at f1 ⊢;unfold lz;omega
 refine uA9 ?_ (uAf ?_)
 ·simp only [List.length_append,List.nil_append,show (tl (Str.ofString "(?s:")).length=4 from rfl,show (tl (Str.ofString ")\\Z")).length=3 from rfl] at f1 ⊢;unfold lz;omega
 repeat fail "!sx"
 exact q _ x'
end
noncomputable def inn(s:List Nat):List Nat:=((sp (trF s)).1++(jnR 61 (sp (trF s)).2).getD []).flatten
noncomputable def trT(s:List Nat):List Nat:=tl (sn "(?s:")++inn s++tl (sn ")\\Z")
noncomputable def sigs:List Nat:=[42,63,97,46]
noncomputable def uHa:List (List Nat):=[]::(sigs.map fun a=>[a])++(sigs.flatMap fun a=>sigs.map fun b=>[a,b])++(sigs.flatMap fun a=>sigs.flatMap fun b=>sigs.map fun c=>[a,b,c])
noncomputable def patOk(s:List Nat):Bool:=decide (s.length<60)&&s.all (fun c=>decide (c=42∨c=63∨c=46∨c=97))&&decide ((trF s).length<60)&&decide (cost (trF s)≤1000)&&(jnR 61 (sp (trF s)).2).isSome&&decide ((inn s).length<70) &&
 (List.range 6).all fun k=>decide (tk (nm k) 71 (inn s) 0 [0]=some (fitF (nm k) s))
theorem uNa(k:Nat):(nm k).length<3:=by
 rcases k with _|_|_|_|_|_|k<;>exact Nat.le_of_ble_eq_true rfl
theorem uUg:uHa.all patOk=true:=by decide +kernel
section
variable {a:Addr}{ns:List Int}{n:Nat}{L:List (Str×AV)}{H:List AO}{Q:AV→St→Prop}
inductive PatR(s:List Nat):Prop
 | mk:s.length<60→(∀ c∈s,c=42∨c=63∨c=46∨c=97)→(trF s).length<60→cost (trF s)≤1000→(∃ o,jnR 61 (sp (trF s)).2=some o)→(inn s).length<70→(∀ k<6,tk (nm k) 71 (inn s) 0 [0]=some (fitF (nm k) s))→PatR s
theorem uN9{s:List Nat}(h:s∈uHa):PatR s:=by
 have:=List.all_eq_true.mp uUg s h;unfold patOk at this;simp only [Bool.and_eq_true,decide_eq_true_eq,List.all_eq_true,List.mem_range,Option.isSome_iff_exists] at this;obtain ⟨⟨⟨⟨⟨⟨h1,h2⟩,h3⟩,h4⟩,h5⟩,h6⟩,h7⟩:=this;exact ⟨h1,h2,h3,h4,h5,h6,h7⟩
theorem uFc{s:List Nat}{g:Option Nat}(hs:s∈uHa)(q:∀ H',Ext H H'→Q (.str (trT s) none) ⟨L,H'⟩):Ok ((run (PGs a ns) (n+24)).call (fr 50) [.str s g]) ⟨L,H⟩ Q:=by
 obtain ⟨h1,h2,h3,h4,⟨o,h5⟩,h6,h7⟩:=uN9 hs;refine uCz (f:=uAd "translate" false (top 4)) [(sn "pat",.str s g)] rfl rfl rfl rfl rfl ?_;refine uAx ?_
 repeat fail "!sx"
 refine uH2 h1 h2 ?_;intro H1 ra x1 e1
 repeat fail "!sx"
 refine uTw (xs:=trF s) h3 e1 h4 h5 ?_;intro H2 x2
 repeat fail "!sx"
 have e:tl (sn "(?s:")++((sp (trF s)).fst++o).flatten++tl (sn ")\\Z")=trT s:=by
  unfold trT inn;rw [h5];rfl
 rw [e];exact q _ ((Ext.trans (by fail "!ex") x1).trans x2)
theorem uI5{s:List Nat}{g:Option Nat}{k:Nat}(hs:s∈uHa)(hk:k<6)(q:∀ H',Ext H H'→Q (.bool (fitF (nm k) s)) ⟨L,H'⟩):Ok ((run (PGs a ns) (n+16)).call (fr 262) [.str (trT s) g,nv k]) ⟨L,H⟩ Q:=by
 obtain ⟨h1,h2,h3,h4,⟨o,h5⟩,h6,h7⟩:=uN9 hs;exact uRg h6 (Nat.lt_of_lt_of_le (uNa k) (by decide)) (h7 k hk) q
theorem uK5{s:List Nat}{g:Option Nat}{k:Nat}(hs:s∈uHa)(hk:k<6)(q:∀ H',Ext H H'→Q (.bool (fitF (nm k) s)) ⟨L,H'⟩):Ok ((run (PGs a ns) (n+16)).call (fr 267) [.str s g,nv k]) ⟨L,H⟩ Q:=by
 obtain ⟨h1,h2,h3,h4,⟨o,h5⟩,h6,h7⟩:=uN9 hs;refine uVw h1 ?_ (Nat.lt_of_lt_of_le (uNa k) (by decide)) q;rw [List.all_eq_true];intro c hc;have:=h2 c hc;simp;omega
end
theorem fmod4(x:Int) : ∃ m:Nat,m<4∧Int.fmod x 4=m:=
 have h1:=Int.fmod_nonneg_of_pos x (show (0:Int)<4 by decide)
 ⟨(Int.fmod x 4).toNat,(Int.toNat_lt h1).mpr (Int.fmod_lt_of_pos x (show (0:Int)<4 by decide)),(Int.toNat_of_nonneg h1).symm⟩
noncomputable def sg(x:Int)(k:Nat):Nat:=sigs.getD (Int.fmod (Int.fdiv x (4 ^ k)) 4).toNat 0
theorem uWy(x:Int)(k:Nat):nthS (tl (sn "*?a.")) (Int.fmod (Int.fdiv x (4 ^ k)) 4)=some (.str [sg x k] none):=by
 obtain ⟨m,hm,e⟩:=fmod4 (Int.fdiv x (4 ^ k));unfold sg;rw [e];refine uCr ?_;rw [show tl (sn "*?a.")=sigs from rfl];rcases c4 m hm with rfl|rfl|rfl|rfl<;>rfl
theorem uOp(x:Int)(k:Nat):sg x k∈sigs:=by
 obtain ⟨m,hm,e⟩:=fmod4 (Int.fdiv x (4 ^ k));unfold sg;rw [e];rcases c4 m hm with rfl|rfl|rfl|rfl<;>decide
theorem pats3:∀ a∈sigs,∀ b∈sigs,∀ c∈sigs,[]∈uHa∧[a]∈uHa∧[a,b]∈uHa∧[a,b,c]∈uHa:=by decide +kernel
noncomputable def ruP(x:Int)(m:Nat):List Nat:=(List.range m).map (sg x)
theorem uMx(x:Int){m:Nat}(h:m<4):ruP x m∈uHa:=by
 have:=pats3 (sg x 0) (uOp x 0) (sg x 1) (uOp x 1) (sg x 2) (uOp x 2);rcases c4 m h with rfl|rfl|rfl|rfl
 ·exact this.1
 ·exact this.2.1
 ·exact this.2.2.1
 ·exact this.2.2.2
theorem uDf{m:Nat}{v:AV}(h:v∈uIi m) : ∃ k<m,v=.int (k:Nat):=by
 unfold uIi at h;simp only [List.mem_map,List.mem_range] at h;obtain ⟨k,hk,rfl⟩:=h;exact ⟨k,hk,rfl⟩
theorem uBf(xs:List AV):xs.filter (fun _=>true)=xs:=by simp
theorem uK7(f:Nat→AV)(m:Nat):(uIi m).map (intF f)=(List.range m).map f:=by
 unfold uIi;rw [List.map_map];rfl
theorem uNn(x:Int)(m:Nat):((List.range m).map fun k=>AV.str [sg x k] none)=uDy ((List.range m).map fun k=>[sg x k]):=by
 unfold uDy;rw [List.map_map];rfl
theorem uFo(x:Int)(m:Nat):uEc [] ((List.range m).map fun k=>[sg x k])=ruP x m:=by
 rw [uDr];unfold ruP;generalize List.range m=ks;induction ks with
 | nil=>rfl
 | cons k ks ih=>simp only [List.map_cons,List.flatten_cons,ih];rfl
theorem uMz(x:Int){m:Nat}(h:m<4):(ruP x m).length≤lz:=by
 unfold ruP;rw [List.length_map,List.length_range];unfold lz;omega
theorem powOk{k:Nat}(h:k<4):(0:Int)<4 ^ k∧(4:Int) ^ k<2 ^ 62:=(by decide:∀ k<4,(0:Int)<4 ^ k∧(4:Int) ^ k<2 ^ 62) k h
section
variable {a:Addr}{ns:List Int}{n:Nat}{L:List (Str×AV)}{H:List AO}{Q:AV→St→Prop}
theorem uVx{x:Int}(q:∀ H' i p1 p2,Ext H H'→H.length≤i→p1∈uHa→p2∈uHa→H'[i]?=some (.tup [.str p1 none,.str p2 none])→Q (.ref i) ⟨L,H'⟩):Ok ((run (PGs a ns) (n+20)).call (fr 257) [.int x]) ⟨L,H⟩ Q:=by
 have hc:bindP (uAd "_law_rule" false (top 27)) [.int x] ⟨L,H⟩=some (.ok [(sn "x",.int x)],⟨L,H⟩):=rfl;refine uG5 (f:=uAd "_law_rule" false (top 27)) (H2:=H++[AO.cell (some (.int x))]) [] [(sn "x",H.length)] rfl hc rfl rfl rfl ?_;have e0:(H++[AO.cell (some (.int x))])[H.length]?=some (AO.cell (some (.int x))):=by fail "!hp"
 have x0:Ext H (H++[AO.cell (some (.int x))]):=Ext.app _ _;generalize H++[AO.cell (some (.int x))]=H1 at *;obtain ⟨m1,hm1,em1⟩:=fmod4 x;obtain ⟨m2,hm2,em2⟩:=fmod4 (Int.fdiv x 256);refine uAx ?_
 repeat fail "!sx"
 refine uAu rfl (by decide) rfl rfl ?_
 repeat fail "!sx"
 refine uD7 rfl ?_;rw [em1]
 repeat fail "!sx"
 refine uCu (m:=0) (n:=(m1:Int)) (by fail "!hp") (by rw [uDx (by omega)];rfl) ?_;refine uAy (xs:=uIi m1) (fun _=>true) (intF fun k=>.str [sg (Int.fdiv x 4) k] none) ?_ rfl ?_ ?_ ?_ ?_
 ·unfold uIi;rw [List.length_map,List.length_range];exact Nat.lt_trans hm1 (by decide)
 ·intro p L H' x';exact uE8
 ·intro v hv H' x'
  repeat fail "!sx"
  exact ⟨rfl,rfl,Ext.refl _⟩
 ·intro v hv hc H' x';obtain ⟨k,hk,rfl⟩:=uDf hv
  repeat fail "!sx"
  refine uD7 rfl ?_
  repeat fail "!sx"
  refine uD7 (z:=4 ^ k) (by show (if ((0:Int)≤k∧(k:Int)<64)∧((0:Int)≤4∧(4:Int)<64) then some (4 ^ (k:Int).toNat) else none)=_;rw [if_pos (by omega)];rfl) ?_;refine uD7 (z:=Int.fdiv (Int.fdiv x 4) (4 ^ k)) (by show (if (0:Int)<4 ^ k∧(4:Int) ^ k<2 ^ 62 then _ else _)=_;rw [if_pos (powOk (by omega))]) ?_
  repeat fail "!sx"
  refine uD7 rfl ?_;refine uBw (uWy _ k) ?_;exact ⟨rfl,rfl,Ext.refl _⟩
 ·intro H2 x2 e2;rw [uBf,uK7,uNn] at e2
  repeat fail "!sx"
  rw [show tl (Str.ofString "")=[] from rfl];refine uH3 e2 (uDc _) (by rw [uFo];exact uMz _ hm1) ?_;rw [uFo]
  repeat fail "!sx"
  refine uAu rfl (by decide) rfl rfl ?_
  repeat fail "!sx"
  refine uD7 rfl ?_
  repeat fail "!sx"
  refine uD7 rfl ?_;rw [em2]
  repeat fail "!sx"
  refine uCu (m:=0) (n:=(m2:Int)) (by fail "!hp") (by rw [uDx (by omega)];rfl) ?_;refine uAy (xs:=uIi m2) (fun _=>true) (intF fun k=>.str [sg (Int.fdiv x 1024) k] none) ?_ rfl ?_ ?_ ?_ ?_
  ·unfold uIi;rw [List.length_map,List.length_range];exact Nat.lt_trans hm2 (by decide)
  ·intro p L H' x';exact uE8
  ·intro v hv H' x'
   repeat fail "!sx"
   exact ⟨rfl,rfl,Ext.refl _⟩
  ·intro v hv hc H' x';obtain ⟨k,hk,rfl⟩:=uDf hv
   repeat fail "!sx"
   refine uD7 rfl ?_
   repeat fail "!sx"
   refine uD7 (z:=4 ^ k) (by show (if ((0:Int)≤k∧(k:Int)<64)∧((0:Int)≤4∧(4:Int)<64) then some (4 ^ (k:Int).toNat) else none)=_;rw [if_pos (by omega)];rfl) ?_;refine uD7 (z:=Int.fdiv (Int.fdiv x 1024) (4 ^ k)) (by show (if (0:Int)<4 ^ k∧(4:Int) ^ k<2 ^ 62 then _ else _)=_;rw [if_pos (powOk (by omega))]) ?_
   repeat fail "!sx"
   refine uD7 rfl ?_;refine uBw (uWy _ k) ?_;exact ⟨rfl,rfl,Ext.refl _⟩
  ·intro H3 x3 e3;rw [uBf,uK7,uNn] at e3
   repeat fail "!sx"
   rw [show tl (Str.ofString "")=[] from rfl];refine uH3 e3 (uDc _) (by rw [uFo];exact uMz _ hm2) ?_;rw [uFo]
   repeat fail "!sx"
   have xx:Ext H H3:=(((x0.trans (Ext.app _ _)).trans x2).trans (Ext.app _ _)).trans x3;exact q _ _ _ _ (xx.trans (Ext.app _ _)) xx.le (uMx _ hm1) (uMx _ hm2) (uAl _ _)
end
noncomputable def fit(s:List Nat)(k:Nat):Bool:=fitF (nm k) s
noncomputable def uA3(s:List Nat):List Nat:=(List.range 6).filter (fit s)
noncomputable def uHr(k:Nat)(m j:Nat):Nat:=if j=k then m else m ||| 2 ^ j
noncomputable def addD(k:Nat)(os d:List Nat):List Nat:=d++os.filter fun j=>!decide (j=k) && !d.contains j
noncomputable def nRow(k:Nat)(m:Nat)(r:List Nat×List Nat):Nat:=if fit r.1 k then (uA3 r.2).foldl (uHr k) m else m
noncomputable def uH8(k:Nat)(d:List Nat)(r:List Nat×List Nat):List Nat:=if fit r.1 k then addD k (uA3 r.2) d else d
noncomputable def mk:List Nat→Nat
 | []=>0
 | j::d=>2 ^ j ||| mk d
theorem uJm:∀ a<64,∀ j<6,Builtin.bitOr ((a:Nat):Int) ((2 ^ j:Nat):Int)=((a ||| 2 ^ j:Nat):Int):=by decide +kernel
theorem uWl(a j:Nat)(h:a<64)(hj:j<6):a ||| 2 ^ j<64:=Nat.or_lt_two_pow (n:=6) h (Nat.pow_lt_pow_right (by decide) hj)
theorem uHp(i:Nat):∀ d:List Nat,(mk d).testBit i=d.contains i:=by
 intro zz;induction zz with
 | nil=>
  simp [mk]
 | cons j d ih=>
  rw [mk,Nat.testBit_or,ih,Nat.testBit_two_pow,List.contains_cons]
  congr 1
  by_cases h:j=i
  ·subst h;simp
  ·have:(i==j)=false:=by simp;omega
   rw [this,decide_eq_false h]
theorem uSd(k i:Nat):∀ (os:List Nat) (m:Nat),(os.foldl (uHr k) m).testBit i=(m.testBit i||(os.contains i && !decide (i=k))):=by
 intro zz;induction zz with
 | nil=>
  intro m;simp
 | cons j os ih=>
  intro m;rw [List.foldl_cons,ih];unfold uHr;rw [List.contains_cons];by_cases h:j=k
  ·rw [if_pos h];by_cases h2:i=j
   ·subst h2;simp [h]
   ·have:(i==j)=false:=by simp [h2]
    simp [this]
  ·rw [if_neg h,Nat.testBit_or,Nat.testBit_two_pow];by_cases h2:j=i
   ·subst h2;simp [h]
   ·have:(i==j)=false:=by simp;omega
    simp [this,h2]
theorem uXo(k:Nat)(os d:List Nat):mk (addD k os d)=os.foldl (uHr k) (mk d):=by
 refine Nat.eq_of_testBit_eq fun i=>?_;rw [uHp,uSd,uHp];unfold addD;rw [Bool.eq_iff_iff];simp only [List.contains_iff_mem,List.mem_append,List.mem_filter,Bool.or_eq_true,Bool.and_eq_true,Bool.not_eq_true',decide_eq_false_iff_not,List.contains_eq_mem];by_cases h:i∈d<;>simp [h]
theorem uXx(k:Nat):∀ (rs:List (List Nat×List Nat)) (d:List Nat),rs.foldl (nRow k) (mk d)=mk (rs.foldl (uH8 k) d):=by
 intro zz;induction zz with
 | nil=>
  intro d;exact rfl
 | cons r rs ih=>
  intro d;rw [List.foldl_cons,List.foldl_cons,← ih]
  congr 1
  unfold nRow uH8;by_cases h:fit r.1 k
  ·rw [if_pos h,if_pos h,uXo]
  ·rw [if_neg h,if_neg h]
theorem uD9{s:List Nat}{j:Nat}(h:j∈uA3 s):j<6:=List.mem_range.mp (List.mem_filter.mp h).1
theorem uGf(s:List Nat):(uA3 s).Nodup:=List.Pairwise.filter _ List.nodup_range
theorem uV1{k m j:Nat}(h:m<64)(hj:j<6):uHr k m j<64:=by
 unfold uHr;split
 ·exact h
 ·exact uWl _ _ h hj
theorem uLc(k:Nat):∀ (os:List Nat) (m:Nat),m<64→(∀ j∈os,j<6)→os.foldl (uHr k) m<64:=by
 intro zz;induction zz with
 | nil=>
  intro m h _;exact h
 | cons j os ih=>
  intro m h ho;exact ih _ (uV1 h (ho j (.head _))) fun i hi=>ho i (.tail _ hi)
theorem uUp(k:Nat):∀ (rs:List (List Nat×List Nat)) (m:Nat),m<64→rs.foldl (nRow k) m<64:=by
 intro zz;induction zz with
 | nil=>
  intro m h;exact h
 | cons r rs ih=>
  intro m h;refine ih _ ?_;unfold nRow
  split
  ·exact uLc k _ m h fun j hj=>uD9 hj
  ·exact h
inductive At0(H:List AO)(vs:List AV)(t:Nat)(o:AO):Prop
 | mk (i:Nat):vs[t]?=some (.ref i)→H[i]?=some o→At0 H vs t o
inductive At1(p:Nat→Prop)(H:List AO)(vs:List AV)(t:Nat)(o:AO):Prop
 | mk (i:Nat):vs[t]?=some (.ref i)→p i→H[i]?=some o→At1 p H vs t o
inductive uGc(H:List AO)(rl:Nat)(rules:List (List Nat×List Nat)):Prop
 | mk (vs:List AV):H[rl]?=some (.list vs)→vs.length=rules.length→(∀ (t:Nat) pq,rules[t]?=some pq→At0 H vs t (.tup [.str pq.1 none,.str pq.2 none]))→uGc H rl rules
noncomputable def nvB(f:Nat→Bool):AV→Bool
 | .str _ (some k)=>f k
 | _=>false
noncomputable def nvs(ks:List Nat):List AV:=ks.map nv
theorem uDv(f:Nat→Bool):(nms.filter (nvB f)).map id=nvs ((List.range 6).filter f):=by
 rw [List.map_id,uKt,List.filter_map];rfl
theorem uEy{v:AV}(h:v∈nms) : ∃ k<6,v=nv k:=by
 rw [uKt,List.mem_map] at h;obtain ⟨k,hk,rfl⟩:=h;exact ⟨k,List.mem_range.mp hk,rfl⟩
noncomputable def uEt(f:Nat→Nat):List AV:=(List.range 6).map fun k=>AV.int (f k:Nat)
theorem uQh(f:Nat→Nat){k:Nat}(hk:k<6)(v:Nat):(uEt f).set k (.int v)=uEt fun j=>if j=k then v else f j:=by
 unfold uEt;rcases c6 k hk with rfl|rfl|rfl|rfl|rfl|rfl<;>rfl
theorem uIa(f:Nat→Nat){k:Nat}(hk:k<6):(uEt f)[k]?=some (.int (f k)):=by
 unfold uEt;rw [List.getElem?_map,List.getElem?_range hk];rfl
theorem uLs{f g:Nat→Nat}(h:∀ j<6,f j=g j):uEt f=uEt g:=by
 unfold uEt;exact List.map_congr_left fun k hk=>by rw [h k (List.mem_range.mp hk)]
section
variable {a:Addr}{ns:List Int}{n:Nat}{L:List (Str×AV)}{H:List AO}{Q:AV→St→Prop}
inductive NdI(H:List AO)(c1 na:Nat)(rules:List (List Nat×List Nat))(t:Nat)(σ:St):Prop
 | mk:Ext H σ.H→(∃ o,σ.H[H.length]?=some (AO.cell o))→(∃ o,σ.H[c1]?=some (AO.cell o))→σ.H[na]?=some (.list (uEt fun k=>(rules.take t).foldl (nRow k) 0))→σ.L.lookup (sn "names")=some (.ref 1)→σ.L.lookup (sn "needs")=some (.ref na)→NdI H c1 na rules t σ
inductive NdI2(H7:List AO)(na oa:Nat)(r:List Nat×List Nat)(old:Nat→Nat)(t2:Nat)(σ:St):Prop
 | mk:uCl na H7 σ.H→σ.H[na]?=some (.list (uEt fun j=>if j∈(uA3 r.1).take t2 then (uA3 r.2).foldl (uHr j) (old j) else old j))→σ.L.lookup (sn "names")=some (.ref 1)→σ.L.lookup (sn "needs")=some (.ref na)→σ.L.lookup (sn "others")=some (.ref oa)→NdI2 H7 na oa r old t2 σ
inductive NdI3(H7:List AO)(na oa:Nat)(r:List Nat×List Nat)(old:Nat→Nat)(k t2:Nat)(t3:Nat)(σ:St):Prop
 | mk:uCl na H7 σ.H→σ.H[na]?=some (.list (uEt fun j=>if j=k then ((uA3 r.2).take t3).foldl (uHr k) (old k) else if j∈(uA3 r.1).take t2 then (uA3 r.2).foldl (uHr j) (old j) else old j))→σ.L.lookup (sn "names")=some (.ref 1)→σ.L.lookup (sn "needs")=some (.ref na)→σ.L.lookup (sn "others")=some (.ref oa)→σ.L.lookup (sn "name")=some (nv k)→NdI3 H7 na oa r old k t2 t3 σ
theorem uPr{rl:Nat}{rules:List (List Nat×List Nat)}(hn:H[1]?=some (.list nms))(hr:uGc H rl rules)(hp:∀ r∈rules,r.1∈uHa∧r.2∈uHa)(hlen:rules.length<lim)
  (q:∀ H' i,Ext H H'→H.length≤i→H'[i]?=some (.list (uEt fun k=>rules.foldl (nRow k) 0))→Q (.ref i) ⟨L,H'⟩):Ok ((run (PGs a ns) (n+34)).call (fr 272) [.ref 1,.ref rl]) ⟨L,H⟩ Q:=by
 have hc:bindP (uAd "_law_needs" false (top 30)) [.ref 1,.ref rl] ⟨L,H⟩=some (.ok [(sn "names",.ref 1),(sn "rules",.ref rl)],⟨L,H⟩):=rfl;refine uG5 (f:=uAd "_law_needs" false (top 30)) (H2:=H++[AO.cell none]++[AO.cell none]) [(sn "names",.ref 1),(sn "rules",.ref rl)] [(sn "made",H.length),(sn "needed",(H++[AO.cell none]).length)] rfl hc rfl rfl rfl ?_;have e0:(H++[AO.cell none]++[AO.cell none])[H.length]?=some (AO.cell none):=by fail "!hp"
 have e1:(H++[AO.cell none]++[AO.cell none])[(H++[AO.cell none]).length]?=some (AO.cell none):=by fail "!hp"
 have x0:Ext H (H++[AO.cell none]++[AO.cell none]):=by fail "!ex"
 have l1:(H++[AO.cell none]).length=H.length+1:=by simp
 have l2:(H++[AO.cell none]++[AO.cell none]).length=H.length+2:=by simp
 generalize H++[AO.cell none]++[AO.cell none]=H1 at *;generalize (H++[AO.cell none]).length=c1 at *;obtain ⟨vs,hv1,hv2,hv3⟩:=hr;refine uAx ?_
 repeat fail "!sx"
 refine uWq (w:=.int 0) (by fail "!hp") (by decide) ?_
 repeat fail "!sx"
 have f0:(H1++[AO.list [AV.int 0]]++[AO.list (List.replicate (6:Int).toNat (AV.int 0))])[(H1++[AO.list [AV.int 0]]).length]?=some (.list (uEt fun k=>0)):=uAl _ _;have x1:Ext H1 (H1++[AO.list [AV.int 0]]++[AO.list (List.replicate (6:Int).toNat (AV.int 0))]):=by fail "!ex"
 have l3:(H1++[AO.list [AV.int 0]]).length=H.length+3:=by simp [l2]
 generalize H1++[AO.list [AV.int 0]]++[AO.list (List.replicate (6:Int).toNat (AV.int 0))]=H2 at *;generalize (H1++[AO.list [AV.int 0]]).length=na at *;refine uBi (xs:=vs) (I:=NdI H c1 na rules) ?_ ?_ ?_ lim 0 _ (Nat.zero_le _) (by omega) ⟨x0.trans x1,⟨_,x1 _ _ e0⟩,⟨_,x1 _ _ e1⟩,f0,by fail "!lk",by fail "!lk"⟩
 ·rintro p ⟨L',H'⟩ ⟨x,_⟩;exact uBp (x _ _ hv1)
 ·rintro t v ⟨L',H'⟩ hv hz;refine Classical.byContradiction fun hn=>?_;obtain ⟨x,⟨o0,y0⟩,⟨o1,y1⟩,y2,y3,y4⟩:=hz;refine hn ?_;clear hn;dsimp only at x y0 y1 y2 y3 y4;have ht:t<rules.length:=by
   rw [← hv2];rcases Nat.lt_or_ge t vs.length with q|q
   ·exact q
   ·rw [List.getElem?_eq_none q] at hv;cases hv
  obtain ⟨r,hrr⟩ : ∃ r,rules[t]?=some r:=⟨_,List.getElem?_eq_getElem ht⟩
  obtain ⟨i,hi1,hi2⟩:=hv3 t r hrr;rw [hi1] at hv;cases hv;obtain ⟨hp1,hp2⟩:=hp r (List.mem_of_getElem? hrr);have hnext:∀ k,(rules.take (t+1)).foldl (nRow k) 0=nRow k ((rules.take t).foldl (nRow k) 0) r:=fun k=>by
   rw [List.take_add_one,hrr,List.foldl_append];rfl
  repeat fail "!sx"
  refine uFc hp1 ?_;intro H3 x3
  repeat fail "!sx"
  refine uFc hp2 ?_;intro H4 x4
  repeat fail "!sx"
  generalize hHe:((H4++[AO.tup [AV.str (trT r.fst),AV.str (trT r.snd)]]).set H.length (AO.cell (some (AV.str (trT r.fst))))).set c1 (AO.cell (some (AV.str (trT r.snd))))=H5;have z0:H5[H.length]?=some (AO.cell (some (AV.str (trT r.fst)))):=by rw [← hHe];fail "!hp"
  have z1:H5[c1]?=some (AO.cell (some (AV.str (trT r.snd)))):=by rw [← hHe];fail "!hp"
  have z2:H5[na]?=some (.list (uEt fun k=>(rules.take t).foldl (nRow k) 0)):=by rw [← hHe];fail "!hp"
  have z3:Ext H H5:=by rw [← hHe];exact ((x.trans (by fail "!ex")).set (Nat.le_refl _)).set (by omega)
  have z4:=z3 _ _ hn;clear hHe;have hna:=uAe z2;refine uAu rfl (by decide) rfl rfl ?_
  repeat fail "!sx"
  refine uAy (xs:=nms) (nvB (fit r.2)) id (by decide) rfl ?_ ?_ ?_ ?_
  ·intro p L H6 x6;exact uBp (x6 _ _ z4)
  ·intro v hv H6 x6;obtain ⟨k,hk,rfl⟩:=uEy hv
   repeat fail "!sx"
   refine uEr rfl ?_
   repeat fail "!sx"
   refine uI5 hp2 hk ?_;intro H7 x7
   repeat fail "!sx"
   exact ⟨rfl,rfl,x7⟩
  ·intro v hv hc H6 x6
   repeat fail "!sx"
   exact ⟨rfl,rfl,Ext.refl _⟩
  intro H6 x6 e6;rw [uDv] at e6
  repeat fail "!sx"
  refine uAu rfl (by decide) rfl rfl ?_
  repeat fail "!sx"
  refine uAy (xs:=nms) (nvB (fit r.1)) id (by decide) rfl ?_ ?_ ?_ ?_
  ·intro p L H7 x7;exact uBp (x7 _ _ (x6 _ _ z4))
  ·intro v hv H7 x7;obtain ⟨k,hk,rfl⟩:=uEy hv
   repeat fail "!sx"
   refine uEr rfl ?_
   repeat fail "!sx"
   refine uI5 hp1 hk ?_;intro H8 x8
   repeat fail "!sx"
   exact ⟨rfl,rfl,x8⟩
  ·intro v hv hc H7 x7
   repeat fail "!sx"
   exact ⟨rfl,rfl,Ext.refl _⟩
  intro H7 x7 e7;rw [uDv] at e7
  repeat fail "!sx"
  replace e6:H6[H5.length]?=some (.list (nvs (uA3 r.2))):=e6;replace e7:H7[H6.length]?=some (.list (nvs (uA3 r.1))):=e7;have hnab:=uAe (x6 _ _ z2);have w0:=x7 _ _ (x6 _ _ z0);have w1:=x7 _ _ (x6 _ _ z1);have w2:=x7 _ _ (x6 _ _ z2);have w4:=x7 _ _ (x6 _ _ z4);have w6:=x7 _ _ e6;have w3:Ext H H7:=(z3.trans x6).trans x7;clear z0 z1 z2 z3 z4 x6 x7 e6 y0 y1 y2 x3 x4;generalize hoa:H5.length=oa at *;generalize hla:H6.length=la at *;have hlt:1<H.length:=uAe hn;generalize hold:(fun k=>(rules.take t).foldl (nRow k) 0)=old at *;have holdlt:∀ k,old k<64:=fun k=>by rw [← hold];exact uUp k _ 0 (by decide)
  refine uBi (xs:=nvs (uA3 r.1)) (I:=NdI2 H7 na oa r old) ?_ ?_ ?_ lim 0 _ (Nat.zero_le _) ?_ ⟨Ext.x (Ext.refl _),by simpa using w2,by fail "!lk",by fail "!lk",by fail "!lk"⟩
  ·rintro p ⟨L8,H8⟩ ⟨x8,_⟩;exact uBp (x8 _ _ (by omega) e7)
  ·rintro t2 v ⟨L8,H8⟩ hv ⟨x8,u2,u3,u4,u5⟩;dsimp only at x8 u2 u3 u4 u5;unfold nvs at hv;rw [List.getElem?_map] at hv;generalize hk2:(uA3 r.1)[t2]?=zz;induction zz using Option.casesOn with
   | none=>rw [hk2] at hv;cases hv
   | some k=>
   rw [hk2] at hv;cases hv;have hk:k<6:=uD9 (List.mem_of_getElem? hk2);have hnot:k∉(uA3 r.1).take t2:=fun hm=>by
    obtain ⟨i,hi⟩:=List.getElem?_of_mem hm;have hit:i<t2:=by
     rcases Nat.lt_or_ge i t2 with q|q
     ·exact q
     ·rw [List.getElem?_eq_none (by simp;omega)] at hi;cases hi
    rw [List.getElem?_take_of_lt hit] at hi;have:=(List.getElem?_inj (by
     rcases Nat.lt_or_ge i (uA3 r.1).length with q|q
     ·exact q
     ·rw [List.getElem?_eq_none q] at hi;cases hi) (uGf r.1)).mp (hi.trans hk2.symm)
    omega
   repeat fail "!sx"
   refine uBi (xs:=nvs (uA3 r.2)) (I:=NdI3 H7 na oa r old k t2) ?_ ?_ ?_ lim 0 _ (Nat.zero_le _) ?_ ⟨x8,?_,by fail "!lk",by fail "!lk",by fail "!lk",by fail "!lk"⟩
   ·rintro p ⟨L9,H9⟩ ⟨x9,_⟩;exact uBp (x9 _ _ (by omega) w6)
   ·rintro t3 v ⟨L9,H9⟩ hv ⟨x9,s2,s3,s4,s5,s6⟩;dsimp only at x9 s2 s3 s4 s5 s6;unfold nvs at hv;rw [List.getElem?_map] at hv;generalize hk3:(uA3 r.2)[t3]?=zz;induction zz using Option.casesOn with
    | none=>rw [hk3] at hv;cases hv
    | some k'=>
    rw [hk3] at hv;cases hv;have hk':k'<6:=uD9 (List.mem_of_getElem? hk3);have hst:((uA3 r.2).take (t3+1)).foldl (uHr k) (old k)=uHr k (((uA3 r.2).take t3).foldl (uHr k) (old k)) k':=by
     rw [List.take_add_one,hk3,List.foldl_append];rfl
    repeat fail "!sx"
    refine uPc ?_
    repeat fail "!sx"
    refine uGl (uPx 7 _ hk' hk) ?_;by_cases hkk:k'=k
    ·rw [decide_eq_true hkk];refine ⟨fun q=>by (cases q),fun _=>?_⟩
     repeat fail "!sx"
     replace hst:=(show uHr k (((uA3 r.2).take t3).foldl (uHr k) (old k)) k'=((uA3 r.2).take t3).foldl (uHr k) (old k) by unfold uHr;rw [if_pos hkk])▸hst;exact ⟨x9,by rw [hst];exact s2,by fail "!lk",by fail "!lk",by fail "!lk",by fail "!lk"⟩
    ·rw [decide_eq_false hkk];refine ⟨fun _=>?_,fun q=>by (cases q)⟩;have hX:((uA3 r.2).take t3).foldl (uHr k) (old k)<64:=uLc k _ _ (holdlt k) fun j hj=>uD9 (List.mem_of_mem_take hj)
     repeat fail "!sx"
     refine uDs hk (by fail "!hp") ?_
     repeat fail "!sx"
     refine uAt s2 (uB5 (uIa _ hk)) ?_;rw [if_pos rfl]
     repeat fail "!sx"
     refine uDs hk' (by fail "!hp") ?_
     repeat fail "!sx"
     refine uEs hk' ?_
     repeat fail "!sx"
     refine uW1 (a:=a) (ns:=ns) (n:=n+21) ?_;rw [uJm _ hX _ hk']
     repeat fail "!sx"
     refine uMv s2 ⟨by omega,by unfold uEt;rw [List.length_map,List.length_range];exact hk⟩ ?_;rw [show ((k:Nat):Int).toNat=k from rfl,uQh _ hk]
     repeat fail "!sx"
     refine ⟨x9.trans uCl.set,?_,by fail "!lk",by fail "!lk",by fail "!lk",by fail "!lk"⟩;rw [hst];refine Eq.trans (set_same s2) ?_
     congr 3
     refine funext fun j=>?_;by_cases hj:j=k
     ·subst hj;simp [uHr,hkk]
     ·simp [hj]
   ·rintro ⟨L9,H9⟩ ⟨x9,s2,s3,s4,s5,s6⟩;dsimp only at x9 s2 s3 s4 s5 s6
    repeat fail "!sx"
    refine ⟨x9,?_,s3,s4,s5⟩;rw [show (nvs (uA3 r.2)).length=(uA3 r.2).length by unfold nvs;rw [List.length_map],List.take_length] at s2;refine Eq.trans s2 ?_
    congr 3
    refine funext fun j=>?_;rw [List.take_add_one,hk2];by_cases hj:j=k
    ·subst hj;simp
    ·simp [hj]
   ·unfold nvs;rw [List.length_map,Nat.zero_add];exact Nat.lt_of_le_of_lt (List.length_filter_le _ _) (by decide)
   ·refine Eq.trans u2 ?_
    congr 3
    refine funext fun j=>?_;by_cases hj:j=k
    ·subst hj;simp [hnot]
    ·simp [hj]
  ·rintro ⟨L8,H8⟩ ⟨x8,u2,u3,u4,u5⟩;dsimp only at x8 u2 u3 u4 u5
   repeat fail "!sx"
   refine ⟨fun i o h=>?_,⟨_,x8 _ _ (by omega) w0⟩,⟨_,x8 _ _ (by omega) w1⟩,?_,u3,u4⟩
   ·have:=uAe h;exact x8 _ _ (by omega) (w3 _ _ h)
   ·rw [show (nvs (uA3 r.1)).length=(uA3 r.1).length by unfold nvs;rw [List.length_map],List.take_length] at u2;refine Eq.trans u2 ?_
    congr 1
    congr 1
    refine uLs fun j hj=>?_;rw [hnext,show (rules.take t).foldl (nRow j) 0=old j by rw [← hold]];unfold nRow;by_cases hf:fit r.1 j=true
    ·rw [if_pos hf,if_pos (show j∈uA3 r.1 from List.mem_filter.mpr ⟨List.mem_range.mpr hj,hf⟩)]
    ·rw [if_neg hf,if_neg (show ¬ j∈uA3 r.1 from fun h=>hf (List.mem_filter.mp h).2)]
  ·unfold nvs;rw [List.length_map,Nat.zero_add];exact Nat.lt_of_le_of_lt (List.length_filter_le _ _) (by decide)
 ·rintro ⟨L',H'⟩ hz;refine Classical.byContradiction fun hn=>?_;obtain ⟨x,⟨o0,y0⟩,⟨o1,y1⟩,y2,y3,y4⟩:=hz;refine hn ?_;clear hn;dsimp only at x y0 y1 y2 y3 y4
  repeat fail "!sx"
  rw [hv2,List.take_length] at y2;exact q _ _ x (by omega) y2
end
inductive uCc(H:List AO)(ra:Nat)(rs:List (List AV)):Prop
 | mk (vs:List AV):H[ra]?=some (.list vs)→vs.length=rs.length→(∀ (t:Nat) xs,rs[t]?=some xs→At0 H vs t (.list xs))→uCc H ra rs
theorem uFh{rs:List (List AV)}(t:Nat):((rs.take t).flatten).length≤rs.flatten.length:=by
 have h:rs.flatten=(rs.take t).flatten++(rs.drop t).flatten:=by rw [← List.flatten_append,List.take_append_drop]
 rw [h,List.length_append];omega
section
variable {a:Addr}{ns:List Int}{n:Nat}{L:List (Str×AV)}{H:List AO}{Q:AV→St→Prop}
theorem uOq{ra:Nat}{rs:List (List AV)}(hr:uCc H ra rs)(hl:rs.flatten.length≤lz)(hlen:rs.length<lim)(q:∀ H' i,Ext H H'→H'[i]?=some (.list rs.flatten)→Q (.ref i) ⟨L,H'⟩):Ok ((run (PGs a ns) (n+20)).call (fr 289) [.ref ra]) ⟨L,H⟩ Q:=by
 obtain ⟨vs,h1,h2,h3⟩:=hr;refine uCz (f:=uAd "_law_joined" false (top 33)) [(sn "rounds",.ref ra)] rfl rfl rfl rfl rfl ?_;refine uAx ?_
 repeat fail "!sx"
 refine uBi (xs:=vs) (I:=fun t σ=>Ext H σ.H∧∃ i,σ.L.lookup (sn "row")=some (.ref i)∧σ.H[i]?=some (.list (rs.take t).flatten)) ?_ ?_ ?_ lim 0 _ (Nat.zero_le _) (by omega) ⟨by fail "!ex",_,by fail "!lk",uAl _ _⟩
 ·rintro p ⟨L',H'⟩ ⟨x,_⟩;exact uBp (x _ _ h1)
 ·rintro t v ⟨L',H'⟩ hv ⟨x,i,y1,y2⟩;dsimp only at x y1 y2;have ht:t<rs.length:=by
   rw [← h2];rcases Nat.lt_or_ge t vs.length with q|q
   ·exact q
   ·rw [List.getElem?_eq_none q] at hv;cases hv
  have hx:rs[t]?=some rs[t]:=List.getElem?_eq_getElem ht;obtain ⟨j,j1,j2⟩:=h3 t _ hx;rw [j1] at hv;cases hv;have hnext:(rs.take (t+1)).flatten=(rs.take t).flatten++rs[t]:=by
   rw [List.take_add_one,hx,List.flatten_append];simp
  have hb:=uFh (rs:=rs) (t+1);rw [hnext] at hb
  repeat fail "!sx"
  refine uI1 y2 (x _ _ j2) (by omega) ?_
  repeat fail "!sx"
  exact ⟨x.trans (Ext.app _ _),_,by fail "!lk",by rw [hnext];exact uAl _ _⟩
 ·rintro ⟨L',H'⟩ ⟨x,i,y1,y2⟩;dsimp only at x y1 y2
  repeat fail "!sx"
  rw [h2,List.take_length] at y2;exact q _ _ x y2
end
section
variable {P:uBb}{r:Rec}{F:FE}{L:List (Str×AV)}{H:List AO}
end
inductive uBo(H:List AO)(na:Nat)(d:Nat→List Nat):Prop
 | mk (vs:List AV):H[na]?=some (.list vs)→vs.length=6→(∀ k<6,At1 (·≠na) H vs k (.list (pl (d k))))→uBo H na d
theorem uBo.ext{H H':List AO}{na:Nat}{d:Nat→List Nat}(h:uBo H na d)(x:Ext H H'):uBo H' na d:=by
 obtain ⟨vs,h1,h2,h3⟩:=h;refine ⟨vs,x _ _ h1,h2,fun k hk=>?_⟩;obtain ⟨i,a,b,c⟩:=h3 k hk;exact ⟨i,a,b,x _ _ c⟩
theorem uBo.congr{H:List AO}{na:Nat}{d d':Nat→List Nat}(h:uBo H na d)(e:∀ k<6,d k=d' k):uBo H na d':=by
 obtain ⟨vs,h1,h2,h3⟩:=h;refine ⟨vs,h1,h2,fun k hk=>?_⟩;obtain ⟨i,a,b,c⟩:=h3 k hk;exact ⟨i,a,b,by rw [← e k hk];exact c⟩
theorem uBo.set{H:List AO}{na j k:Nat}{d:Nat→List Nat}{row:List Nat}(h:uBo H na d)(hk:k<6)(hj:H[j]?=some (.list (pl row)))(ne:j≠na) :
  ∃ vs,H[na]?=some (.list vs)∧vs.length=6∧uBo (H.set na (.list (vs.set k (.ref j)))) na fun i=>if i=k then row else d i:=by
 obtain ⟨vs,h1,h2,h3⟩:=h;refine ⟨vs,h1,h2,vs.set k (.ref j),set_same h1,by rw [List.length_set];exact h2,fun m hm=>?_⟩;by_cases e:m=k
 ·subst e;refine ⟨j,by rw [List.getElem?_set_self (by omega)],ne,?_⟩
  try dsimp only
  rw [if_pos rfl];exact uAa (Ne.symm ne) hj
 ·obtain ⟨i,a,b,c⟩:=h3 m hm;refine ⟨i,by rw [List.getElem?_set_ne (fun q=>e q.symm)];exact a,b,?_⟩
  try dsimp only
  rw [if_neg e];exact uAa (Ne.symm b) c
theorem uHe(s:List Nat):(uIi 6).filter (intB (fit s))=pl (uA3 s):=uC5 _ _
noncomputable def uAp(d:List Nat):Prop:=d.Nodup∧∀ j∈d,j<6
theorem uAp.len{d:List Nat}(h:uAp d):d.length≤6:=by
 have:=h.1.length_le_of_subset (l₂:=List.range 6) (fun j hj=>List.mem_range.mpr (h.2 j hj));simpa using this
theorem uAp.nil:uAp []:=⟨List.nodup_nil,fun _ h=>by cases h⟩
theorem uAp.filter{d:List Nat}(h:uAp d)(f:Nat→Bool):uAp (d.filter f):=⟨List.Pairwise.filter _ h.1,fun j hj=>h.2 j (List.mem_filter.mp hj).1⟩
theorem uAp.range:uAp (List.range 6):=⟨List.nodup_range,fun j hj=>List.mem_range.mp hj⟩
theorem uAp.app{d e:List Nat}(h:uAp d)(k:uAp e)(x:∀ j∈d,j∉e):uAp (d++e):=
 ⟨List.nodup_append.mpr ⟨h.1,k.1,fun a ha b hb q=>x a ha (by rw [q];exact hb)⟩,fun j hj=>by
  rcases List.mem_append.mp hj with q|q
  ·exact h.2 j q
  ·exact k.2 j q⟩
theorem uJk{k:Nat}{os d:List Nat}(h:uAp d)(ho:uAp os):uAp (addD k os d):=by
 unfold addD;refine h.app (ho.filter _) fun j hj hm=>?_;have:=(List.mem_filter.mp hm).2;simp [hj] at this
theorem uHh(s:List Nat):uAp (uA3 s):=uAp.range.filter _
theorem uMi{k:Nat}{d:List Nat}{r:List Nat×List Nat}(h:uAp d):uAp (uH8 k d r):=by
 unfold uH8
 split
 ·exact uJk h (uHh _)
 ·exact h
theorem uE6(k:Nat):∀ (rs:List (List Nat×List Nat)) (d:List Nat),uAp d→uAp (rs.foldl (uH8 k) d):=by
 intro zz;induction zz with
 | nil=>
  intro d h;exact h
 | cons r rs ih=>
  intro d h;exact ih _ (uMi h)
theorem uXb:∀ m<64,∀ j<6,m.testBit j=false→2 ^ j ||| m=2 ^ j+m:=by decide +kernel
theorem uVv:∀ d:List Nat,(∀ j∈d,j<6)→mk d<64:=by
 intro zz;induction zz with
 | nil=>
  intro _;decide
 | cons j d ih=>
  intro h;exact Nat.or_lt_two_pow (n:=6) (Nat.pow_lt_pow_right (by decide) (h j (.head _))) (ih fun i hi=>h i (.tail _ hi))
noncomputable def pow2(d:List Nat):List Int:=d.map fun j=>((2 ^ j:Nat):Int)
theorem uSw:∀ d:List Nat,uAp d→(pow2 d).sum=(mk d:Nat):=by
 intro zz;induction zz with
 | nil=>
  intro _;exact rfl
 | cons j d ih=>
  intro h;have h':uAp d:=⟨(List.nodup_cons.mp h.1).2,fun i hi=>h.2 i (.tail _ hi)⟩
  have ih:=ih h';unfold pow2 at ih ⊢;rw [List.map_cons,List.sum_cons,ih,mk,uXb _ (uVv d h'.2) _ (h.2 j (.head _)) (by rw [uHp];simpa using (List.nodup_cons.mp h.1).1)];omega
noncomputable def rdy(d:Nat→List Nat)(T:List Nat):List Nat:=(List.range 6).filter fun k=>!T.contains k&&(d k).all T.contains
theorem uC9{d:Nat→List Nat}{T:List Nat}{k:Nat}:k∈rdy d T↔k<6∧k∉T∧∀ j∈d k,j∈T:=by
 unfold rdy;rw [List.mem_filter,List.mem_range];simp [List.all_eq_true]
theorem uBu(d:Nat→List Nat)(T:List Nat):uAp (rdy d T):=uAp.range.filter _
noncomputable def kst(d:Nat→List Nat):Nat→List (List Nat)×List Nat
 | 0=>([],[])
 | t+1=>((kst d t).1++[rdy d (kst d t).2],(kst d t).2++rdy d (kst d t).2)
section
variable {d:Nat→List Nat}
theorem uF4:∀ t,uAp (kst d t).2:=by
 intro zz;induction zz with
 | zero=>
  exact uAp.nil
 | succ t ih=>
  exact (ih).app (uBu _ _) fun j hj hm=>(uC9.mp hm).2.1 hj
theorem uS2:∀ t,(∀ s<t,rdy d (kst d s).2≠[])→t≤(kst d t).2.length:=by
 intro zz;induction zz with
 | zero=>
  intro _;exact Nat.zero_le _
 | succ t ih=>
  intro h;have ih:=ih fun s hs=>h s (by omega);have:=h t (by omega);show t+1≤((kst d t).2++rdy d (kst d t).2).length;rw [List.length_append];have:0<(rdy d (kst d t).2).length:=by
   generalize q:rdy d (kst d t).2=zz;induction zz using List.casesOn with
   | nil=>exact absurd q this
   | cons _ _=>simp
  omega
theorem uOx{t:Nat}(h:∀ s<t,rdy d (kst d s).2≠[]):t≤6:=Nat.le_trans (uS2 t h) (uF4 t).len
theorem uE3:∀ t,(kst d t).1.length=t:=by
 intro zz;induction zz with
 | zero=>
  exact rfl
 | succ t ih=>
  show ((kst d t).1++[_]).length=_;rw [List.length_append,ih];rfl
theorem uR1:∀ t,(kst d t).1.flatten=(kst d t).2:=by
 intro zz;induction zz with
 | zero=>
  exact rfl
 | succ t ih=>
  show ((kst d t).1++[rdy d (kst d t).2]).flatten=(kst d t).2++rdy d (kst d t).2;rw [List.flatten_append,ih];simp
noncomputable def Kend(d:Nat→List Nat)(t:Nat):Prop:=(∀ s<t,rdy d (kst d s).2≠[])∧rdy d (kst d t).2=[]
theorem uMw{t t':Nat}(h:Kend d t)(h':Kend d t'):t=t':=by
 rcases Nat.lt_trichotomy t t' with q|q|q
 ·exact absurd h.2 (h'.1 t q)
 ·exact q
 ·exact absurd h'.2 (h.1 t' q)
noncomputable def Ring(d:Nat→List Nat)(C:List Nat):Prop:=C≠[]∧∀ v∈C,v<6∧∃ u∈C,u∈d v
theorem uP7{C:List Nat}(h:Ring d C):∀ t,∀ v∈C,v∉(kst d t).2:=by
 intro zz;induction zz with
 | zero=>
  intro v _;intro q;cases q
 | succ t ih=>
  intro v hv;intro q;rcases List.mem_append.mp q with q|q
  ·exact ih v hv q
  ·obtain ⟨u,hu,hd⟩:=(h.2 v hv).2;exact ih u hu ((uC9.mp q).2.2 u hd)
theorem uRw{C:List Nat}(h:Ring d C)(t:Nat):(kst d t).2.length<6:=by
 obtain ⟨v,hv⟩:=List.exists_mem_of_ne_nil _ h.1;have o:=uP7 h t v hv;have:uAp (v::(kst d t).2):=⟨List.nodup_cons.mpr ⟨o,(uF4 t).1⟩,fun j hj=>by
  rcases List.mem_cons.mp hj with rfl|hj
  ·exact (h.2 _ hv).1
  ·exact (uF4 t).2 j hj⟩
 have:=this.len;simp at this;omega
noncomputable def Fin6(d:Nat→List Nat):List Nat→Prop
 | []=>True
 | v::F=>(∀ k<6,v∈d k→k∈F)∧v∉F∧Fin6 d F
theorem uLw{F:List Nat}(h:Fin6 d F):∀ u∈F,∀ v<6,u∈d v→v∈F:=by
 induction F with
 | nil=>exact fun _ h=>absurd h List.not_mem_nil
 | cons w F ih=>
  intro u hu v hv hd;rcases List.mem_cons.mp hu with rfl|hu
  ·exact .tail _ (h.1 v hv hd)
  ·exact .tail _ (ih h.2.2 u hu v hv hd)
theorem uZj{T:List Nat}(hd:∀ k<6,∀ j∈d k,j<6)(hr:rdy d T=[])(full:List Nat)(ha:∀ k<6,k∈full):∀ (F pre:List Nat),full=pre++F→Fin6 d F→(∀ p∈pre,p<6→p∈T)→∀ p∈F,p<6→p∈T:=by
 intro F;induction F with
 | nil=>exact fun _ _ _ _ _ hp=>absurd hp List.not_mem_nil
 | cons v F ih=>
  intro pre e h hpre p hp hp6;have hv:v<6→v∈T:=fun hv=>by
   refine Classical.byContradiction fun hn=>?_;have:v∈rdy d T:=uC9.mpr ⟨hv,hn,fun u hu=>by
    have hu6:=hd v hv u hu;have hm:=ha u hu6;rw [e] at hm;rcases List.mem_append.mp hm with q|q
    ·exact hpre u q hu6
    ·rcases List.mem_cons.mp q with rfl|q
     ·exact absurd (h.1 _ hv hu) h.2.1
     ·exact absurd (uLw h.2.2 u q v hv hu) h.2.1⟩
   rw [hr] at this;cases this
  rcases List.mem_cons.mp hp with rfl|hp
  ·exact hv hp6
  ·exact ih (pre++[v]) (by rw [e];simp) h.2.2 (fun q hq hq6=>by
    rcases List.mem_append.mp hq with hq|hq
    ·exact hpre q hq hq6
    ·rcases List.mem_singleton.mp hq with rfl;exact hv hq6) p hp hp6
theorem uTy{F:List Nat}(hd:∀ k<6,∀ j∈d k,j<6)(h:Fin6 d F)(ha:∀ k<6,k∈F){t:Nat}(hr:rdy d (kst d t).2=[]):(kst d t).2.length=6:=by
 have hs:List.range 6 ⊆ (kst d t).2:=fun k hk=>uZj hd hr F ha F [] rfl h (fun _ q=>by cases q) k (ha k (List.mem_range.mp hk)) (List.mem_range.mp hk);have h1:=List.nodup_range (n:=6) |>.length_le_of_subset hs
 have h2:=(uF4 (d:=d) t).len;simp at h1;omega
end
theorem uBo.setC{H:List AO}{na c:Nat}{d:Nat→List Nat}{o v:Option AV}(h:uBo H na d)(hc:H[c]?=some (.cell o)):uBo (H.set c (.cell v)) na d:=by
 obtain ⟨vs,h1,h2,h3⟩:=h;have n1:c≠na:=uAi hc h1 rfl;refine ⟨vs,uAa n1 h1,h2,fun k hk=>?_⟩;obtain ⟨i,a,b,e⟩:=h3 k hk;exact ⟨i,a,b,uAa (uAi hc e rfl) e⟩
theorem uBo.lt{H:List AO}{na:Nat}{d:Nat→List Nat}(h:uBo H na d):na<H.length:=by
 obtain ⟨vs,h1,_⟩:=h;exact uAe h1
theorem uFx{d:List Nat}{t k:Nat}(h:d.Nodup)(e:d[t]?=some k):k∉d.take t:=fun hm=>by
 obtain ⟨i,hi⟩:=List.getElem?_of_mem hm;have hit:i<t:=by
  rcases Nat.lt_or_ge i t with q|q
  ·exact q
  ·rw [List.getElem?_eq_none (by simp;omega)] at hi;cases hi
 rw [List.getElem?_take_of_lt hit] at hi;have:=(List.getElem?_inj (by
  rcases Nat.lt_or_ge i d.length with q|q
  ·exact q
  ·rw [List.getElem?_eq_none q] at hi;cases hi) h).mp (hi.trans e.symm)
 omega
theorem uI3{k:Nat}(hk:k<6):nms[k]?=some (nv k):=by
 rw [uKt,List.getElem?_map,List.getElem?_range hk];rfl
theorem uCl.set'{c a:Nat}{H0 H:List AO}{o:AO}(x:uCl c H0 H)(h:H0.length≤a):uCl c H0 (H.set a o):=fun i o' ne q=>by
 have:=uAe q;rw [List.getElem?_set_ne (by omega)];exact x i o' ne q
theorem uCl.setc{c:Nat}{H0 H:List AO}{o:AO}(x:uCl c H0 H):uCl c H0 (H.set c o):=x.trans uCl.set
theorem uCl.refl(c:Nat)(H:List AO):uCl c H H:=fun _ _ _ h=>h
theorem uCl.ext{c:Nat}{A B C:List AO}(x:uCl c A B)(y:Ext B C):uCl c A C:=x.trans y.x
theorem uCl.out{c:Nat}{A B C:List AO}(x:Ext A B)(y:uCl c B C)(h:A.length≤c):Ext A C:=fun i o q=>by
 have:=uAe q;exact y i o (by omega) (x i o q)
theorem uBo.extx{H H':List AO}{na c:Nat}{d:Nat→List Nat}{o:Option AV}(h:uBo H na d)(x:uCl c H H')(hc:H[c]?=some (.cell o)):uBo H' na d:=by
 obtain ⟨vs,h1,h2,h3⟩:=h;refine ⟨vs,x _ _ (fun q=>by rw [← q,h1] at hc;cases hc) h1,h2,fun k hk=>?_⟩;obtain ⟨i,a,b,e⟩:=h3 k hk;exact ⟨i,a,b,x _ _ (fun q=>by rw [← q,e] at hc;cases hc) e⟩
inductive RnAt(H:List AO)(b ra:Nat)(rs:List (List AV)):Prop
 | mk:b≤ra→∀ vs:List AV,H[ra]?=some (.list vs)→vs.length=rs.length→(∀ (t:Nat) xs,rs[t]?=some xs→At1 (ra < ·) H vs t (.list xs))→RnAt H b ra rs
theorem RnAt.lists{H:List AO}{b ra:Nat}{rs:List (List AV)}(h:RnAt H b ra rs):uCc H ra rs:=by
 obtain ⟨_,vs,h1,h2,h3⟩:=h;refine ⟨vs,h1,h2,fun t xs e=>?_⟩;obtain ⟨i,a,_,c⟩:=h3 t xs e;exact ⟨i,a,c⟩
theorem RnAt.ext{H H':List AO}{b ra:Nat}{rs:List (List AV)}(h:RnAt H b ra rs)(x:Ext H H'):RnAt H' b ra rs:=by
 obtain ⟨hb,vs,h1,h2,h3⟩:=h;refine ⟨hb,vs,x _ _ h1,h2,fun t xs e=>?_⟩;obtain ⟨i,a,b,c⟩:=h3 t xs e;exact ⟨i,a,b,x _ _ c⟩
theorem RnAt.setL{H:List AO}{b ra c:Nat}{o:AO}{rs:List (List AV)}(h:RnAt H b ra rs)(hc:c<b):RnAt (H.set c o) b ra rs:=by
 obtain ⟨hb,vs,h1,h2,h3⟩:=h;refine ⟨hb,vs,uAa (by omega) h1,h2,fun t xs e=>?_⟩;obtain ⟨i,a,b,c⟩:=h3 t xs e;exact ⟨i,a,b,uAa (by omega) c⟩
theorem RnAt.push{H:List AO}{b ra i:Nat}{rs:List (List AV)}{xs:List AV}(h:RnAt H b ra rs)(hi:H[i]?=some (.list xs))(ne:ra<i) :
  ∃ vs,H[ra]?=some (.list vs)∧vs.length=rs.length∧RnAt (H.set ra (.list (vs++[.ref i]))) b ra (rs++[xs]):=by
 obtain ⟨hb,vs,h1,h2,h3⟩:=h;refine ⟨vs,h1,h2,hb,_,set_same h1,by simp [h2],fun t ys e=>?_⟩;rcases Nat.lt_or_ge t rs.length with q|q
 ·rw [List.getElem?_append_left q] at e;obtain ⟨j,a,b,c⟩:=h3 t ys e;exact ⟨j,by rw [List.getElem?_append_left (by omega)];exact a,b,uAa (by omega) c⟩
 ·rw [List.getElem?_append_right q] at e;have:t=rs.length:=by
   rcases Nat.lt_or_ge (t-rs.length) 1 with p|p
   ·omega
   ·rw [List.getElem?_eq_none (by simpa using p)] at e;cases e
  subst this;simp at e;subst e;exact ⟨i,by rw [← h2];simp,ne,uAa (by omega) hi⟩
theorem uTf(d:Nat→List Nat):(List.range 6).filter (fun k=>decide (pl (d k)=[]))=rdy d []:=by
 unfold rdy;refine List.filter_congr fun k _=>?_;generalize d k=zz;induction zz using List.casesOn with
 | nil=>rfl
 | cons j r=>rfl
theorem uXy(d:Nat→List Nat)(T:List Nat):(List.range 6).filter (fun k=>!T.contains k&&decide (pl ((d k).filter fun j=>!T.contains j)=[]))=rdy d T:=by
 unfold rdy;refine List.filter_congr fun k _=>?_
 congr 1
 generalize d k=r;induction r with
 | nil=>rfl
 | cons j r ih=>
  rw [List.filter_cons,List.all_cons];generalize T.contains j=zz;induction zz using Bool.casesOn with
  | true=>exact ih
  | false=>rfl
theorem uLp{ps:List Nat}(h:∀ p∈ps,p<6):(pl ps).map (intF nv)=nvs ps:=uLb _ _
theorem uE7(f:Nat→Bool):(uIi 6).filter (intB f)=pl ((List.range 6).filter f):=uC5 _ _
noncomputable def powI:AV→Int
 | .int j=>((2 ^ j.toNat:Nat):Int)
 | _=>0
noncomputable def sumL(xs:List AV):AV:=.int (xs.map powI).sum
noncomputable def sumAt(H:List AO):AV→AV
 | .ref i=>((H[i]?.bind pL).map sumL).getD .none
 | _=>.none
theorem uLo{H:List AO}{i:Nat}{d:List Nat}(hd:uAp d)(h:H[i]?=some (.list (pl d))):sumAt H (.ref i)=.int (mk d:Nat):=by
 refine (congrArg (fun o=>(Option.map sumL o).getD .none) (ob (f:=pL) h rfl)).trans ?_;rw [← uSw d hd];show AV.int (List.map powI (pl d)).sum=_;unfold pl pow2;rw [List.map_map];rfl
theorem uMq:∀ d:List Nat,uGz (d.map fun j=>AV.int (2 ^ j:Nat))=some (pow2 d):=by
 intro zz;induction zz with
 | nil=>
  exact rfl
 | cons j d ih=>
  show (uGz (d.map fun j=>AV.int (2 ^ j:Nat))).map (((2 ^ j:Nat):Int)::·)=_;rw [ih];rfl
noncomputable def dueF(c0 c1 c2 c3 c4 c5:Nat):FE:={ scope:=(uAd "_law_due" false (top 32)).scope,cells:=[(sn "names",c0),(sn "needs",c1),(sn "first",c2),(sn "second",c3),(sn "k",c4),(sn "told",c5)] }
inductive DueAt(H:List AO)(i:Nat)(d:Nat→List Nat)(t:Nat):Prop
 | mk (A B R:Nat):H[i]?=some (.tup [.ref A,.ref B])→H[A]?=some (.list (uEt fun k=>mk (d k)))→H[B]?=some (.tup [.ref R,.bool (decide ((kst d t).2.length<6))])→uCc H R ((kst d t).1.map nvs)→DueAt H i d t
section
variable {a:Addr}{ns:List Int}{n:Nat}{L L0:List (Str×AV)}{H:List AO}{Q:AV→St→Prop}
inductive DtQ(H:List AO)(c5 ra:Nat)(d:Nat→List Nat)(fl:Fl)(σ:St):Prop
 | mk:(fl=Fl.next)→∀ (t:Nat),Kend d t→uCl c5 H σ.H→((∃ ta,σ.H[c5]?=some (AO.cell (some (.ref ta)))∧σ.H[ta]?=some (.list (pl (kst d t).2))))→σ.L.lookup (sn "rounds")=some (.ref ra)→RnAt σ.H H.length ra ((kst d t).1.map nvs)→DtQ H c5 ra d fl σ
inductive DtI(H:List AO)(c5 ra:Nat)(d:Nat→List Nat)(m:Nat)(σ:St):Prop
 | mk:∀ (t:Nat),m+t=7→(∀ s<t,rdy d (kst d s).2≠[])→uCl c5 H σ.H→((∃ ta,σ.H[c5]?=some (AO.cell (some (.ref ta)))∧σ.H[ta]?=some (.list (pl (kst d t).2))∧ta≠ra))→σ.L.lookup (sn "rounds")=some (.ref ra)→RnAt σ.H H.length ra ((kst d t).1.map nvs)→(∃ ya,σ.L.lookup (sn "ready")=some (.ref ya)∧σ.H[ya]?=some (.list (pl (rdy d (kst d t).2)))∧ra<ya)→DtI H c5 ra d m σ
theorem uPu{c0 c1 c2 c3 c4 c5 na b:Nat}{o5:Option AV}{d:Nat→List Nat}(hd:∀ k,uAp (d k))(hn:H[1]?=some (.list nms))(g0:H[c0]?=some (AO.cell (some (.ref 1))))(g1:H[c1]?=some (AO.cell (some (.ref na))))(g5:H[c5]?=some (AO.cell o5))(hr:uBo H na d)
  (n05:c0≠c5) (n15:c1≠c5)
  (q:∀ H' i t,uCl c5 H H'→H.length≤i→DueAt H' i d t→Kend d t→Q (.ref i) ⟨L0,H'⟩) :
  Ok (exB (PGs a ns) (run (PGs a ns) (n+32)) (dueF c0 c1 c2 c3 c4 c5) ((uAd "_law_due" false (top 32)).body.drop 2)) ⟨L,H⟩ (retQ Q L0):=by
 refine uAx ?_
 repeat fail "!sx"
 have hna:=hr.lt;have hc5:=uAe g5;have l1:(H++[AO.list []]).length=H.length+1:=by simp
 generalize hHe:(H++[AO.list []]++[AO.list []]++[AO.tup [AV.ref H.length,AV.ref (H++[AO.list []]).length]]).set c5 (AO.cell (some (AV.ref H.length)))=H1;have x1:uCl c5 H H1:=by rw [← hHe];exact (Ext.x (by fail "!ex")).setc
 have e5:H1[c5]?=some (AO.cell (some (.ref H.length))):=by rw [← hHe];exact set_same (uAh (uAh (uAh g5)))
 have et:H1[H.length]?=some (.list (pl [])):=by rw [← hHe];show _=some (AO.list []);fail "!hp"
 have er:H1[(H++[AO.list []]).length]?=some (.list []):=by rw [← hHe];fail "!hp"
 generalize (H++[AO.list []]).length=ra at *;have er:RnAt H1 H.length ra []:=⟨by omega,[],er,rfl,fun t xs e=>by simp at e⟩
 clear hHe;have f0:=x1 _ _ n05 g0;have f1:=x1 _ _ n15 g1;have hr1:=hr.extx x1 g5;refine uAu rfl (by decide) rfl rfl ?_
 repeat fail "!sx"
 refine uCu (m:=0) (n:=((6:Nat):Int)) (uAl _ _) (by decide) ?_;refine uAy (xs:=uIi 6) (intB fun k=>decide (pl (d k)=[])) id (by decide) rfl ?_ ?_ ?_ ?_
 ·intro p L H6 x6;exact uE8
 ·intro v hv H6 x6;obtain ⟨k,hk,rfl⟩:=uDf hv;obtain ⟨us,u1,u2,u3⟩:=(hr1.ext (Ext.app _ _)).ext x6;obtain ⟨j,j1,j2,j3⟩:=u3 k hk
  repeat fail "!sx"
  refine uAt u1 (uB5 j1) ?_
  repeat fail "!sx"
  refine uN1 (uGr (uAh j3) (uAl _ _)) ?_;exact ⟨rfl,rfl,Ext.app _ _⟩
 ·intro v hv hc H6 x6
  repeat fail "!sx"
  exact ⟨rfl,rfl,Ext.refl _⟩
 intro H2 x2 e2;rw [uE7,List.map_id,uTf] at e2
 repeat fail "!sx"
 have y2:Ext H1 H2:=(Ext.app _ _).trans x2;have hlr:ra<H1.length:=by obtain ⟨_,vs,v1,_⟩:=er;exact uAe v1
 refine uAc (Q':=DtQ H c5 ra d)
  (uCj (I:=DtI H c5 ra d) ?_ lim 7 _ (by decide)
   ⟨0,rfl,fun s hs=>by omega,x1.ext y2,⟨_,y2 _ _ e5,y2 _ _ et,by omega⟩,by fail "!lk",er.ext y2,_,by fail "!lk",e2,by simp;omega⟩) ?_
 ·clear x1 e5 et er f0 f1 hr1 x2 e2 y2;rintro m ⟨L8,H8⟩ hz;refine Classical.byContradiction fun hn=>?_;obtain ⟨t,hm,hs,x8,⟨ta,t1,t2,t3⟩,r1,r2,ya,y1,y2,y3⟩:=hz;refine hn ?_;clear hn;dsimp only at x8 t1 t2 r1 r2 y1 y2;have f0:=x8 _ _ n05 g0;have f1:=x8 _ _ n15 g1;have fn:=x8 _ _ (fun q=>by rw [← q,hn] at g5;cases g5) hn;have ht6:=uOx hs;have hr8:=hr.extx x8 g5
  repeat fail "!sx"
  refine uGl (uGr (uAh y2) (uAl _ _)) ?_;by_cases he:rdy d (kst d t).2=[]
  ·rw [he];refine ⟨fun q=>by (cases q),fun _=>?_⟩
   repeat fail "!sx"
   exact ⟨rfl,t,⟨hs,he⟩,x8.ext (Ext.app _ _),⟨ta,uAh t1,uAh t2⟩,r1,r2.ext (Ext.app _ _)⟩
  have hpl:decide (pl (rdy d (kst d t).2)=[])=false:=decide_eq_false fun q=>he (by
   unfold pl at q;simpa using q)
  rw [hpl];refine ⟨fun _=>?_,fun q=>by (cases q)⟩;obtain ⟨vs,v1⟩ : ∃ vs,H8[ra]?=some (.list vs):=by obtain ⟨_,vs,v1,_⟩:=r2;exact ⟨vs,v1⟩
  repeat fail "!sx"
  refine uAu rfl (by decide) rfl rfl ?_
  repeat fail "!sx"
  refine uAy (xs:=pl (rdy d (kst d t).2)) (fun _=>true) (intF nv) ?_ rfl ?_ ?_ ?_ ?_
  ·unfold pl;rw [List.length_map];exact Nat.lt_of_le_of_lt (uBu _ _).len (by decide)
  ·intro p L H9 x9;exact uBp (x9 _ _ (uAh y2))
  ·intro v hv H9 x9
   repeat fail "!sx"
   exact ⟨rfl,rfl,Ext.refl _⟩
  ·intro v hv hc H9 x9;obtain ⟨k,hk,rfl⟩:=uEi hv
   repeat fail "!sx"
   refine uAt (xs:=nms) (v:=nv k) (by fail "!hp") (uB5 (uI3 ((uBu _ _).2 k hk))) ?_;exact ⟨rfl,rfl,Ext.refl _⟩
  intro H9 x9 e9;rw [uBf,uLp (uBu _ _).2] at e9;have y9:Ext H8 H9:=(Ext.app _ _).trans x9;have hl8:=uAe v1;obtain ⟨ws,w1,w2,w3⟩:=(r2.ext y9).push e9 (by simp;omega);have hl9:ws.length<lz:=by rw [w2,List.length_map,uE3];exact Nat.lt_of_le_of_lt ht6 (by decide)
  repeat fail "!sx"
  refine uAw w1 hl9 ?_;have x10:uCl c5 H (H9.set ra (.list (ws++[.ref (H8++[AO.list []]).length]))):=(x8.ext y9).set' (by omega);have t10:(H9.set ra (.list (ws++[.ref (H8++[AO.list []]).length])))[c5]?=some (AO.cell (some (.ref ta))):=uAa (by omega) (y9 _ _ t1);have t11:(H9.set ra (.list (ws++[.ref (H8++[AO.list []]).length])))[ta]?=some (.list (pl (kst d t).2)):=uAa (by omega) (y9 _ _ t2);have y10:(H9.set ra (.list (ws++[.ref (H8++[AO.list []]).length])))[ya]?=some (.list (pl (rdy d (kst d t).2))):=uAa (by omega) (y9 _ _ y2);have hl10:ra<(H9.set ra (.list (ws++[.ref (H8++[AO.list []]).length]))).length:=by rw [List.length_set];have:=uAe w1;omega
  generalize H9.set ra (.list (ws++[.ref (H8++[AO.list []]).length]))=H10 at *
  repeat fail "!sx"
  refine uJc t11 y10 ?_ ?_
  ·unfold pl;rw [← List.map_append,List.length_map];exact Nat.le_trans (uF4 (d:=d) (t+1)).len (by decide)
  repeat fail "!sx"
  have hT:pl (kst d t).2++pl (rdy d (kst d t).2)=pl (kst d (t+1)).2:=by
   show _=pl ((kst d t).2++rdy d (kst d t).2);unfold pl;rw [List.map_append]
  rw [hT];have a1:((H10++[AO.list (pl (kst d (t+1)).2)]).set c5 (AO.cell (some (AV.ref H10.length))))[c5]?=some (AO.cell (some (.ref H10.length))):=set_same (uAh t10);have a2:((H10++[AO.list (pl (kst d (t+1)).2)]).set c5 (AO.cell (some (AV.ref H10.length))))[H10.length]?=some (.list (pl (kst d (t+1)).2)):=uAa (by have:=uAe t10;omega) (uAl _ _);have a3:uCl c5 H ((H10++[AO.list (pl (kst d (t+1)).2)]).set c5 (AO.cell (some (AV.ref H10.length)))):=(x10.ext (Ext.app _ _)).setc;have a4:=(w3.ext (Ext.app H10 [AO.list (pl (kst d (t+1)).2)])).setL (o:=AO.cell (some (AV.ref H10.length))) hc5;have a5:H10.length<((H10++[AO.list (pl (kst d (t+1)).2)]).set c5 (AO.cell (some (AV.ref H10.length)))).length:=by simp
  generalize (H10++[AO.list (pl (kst d (t+1)).2)]).set c5 (AO.cell (some (AV.ref H10.length)))=H11 at *;have h0:=a3 _ _ n05 g0;have h1:=a3 _ _ n15 g1;have hr11:=hr.extx a3 g5;refine uAu rfl (by decide) rfl rfl ?_
  repeat fail "!sx"
  refine uCu (m:=0) (n:=((6:Nat):Int)) (uAl _ _) (by decide) ?_;refine uAy (xs:=uIi 6) (intB fun k=>!(kst d (t+1)).2.contains k&&decide (pl ((d k).filter fun j=>!(kst d (t+1)).2.contains j)=[])) id (by decide) rfl ?_ ?_ ?_ ?_
  ·intro p L H6 x6;exact uE8
  ·intro v hv H6 x6;obtain ⟨k,hk,rfl⟩:=uDf hv;obtain ⟨us,u1,u2,u3⟩:=(hr11.ext (Ext.app _ _)).ext x6;obtain ⟨j,j1,j2,j3⟩:=u3 k hk
   repeat fail "!sx"
   refine uFd (x6 _ _ (uAh a2)) (uEz _ _) ?_;generalize hct:(kst d (t+1)).2.contains k=zz;induction zz using Bool.casesOn with
   | true=>
    refine ⟨fun q=>by (cases q),fun _=>?_⟩;refine ⟨?_,rfl,Ext.refl _⟩;show false=(!(kst d (t+1)).2.contains k&&_)
    rw [hct];rfl
   | false=>
    refine ⟨fun _=>?_,fun q=>by (cases q)⟩
    repeat fail "!sx"
    refine uAu rfl (by decide) rfl rfl ?_
    repeat fail "!sx"
    refine uAt u1 (uB5 j1) ?_
    repeat fail "!sx"
    refine uAy (xs:=pl (d k)) (intB fun j=>!(kst d (t+1)).2.contains j) id ?_ rfl ?_ ?_ ?_ ?_
    ·unfold pl;rw [List.length_map];exact Nat.lt_of_le_of_lt (hd k).len (by decide)
    ·intro p L H7 x7;exact uBp (x7 _ _ j3)
    ·intro v hv H7 x7;obtain ⟨i,hi,rfl⟩:=uEi hv
     repeat fail "!sx"
     refine uFd (x7 _ _ (x6 _ _ (uAh a2))) (uEz _ _) ?_;exact ⟨rfl,rfl,Ext.refl _⟩
    ·intro v hv hc H7 x7
     repeat fail "!sx"
     exact ⟨rfl,rfl,Ext.refl _⟩
    intro H7 x7 e7;rw [uC5,List.map_id] at e7
    repeat fail "!sx"
    refine uN1 (uGr (uAh e7) (uAl _ _)) ?_;refine ⟨?_,rfl,x7.trans (Ext.app _ _)⟩;show _=(!(kst d (t+1)).2.contains k&&_)
    rw [hct];rfl
  ·intro v hv hc H6 x6
   repeat fail "!sx"
   exact ⟨rfl,rfl,Ext.refl _⟩
  intro H12 x12 e12;rw [uE7,List.map_id,uXy] at e12
  repeat fail "!sx"
  have y12:Ext H11 H12:=(Ext.app _ _).trans x12;refine ⟨m-1,by omega,t+1,by omega,fun s hs'=>?_,a3.ext y12,⟨_,y12 _ _ a1,y12 _ _ a2,by omega⟩,by fail "!lk",?_,_,by fail "!lk",e12,by simp;omega⟩
  ·rcases Nat.lt_or_ge s t with q|q
   ·exact hs s q
   ·rw [show s=t by omega];exact he
  ·show RnAt H12 H.length ra (((kst d t).1++[rdy d (kst d t).2]).map nvs);rw [List.map_append];exact a4.ext y12
 clear x1 e5 et er f0 f1 hr1 x2 e2 y2;rintro fl ⟨L8,H8⟩ ⟨rfl,t,hk,x8,⟨ta,t1,t2⟩,r1,r2⟩;dsimp only at x8 t1 t2 r1 r2
 repeat fail "!sx"
 have h1:=x8 _ _ n15 g1;obtain ⟨us,u1,u2,u3⟩:=hr.extx x8 g5;refine uAu rfl (by decide) rfl rfl ?_
 repeat fail "!sx"
 refine uAy (xs:=us) (fun _=>true) (sumAt H8) ?_ rfl ?_ ?_ ?_ ?_
 ·rw [u2];decide
 ·intro p L H9 x9;exact uBp (x9 _ _ u1)
 ·intro v hv H9 x9
  repeat fail "!sx"
  exact ⟨rfl,rfl,Ext.refl _⟩
 ·intro v hv hc H9 x9;obtain ⟨k,hkk⟩:=List.getElem?_of_mem hv;have hk6:k<6:=by
   rcases Nat.lt_or_ge k us.length with q|q
   ·omega
   ·rw [List.getElem?_eq_none q] at hkk;cases hkk
  obtain ⟨j,j1,j2,j3⟩:=u3 k hk6;rw [j1] at hkk;cases hkk;rw [uLo (hd k) j3]
  repeat fail "!sx"
  refine uAu rfl (by decide) rfl rfl ?_
  repeat fail "!sx"
  refine uAy (xs:=pl (d k)) (fun _=>true) (intF fun j=>.int (2 ^ j:Nat)) ?_ rfl ?_ ?_ ?_ ?_
  ·unfold pl;rw [List.length_map];exact Nat.lt_of_le_of_lt (hd k).len (by decide)
  ·intro p L H10 x10;exact uBp (x10 _ _ (x9 _ _ j3))
  ·intro v hv H10 x10
   repeat fail "!sx"
   exact ⟨rfl,rfl,Ext.refl _⟩
  ·intro v hv hc H10 x10;obtain ⟨i,hi,rfl⟩:=uEi hv;have hi6:=(hd k).2 i hi
   repeat fail "!sx"
   refine uD7 (z:=(2 ^ i:Nat)) ?_ ?_
   ·show (if ((0:Int)≤i∧(i:Int)<64)∧((0:Int)≤2∧(2:Int)<64) then some (2 ^ (i:Int).toNat) else none)=_;rw [if_pos (by omega)];simp
   exact ⟨rfl,rfl,Ext.refl _⟩
  intro H10 x10 e10;rw [uBf,uLb] at e10
  repeat fail "!sx"
  refine uXh e10 (uMq _) ?_;rw [uSw _ (hd k)];exact ⟨rfl,rfl,x10⟩
 intro H9 x9 e9;rw [uBf] at e9;have e9':us.map (sumAt H8)=uEt fun k=>mk (d k):=by
  refine List.ext_getElem? fun k=>?_;rw [List.getElem?_map];unfold uEt;rw [List.getElem?_map];rcases Nat.lt_or_ge k 6 with q|q
  ·obtain ⟨j,j1,j2,j3⟩:=u3 k q;rw [j1,List.getElem?_range q,Option.map_some,uLo (hd k) j3];rfl
  ·rw [List.getElem?_eq_none (by omega),List.getElem?_eq_none (by simpa using q)];rfl
 rw [e9'] at e9
 repeat fail "!sx"
 rw [show (pl (kst d t).2).length=(kst d t).2.length by unfold pl;rw [List.length_map],show decide (((kst d t).2.length:Int)<6)=decide ((kst d t).2.length<6) from by
  by_cases h:(kst d t).2.length<6
  ·rw [decide_eq_true h,decide_eq_true (by omega)]
  ·rw [decide_eq_false h,decide_eq_false (by omega)]]
 have hl8:H.length≤H8.length:=by
  obtain ⟨b0,vs,v1,_⟩:=r2;have:=uAe v1;omega
 have hl9:=x9.le;generalize hfl:decide ((kst d t).2.length<6)=fl at *;have xz:Ext H9 (H9++[AO.tup [AV.ref ra,AV.bool fl]]++[AO.tup [AV.ref H8.length,AV.ref H9.length]]):=by fail "!ex"
 refine q _ _ t ((x8.ext x9).ext xz) (by simp;omega) ⟨_,_,ra,uAl _ _,xz _ _ e9,?_,(r2.ext (x9.trans xz)).lists⟩ hk;rw [hfl];exact uAh (uAl _ _)
end
section
variable {a:Addr}{ns:List Int}{n:Nat}{L:List (Str×AV)}{H:List AO}{Q:AV→St→Prop}
inductive DuQ(H:List AO)(c1 c5 na:Nat)(rules:List (List Nat×List Nat))(fl:Fl)(σ:St):Prop
 | mk:(fl=Fl.next)→Ext H σ.H→σ.H[H.length]?=some (AO.cell (some (.ref 1)))→σ.H[c1]?=some (AO.cell (some (.ref na)))→(∃ o,σ.H[c5]?=some (AO.cell o))→(uBo σ.H na fun k=>rules.foldl (uH8 k) [])→DuQ H c1 c5 na rules fl σ
inductive DuI(H:List AO)(c1 c2 c3 c4 c5 na:Nat)(rules:List (List Nat×List Nat))(t:Nat)(σ:St):Prop
 | mk:Ext H σ.H→σ.H[H.length]?=some (AO.cell (some (.ref 1)))→σ.H[c1]?=some (AO.cell (some (.ref na)))→(∃ o,σ.H[c2]?=some (AO.cell o))→(∃ o,σ.H[c3]?=some (AO.cell o))→(∃ o,σ.H[c4]?=some (AO.cell o))→(∃ o,σ.H[c5]?=some (AO.cell o))→(uBo σ.H na fun k=>(rules.take t).foldl (uH8 k) [])→DuI H c1 c2 c3 c4 c5 na rules t σ
inductive DuI2(H:List AO)(c1 c2 c3 c4 c5 na oa la:Nat)(r:List Nat×List Nat)(old:Nat→List Nat)(t2:Nat)(σ:St):Prop
 | mk:Ext H σ.H→σ.H[H.length]?=some (AO.cell (some (.ref 1)))→σ.H[c1]?=some (AO.cell (some (.ref na)))→(∃ o,σ.H[c2]?=some (AO.cell o))→(∃ o,σ.H[c3]?=some (AO.cell o))→(∃ o,σ.H[c4]?=some (AO.cell o))→(∃ o,σ.H[c5]?=some (AO.cell o))→σ.H[oa]?=some (.list (pl (uA3 r.2)))→σ.H[la]?=some (.list (pl (uA3 r.1)))→σ.L.lookup (sn "others")=some (.ref oa)→(uBo σ.H na fun j=>if j∈(uA3 r.1).take t2 then addD j (uA3 r.2) (old j) else old j)→DuI2 H c1 c2 c3 c4 c5 na oa la r old t2 σ
theorem uW7{rl:Nat}{rules:List (List Nat×List Nat)}(hn:H[1]?=some (.list nms))(hr:uGc H rl rules)(hp:∀ r∈rules,r.1∈uHa∧r.2∈uHa)(hlen:rules.length<lim)
  (q:∀ H' i t,Ext H H'→H.length≤i→DueAt H' i (fun k=>rules.foldl (uH8 k) []) t→Kend (fun k=>rules.foldl (uH8 k) []) t→Q (.ref i) ⟨L,H'⟩):Ok ((run (PGs a ns) (n+34)).call (fr 282) [.ref 1,.ref rl]) ⟨L,H⟩ Q:=by
 have hc:bindP (uAd "_law_due" false (top 32)) [.ref 1,.ref rl] ⟨L,H⟩=some (.ok [(sn "names",.ref 1),(sn "rules",.ref rl)],⟨L,H⟩):=rfl;refine uG5 (f:=uAd "_law_due" false (top 32)) (H2:=H++[AO.cell (some (.ref 1))]++[AO.cell none]++[AO.cell none]++[AO.cell none]++[AO.cell none]++[AO.cell none]) [(sn "rules",.ref rl)]
  [(sn "names",H.length),(sn "needs",(H++[AO.cell (some (.ref 1))]).length),(sn "first",(H++[AO.cell (some (.ref 1))]++[AO.cell none]).length),(sn "second",(H++[AO.cell (some (.ref 1))]++[AO.cell none]++[AO.cell none]).length),(sn "k",(H++[AO.cell (some (.ref 1))]++[AO.cell none]++[AO.cell none]++[AO.cell none]).length),(sn "told",(H++[AO.cell (some (.ref 1))]++[AO.cell none]++[AO.cell none]++[AO.cell none]++[AO.cell none]).length)] rfl hc rfl rfl rfl ?_
 have l1:(H++[AO.cell (some (.ref 1))]).length=H.length+1:=by simp
 have l2:(H++[AO.cell (some (.ref 1))]++[AO.cell none]).length=H.length+2:=by simp
 have l3:(H++[AO.cell (some (.ref 1))]++[AO.cell none]++[AO.cell none]).length=H.length+3:=by simp
 have l4:(H++[AO.cell (some (.ref 1))]++[AO.cell none]++[AO.cell none]++[AO.cell none]).length=H.length+4:=by simp
 have l5:(H++[AO.cell (some (.ref 1))]++[AO.cell none]++[AO.cell none]++[AO.cell none]++[AO.cell none]).length=H.length+5:=by simp
 have l6:(H++[AO.cell (some (.ref 1))]++[AO.cell none]++[AO.cell none]++[AO.cell none]++[AO.cell none]++[AO.cell none]).length=H.length+6:=by simp
 have e0:(H++[AO.cell (some (.ref 1))]++[AO.cell none]++[AO.cell none]++[AO.cell none]++[AO.cell none]++[AO.cell none])[H.length]?=some (AO.cell (some (.ref 1))):=by fail "!hp"
 have e1:(H++[AO.cell (some (.ref 1))]++[AO.cell none]++[AO.cell none]++[AO.cell none]++[AO.cell none]++[AO.cell none])[(H++[AO.cell (some (.ref 1))]).length]?=some (AO.cell none):=by fail "!hp"
 have e2:(H++[AO.cell (some (.ref 1))]++[AO.cell none]++[AO.cell none]++[AO.cell none]++[AO.cell none]++[AO.cell none])[(H++[AO.cell (some (.ref 1))]++[AO.cell none]).length]?=some (AO.cell none):=by fail "!hp"
 have e3:(H++[AO.cell (some (.ref 1))]++[AO.cell none]++[AO.cell none]++[AO.cell none]++[AO.cell none]++[AO.cell none])[(H++[AO.cell (some (.ref 1))]++[AO.cell none]++[AO.cell none]).length]?=some (AO.cell none):=by fail "!hp"
 have e4:(H++[AO.cell (some (.ref 1))]++[AO.cell none]++[AO.cell none]++[AO.cell none]++[AO.cell none]++[AO.cell none])[(H++[AO.cell (some (.ref 1))]++[AO.cell none]++[AO.cell none]++[AO.cell none]).length]?=some (AO.cell none):=by fail "!hp"
 have e5:(H++[AO.cell (some (.ref 1))]++[AO.cell none]++[AO.cell none]++[AO.cell none]++[AO.cell none]++[AO.cell none])[(H++[AO.cell (some (.ref 1))]++[AO.cell none]++[AO.cell none]++[AO.cell none]++[AO.cell none]).length]?=some (AO.cell none):=by fail "!hp"
 have x0:Ext H (H++[AO.cell (some (.ref 1))]++[AO.cell none]++[AO.cell none]++[AO.cell none]++[AO.cell none]++[AO.cell none]):=by fail "!ex"
 generalize H++[AO.cell (some (.ref 1))]++[AO.cell none]++[AO.cell none]++[AO.cell none]++[AO.cell none]++[AO.cell none]=H1 at *;generalize (H++[AO.cell (some (.ref 1))]++[AO.cell none]++[AO.cell none]++[AO.cell none]++[AO.cell none]).length=c5 at *;generalize (H++[AO.cell (some (.ref 1))]++[AO.cell none]++[AO.cell none]++[AO.cell none]).length=c4 at *;generalize (H++[AO.cell (some (.ref 1))]++[AO.cell none]++[AO.cell none]).length=c3 at *;generalize (H++[AO.cell (some (.ref 1))]++[AO.cell none]).length=c2 at *;generalize (H++[AO.cell (some (.ref 1))]).length=c1 at *;obtain ⟨vs,hv1,hv2,hv3⟩:=hr;have hrl:=uAe hv1;have hlt:1<H.length:=uAe hn;refine uAx ?_
 repeat fail "!sx"
 generalize hna:(H1++[AO.list []]++[AO.list []]++[AO.list []]++[AO.list []]++[AO.list []]++[AO.list []]).length=na;generalize hHe:(H1++[AO.list []]++[AO.list []]++[AO.list []]++[AO.list []]++[AO.list []]++[AO.list []]++[AO.list [AV.ref H1.length,AV.ref (H1++[AO.list []]).length,AV.ref (H1++[AO.list []]++[AO.list []]).length,AV.ref (H1++[AO.list []]++[AO.list []]++[AO.list []]).length,AV.ref (H1++[AO.list []]++[AO.list []]++[AO.list []]++[AO.list []]).length,AV.ref (H1++[AO.list []]++[AO.list []]++[AO.list []]++[AO.list []]++[AO.list []]).length]]).set c1 (AO.cell (some (AV.ref na)))=H2;have hna':na=H.length+12:=by rw [← hna];simp [l6]
 have hrows:uBo H2 na fun _=>[]:=by
  rw [← hHe,← hna];refine ⟨_,uAa (by simp;omega) (uAl _ _),rfl,fun k hk=>?_⟩;rcases c6 k hk with rfl|rfl|rfl|rfl|rfl|rfl<;>exact ⟨_,rfl,by simp,by show _=some (AO.list []);fail "!hp"⟩
 have f0:H2[H.length]?=some (AO.cell (some (.ref 1))):=by rw [← hHe];fail "!hp"
 have f1:H2[c1]?=some (AO.cell (some (.ref na))):=by rw [← hHe];fail "!hp"
 have f2:H2[c2]?=some (AO.cell none):=by rw [← hHe];fail "!hp"
 have f3:H2[c3]?=some (AO.cell none):=by rw [← hHe];fail "!hp"
 have f4:H2[c4]?=some (AO.cell none):=by rw [← hHe];fail "!hp"
 have f5:H2[c5]?=some (AO.cell none):=by rw [← hHe];fail "!hp"
 have x2:Ext H H2:=by rw [← hHe];exact (x0.trans (by fail "!ex")).set (by omega)
 clear hHe hna e0 e1 e2 e3 e4 e5 x0;refine uAc (Q':=DuQ H c1 c5 na rules)
  (uBi (xs:=vs) (I:=DuI H c1 c2 c3 c4 c5 na rules) ?_ ?_ ?_ lim 0 _ (Nat.zero_le _) (by omega) ⟨x2,f0,f1,⟨_,f2⟩,⟨_,f3⟩,⟨_,f4⟩,⟨_,f5⟩,hrows⟩) ?_
 ·rintro p ⟨L',H'⟩ ⟨x,_⟩;exact uBp (x _ _ hv1)
 ·clear f0 f1 f2 f3 f4 f5 x2 hrows;rintro t v ⟨L',H'⟩ hv hz;refine Classical.byContradiction fun hn=>?_;obtain ⟨x,g0,g1,⟨o2,g2⟩,⟨o3,g3⟩,⟨o4,g4⟩,⟨o5,g5⟩,hrows⟩:=hz;refine hn ?_;clear hn;dsimp only at x g0 g1 g2 g3 g4 g5 hrows;have ht:t<rules.length:=by
   rw [← hv2];rcases Nat.lt_or_ge t vs.length with q|q
   ·exact q
   ·rw [List.getElem?_eq_none q] at hv;cases hv
  obtain ⟨r,hrr⟩ : ∃ r,rules[t]?=some r:=⟨_,List.getElem?_eq_getElem ht⟩
  obtain ⟨i,hi1,hi2⟩:=hv3 t r hrr;rw [hi1] at hv;cases hv;obtain ⟨hp1,hp2⟩:=hp r (List.mem_of_getElem? hrr);have hnext:∀ k,(rules.take (t+1)).foldl (uH8 k) []=uH8 k ((rules.take t).foldl (uH8 k) []) r:=fun k=>by
   rw [List.take_add_one,hrr,List.foldl_append];rfl
  repeat fail "!sx"
  have gn:=x _ _ hn;generalize hHe:(H'.set c2 (AO.cell (some (AV.str r.fst)))).set c3 (AO.cell (some (AV.str r.snd)))=H3;have z0:H3[H.length]?=some (AO.cell (some (.ref 1))):=by rw [← hHe];fail "!hp"
  have z1:H3[c1]?=some (AO.cell (some (.ref na))):=by rw [← hHe];fail "!hp"
  have z2:H3[c2]?=some (AO.cell (some (.str r.1 none))):=by rw [← hHe];fail "!hp"
  have z3:H3[c3]?=some (AO.cell (some (.str r.2 none))):=by rw [← hHe];fail "!hp"
  have z4:H3[c4]?=some (AO.cell o4):=by rw [← hHe];fail "!hp"
  have z5:H3[c5]?=some (AO.cell o5):=by rw [← hHe];fail "!hp"
  have zn:H3[1]?=some (.list nms):=by rw [← hHe];fail "!hp"
  have zx:Ext H H3:=by rw [← hHe];exact (x.set (by omega)).set (by omega)
  refine uAu rfl (by decide) rfl rfl ?_
  repeat fail "!sx"
  refine uCu (m:=0) (n:=((6:Nat):Int)) (uAl _ _) (by decide) ?_;refine uAy (xs:=uIi 6) (intB (fit r.2)) id (by decide) rfl ?_ ?_ ?_ ?_
  ·intro p L H6 x6;exact uE8
  ·intro v hv H6 x6;obtain ⟨k,hk,rfl⟩:=uDf hv
   repeat fail "!sx"
   refine uEr rfl ?_
   repeat fail "!sx"
   refine uAt (xs:=nms) (v:=nv k) (by fail "!hp") (uB5 (uI3 hk)) ?_
   repeat fail "!sx"
   refine uK5 hp2 hk ?_;intro H7 x7
   repeat fail "!sx"
   exact ⟨rfl,rfl,x7⟩
  ·intro v hv hc H6 x6
   repeat fail "!sx"
   exact ⟨rfl,rfl,Ext.refl _⟩
  intro H6 x6 e6;rw [uHe,List.map_id] at e6
  repeat fail "!sx"
  have y6:Ext H3 H6:=Ext.trans (by fail "!ex") x6;refine uAu rfl (by decide) rfl rfl ?_
  repeat fail "!sx"
  refine uCu (m:=0) (n:=((6:Nat):Int)) (uAl _ _) (by decide) ?_;refine uAy (xs:=uIi 6) (intB (fit r.1)) id (by decide) rfl ?_ ?_ ?_ ?_
  ·intro p L H7 x7;exact uE8
  ·intro v hv H7 x7;obtain ⟨k,hk,rfl⟩:=uDf hv
   repeat fail "!sx"
   refine uEr rfl ?_
   repeat fail "!sx"
   refine uAt (xs:=nms) (v:=nv k) (by fail "!hp") (uB5 (uI3 hk)) ?_
   repeat fail "!sx"
   refine uK5 hp1 hk ?_;intro H8 x8
   repeat fail "!sx"
   exact ⟨rfl,rfl,x8⟩
  ·intro v hv hc H7 x7
   repeat fail "!sx"
   exact ⟨rfl,rfl,Ext.refl _⟩
  intro H7 x7 e7;rw [uHe,List.map_id] at e7
  repeat fail "!sx"
  have y7:Ext H3 H7:=Ext.trans (y6.trans (by fail "!ex")) x7;have w0:=y7 _ _ z0;have w1:=y7 _ _ z1;have w2:=y7 _ _ z2;have w3:=y7 _ _ z3;have w4:=y7 _ _ z4;have w5:=y7 _ _ z5;have wx:=zx.trans y7;have w6:=x7 _ _ (uAh (X:=[AO.rng 0 6]) e6);have hrows3:uBo H3 na fun k=>(rules.take t).foldl (uH8 k) []:=by rw [← hHe];exact (hrows.setC g2).setC (uAa (by omega) g3)
  have hrows7:=hrows3.ext y7;have hoa1:=hrows3.lt;have hoa2:=uAe e6;have hlen1:(H3++[AO.rng 0 6]).length=H3.length+1:=by simp
  have hlen2:(H6++[AO.rng 0 6]).length=H6.length+1:=by simp
  generalize hoa:(H3++[AO.rng 0 6]).length=oa at *;generalize hla:(H6++[AO.rng 0 6]).length=la at *;clear hrows3 z0 z1 z2 z3 z4 z5 zn zx x6 y6 x7 y7 e6 hHe hrows g0 g1 g2 g3 g4 g5;generalize hold:(fun k=>(rules.take t).foldl (uH8 k) [])=old at *;have holdok:∀ k,uAp (old k):=fun k=>by rw [← hold];exact uE6 k _ _ uAp.nil
  refine uBi (xs:=pl (uA3 r.1)) (I:=DuI2 H c1 c2 c3 c4 c5 na oa la r old) ?_ ?_ ?_ lim 0 _ (Nat.zero_le _) ?_ ⟨wx,w0,w1,⟨_,w2⟩,⟨_,w3⟩,⟨_,w4⟩,⟨_,w5⟩,w6,e7,by fail "!lk",by simpa using hrows7⟩
  ·rintro p ⟨L8,H8⟩ ⟨_,_,_,_,_,_,_,_,h8,_⟩;exact uBp h8
  ·clear w0 w1 w2 w3 w4 w5 w6 wx e7 hrows7;rintro t2 v ⟨L8,H8⟩ hv hz;refine Classical.byContradiction fun hn=>?_;obtain ⟨wx,w0,w1,⟨o2,w2⟩,⟨o3,w3⟩,⟨o4,w4⟩,⟨o5,w5⟩,w6,w7,wl,hrows⟩:=hz;refine hn ?_;clear hn;dsimp only at w0 w1 w2 w3 w4 w5 w6 w7 wl wx hrows;unfold pl at hv;rw [List.getElem?_map] at hv;generalize hk2:(uA3 r.1)[t2]?=zz;induction zz using Option.casesOn with
   | none=>rw [hk2] at hv;cases hv
   | some k=>
   rw [hk2] at hv;cases hv;have hk:k<6:=uD9 (List.mem_of_getElem? hk2);have hnot:k∉(uA3 r.1).take t2:=uFx (uGf _) hk2;fail "!sx";fail "!sx";have h4':(H8.set c4 (AO.cell (some (.int k))))[c4]?=some (AO.cell (some (.int k))):=set_same w4;have h0':(H8.set c4 (AO.cell (some (.int k))))[H.length]?=some (AO.cell (some (.ref 1))):=uAa (by omega) w0;have h1':(H8.set c4 (AO.cell (some (.int k))))[c1]?=some (AO.cell (some (.ref na))):=uAa (by omega) w1;have h2':(H8.set c4 (AO.cell (some (.int k))))[c2]?=some (AO.cell o2):=uAa (by omega) w2;have h3':(H8.set c4 (AO.cell (some (.int k))))[c3]?=some (AO.cell o3):=uAa (by omega) w3;have h5':(H8.set c4 (AO.cell (some (.int k))))[c5]?=some (AO.cell o5):=uAa (by omega) w5;have h6':(H8.set c4 (AO.cell (some (.int k))))[oa]?=some (.list (pl (uA3 r.2))):=uAa (by omega) w6;have h7':(H8.set c4 (AO.cell (some (.int k))))[la]?=some (.list (pl (uA3 r.1))):=uAa (by omega) w7;have hx':Ext H (H8.set c4 (AO.cell (some (.int k)))):=wx.set (by omega);have hr':=hrows.setC (v:=some (.int k)) w4;generalize H8.set c4 (AO.cell (some (.int k)))=H9 at *;clear w0 w1 w2 w3 w4 w5 w6 w7 wx hrows;have hrr':=hr';obtain ⟨us,u1,u2,u3⟩:=hr';obtain ⟨j,j1,j2,j3⟩:=u3 k hk
   try dsimp only at j3
   rw [if_neg hnot] at j3
   repeat fail "!sx"
   refine uAt u1 (uB5 j1) ?_
   repeat fail "!sx"
   refine uAu rfl (by decide) rfl rfl ?_
   repeat fail "!sx"
   refine uAy (xs:=pl (uA3 r.2)) (intB fun i=>!decide (i=k) && !(old k).contains i) id ?_ rfl ?_ ?_ ?_ ?_
   ·unfold pl;rw [List.length_map];exact Nat.lt_of_le_of_lt (List.length_filter_le _ _) (by decide)
   ·intro p L H10 x10;exact uBp (x10 _ _ h6')
   ·intro v hv H10 x10;refine Classical.byContradiction fun hn=>?_;obtain ⟨i,hi,rfl⟩:=uEi hv;refine hn ?_;clear hn
    repeat fail "!sx"
    by_cases hik:i=k
    ·refine ⟨fun q=>by (simp [hik] at q),fun _=>?_⟩;refine ⟨?_,rfl,Ext.refl _⟩;show false=(!decide (i=k)&&_)
     rw [decide_eq_true hik];rfl
    ·refine ⟨fun _=>?_,fun q=>by (simp at q;omega)⟩
     repeat fail "!sx"
     refine uAt (x10 _ _ u1) (uB5 j1) ?_
     repeat fail "!sx"
     refine uFd (x10 _ _ j3) (uEz _ _) ?_;refine ⟨?_,rfl,Ext.refl _⟩;show _=(!decide (i=k)&&_)
     rw [decide_eq_false hik];rfl
   ·intro v hv hc H10 x10
    repeat fail "!sx"
    exact ⟨rfl,rfl,Ext.refl _⟩
   intro H10 x10 e10;rw [uC5,List.map_id] at e10;have hadd:old k++(uA3 r.2).filter (fun i=>!decide (i=k) && !(old k).contains i)=addD k (uA3 r.2) (old k):=rfl
   repeat fail "!sx"
   refine uJc (x10 _ _ j3) e10 ?_ ?_
   ·unfold pl;rw [← List.map_append,List.length_map,hadd];exact Nat.le_trans (uJk (holdok k) (uHh _)).len (by decide)
   have e11:(H10++[AO.list (pl (old k)++pl ((uA3 r.2).filter (fun i=>!decide (i=k) && !(old k).contains i)))])[H10.length]?=some (.list (pl (addD k (uA3 r.2) (old k)))):=by
    rw [← hadd];unfold pl;rw [List.map_append];exact uAl _ _
   have x11:Ext H9 (H10++[AO.list (pl (old k)++pl ((uA3 r.2).filter (fun i=>!decide (i=k) && !(old k).contains i)))]):=x10.trans (Ext.app _ _);generalize H10++[AO.list (pl (old k)++pl ((uA3 r.2).filter (fun i=>!decide (i=k) && !(old k).contains i)))]=H11 at *;have hj11:H10.length≠na:=by have:=uAe (x10 _ _ u1);omega
   obtain ⟨us',v1,v2,v3⟩:=(hrr'.ext x11).set hk e11 hj11
   repeat fail "!sx"
   refine uMv v1 ⟨by omega,by rw [v2];exact hk⟩ ?_;rw [show ((k:Nat):Int).toNat=k from rfl]
   repeat fail "!sx"
   have hlw:=uAe h1';refine ⟨(hx'.trans x11).set (by omega),uAa (by omega) (x11 _ _ h0'),uAa (by omega) (x11 _ _ h1'),⟨_,uAa (by omega) (x11 _ _ h2')⟩,⟨_,uAa (by omega) (x11 _ _ h3')⟩,⟨_,uAa (by omega) (x11 _ _ h4')⟩,⟨_,uAa (by omega) (x11 _ _ h5')⟩,uAa (by omega) (x11 _ _ h6'),uAa (by omega) (x11 _ _ h7'),by fail "!lk",v3.congr fun i hi=>?_⟩;rw [List.take_add_one,hk2];by_cases hik:i=k
   ·subst hik;simp
   ·simp [hik]
  ·rintro ⟨L8,H8⟩ hz;refine Classical.byContradiction fun hn=>?_;obtain ⟨wx,w0,w1,⟨o2,w2⟩,⟨o3,w3⟩,⟨o4,w4⟩,⟨o5,w5⟩,w6,w7,wl,hrows⟩:=hz;refine hn ?_;clear hn;dsimp only at w0 w1 w2 w3 w4 w5 w6 w7 wl wx hrows
   repeat fail "!sx"
   refine ⟨wx,w0,w1,⟨_,w2⟩,⟨_,w3⟩,⟨_,w4⟩,⟨_,w5⟩,hrows.congr fun j hj=>?_⟩;rw [hnext,show (rules.take t).foldl (uH8 j) []=old j by rw [← hold]];unfold pl;rw [List.length_map,List.take_length];unfold uH8;by_cases hf:fit r.1 j=true
   ·rw [if_pos hf,if_pos (show j∈uA3 r.1 from List.mem_filter.mpr ⟨List.mem_range.mpr hj,hf⟩)]
   ·rw [if_neg hf,if_neg (show ¬ j∈uA3 r.1 from fun h=>hf (List.mem_filter.mp h).2)]
  ·unfold pl;rw [List.length_map,Nat.zero_add];exact Nat.lt_of_le_of_lt (List.length_filter_le _ _) (by decide)
 ·rintro ⟨L',H'⟩ hz;refine Classical.byContradiction fun hn=>?_;obtain ⟨x,g0,g1,⟨o2,g2⟩,⟨o3,g3⟩,⟨o4,g4⟩,⟨o5,g5⟩,hrows⟩:=hz;refine hn ?_;clear hn;dsimp only at x g0 g1 g2 g3 g4 g5 hrows
  repeat fail "!sx"
  rw [hv2,List.take_length] at hrows;exact ⟨rfl,x,g0,g1,⟨_,g5⟩,hrows⟩
 clear f0 f1 f2 f3 f4 f5 x2 hrows;rintro fl ⟨L',H'⟩ ⟨rfl,x,g0,g1,⟨o5,g5⟩,hrows⟩;dsimp only at x g0 g1 g5 hrows;exact uPu (b:=0) (fun k=>uE6 k _ _ uAp.nil) (x _ _ hn) g0 g1 g5 hrows (by omega) (by omega) fun H9 i t x9 hi hdu hk=>q H9 i t (x9.out x (by omega)) (Nat.le_trans x.le hi) hdu hk
end
section
variable {P:uBb}{n:Nat}{F:FE}{σ:St}{Q:AV→St→Prop}{L:List (Str×AV)}{H:List AO}
theorem uSs{a:Addr}{f:Fn}{args:List AV}{bs:List (Str×AV)}{body:List Stmt}{H2:List AO}(L':List (Str×AV))(h:P.fn.lookup a=some f)(b:bindP f args ⟨L,H⟩=some (.ok bs,⟨L,H2⟩))(c:uA7 bs f.scope.names=M.pure [])(l:uCd f.scope bs=L')(hb:f.body=body)
  (q:Ok (exB P (run P n) { scope:=f.scope,cells:=[] } body) ⟨L',H2⟩ (retQ Q L)):Ok ((run P (n+2)).call (.st (.ref a)) args) ⟨L,H⟩ Q:=by
 subst hb;show Ok (match P.fn.lookup a with | some fn=>uBr (run P (n+1)) fn args | none=>uA1 P (run P (n+1)) a args) _ _;rw [h];refine uAb (uDi b (uAb ?_));rw [c];exact uAf (uOu (by rw [l];exact q))
theorem uY5{a init:Addr}{f:Fn}{args:List AV}(h0:P.fn.lookup a=none)(h:P.cls.lookup a=some (.plain init))(hf:P.fn.lookup init=some f)
  (q:Ok ((run P (n+1)).call (.st (.ref init)) (.ref (H.length+1)::args)) ⟨L,H++[.idict []]++[.inst a H.length]⟩ fun v σ=>v=.none∧Q (.ref (H.length+1)) σ):Ok ((run P (n+1)).call (.st (.ref a)) args) ⟨L,H⟩ Q:=by
 show Ok (match P.fn.lookup a with | some fn=>uBr (run P n) fn args | none=>uA1 P (run P n) a args) _ _;rw [h0];show Ok (uA1 P (run P n) a args) _ _;unfold uA1;rw [h];refine uAb ⟨_,_,rfl,uAb ⟨_,_,rfl,?_⟩⟩;dsimp only;rw [hf];have e:(H++[AO.idict []]).length=H.length+1:=by simp
 rw [e];have q':Ok (uBr (run P n) f (.ref (H.length+1)::args)) ⟨L,H++[.idict []]++[.inst a H.length]⟩ fun v σ=>v=.none∧Q (.ref (H.length+1)) σ:=by
  have q2:Ok (match P.fn.lookup init with | some fn=>uBr (run P n) fn (.ref (H.length+1)::args) | none=>uA1 P (run P n) init (.ref (H.length+1)::args)) ⟨L,H++[.idict []]++[.inst a H.length]⟩ fun v σ=>v=.none∧Q (.ref (H.length+1)) σ:=q;rw [hf] at q2;exact q2
 exact uAb (uAc (uDm q') fun v σ q=>by obtain ⟨rfl,q⟩:=q;exact uA9 rfl (uAf q))
theorem uWn{a init:Addr}{f:Fn}{names:List Str}{args:List AV}(h0:P.fn.lookup a=none)(h:P.cls.lookup a=some (.slots names init))(hf:P.fn.lookup init=some f)
  (q:Ok ((run P (n+1)).call (.st (.ref init)) (.ref (H.length+1)::args)) ⟨L,H++[.idict []]++[.slots a H.length (names.map fun _=>none)]⟩ fun v σ=>v=.none∧Q (.ref (H.length+1)) σ):Ok ((run P (n+1)).call (.st (.ref a)) args) ⟨L,H⟩ Q:=by
 show Ok (match P.fn.lookup a with | some fn=>uBr (run P n) fn args | none=>uA1 P (run P n) a args) _ _;rw [h0];show Ok (uA1 P (run P n) a args) _ _;unfold uA1;rw [h];refine uAb ⟨_,_,rfl,uAb ⟨_,_,rfl,?_⟩⟩;dsimp only;rw [hf];have e:(H++[AO.idict []]).length=H.length+1:=by simp
 rw [e];have q':Ok (uBr (run P n) f (.ref (H.length+1)::args)) ⟨L,H++[.idict []]++[.slots a H.length (names.map fun _=>none)]⟩ fun v σ=>v=.none∧Q (.ref (H.length+1)) σ:=by
  have q2:Ok (match P.fn.lookup init with | some fn=>uBr (run P n) fn (.ref (H.length+1)::args) | none=>uA1 P (run P n) init (.ref (H.length+1)::args)) ⟨L,H++[.idict []]++[.slots a H.length (names.map fun _=>none)]⟩ fun v σ=>v=.none∧Q (.ref (H.length+1)) σ:=q;rw [hf] at q2;exact q2
 exact uAb (uAc (uDm q') fun v σ q=>by obtain ⟨rfl,q⟩:=q;exact uA9 rfl (uAf q))
end
theorem get_new'{H:List AO}{o:AO}{i:Nat}(h:H.length=i):(H++[o])[i]?=some o:=by rw [← h];exact uAl _ _
noncomputable def hot:AO→Bool
 | .dict ..=>true
 | .slots ..=>true
 | .idict ..=>true
 | .list ..=>true
 | _=>false
noncomputable abbrev tsD(nd:Nat)(rn:AV)(po nf:Int):AO:=.idict [(sn "_node2info",.ref nd),(sn "_ready_nodes",rn),(sn "_npassedout",.int po),(sn "_nfinished",.int nf)]
noncomputable abbrev niO(e k:Nat)(np:Int)(la:Nat):AO:=.slots 95 e [some (nv k),some (.int np),some (.ref la)]
section
variable {a:Addr}{ns:List Int}{n:Nat}{L:List (Str×AV)}{H:List AO}{Q:AV→St→Prop}
theorem uNv(q:∀ H',Ext H H'→H'[H.length]?=some (tsD (H.length+2) .none 0 0)→H'[H.length+1]?=some (.inst 192 H.length)→H'[H.length+2]?=some (.dict [] true)→H'.length=H.length+3→Q (.ref (H.length+1)) ⟨L,H'⟩) :
  Ok ((run (PGs a ns) (n+12)).call (fr 192) []) ⟨L,H⟩ Q:=by
 refine uY5 (init:=128) (f:=uAd "TopologicalSorter.__init__" true ((uBy (top 16)).getD 0 default)) rfl rfl rfl ?_;have e0:(H++[AO.idict []]++[AO.inst 192 H.length])[H.length]?=some (.idict []):=by fail "!hp"
 have e1:(H++[AO.idict []]++[AO.inst 192 H.length])[H.length+1]?=some (.inst 192 H.length):=by
  have:(H++[AO.idict []]).length=H.length+1:=by simp
  rw [← this];exact uAl _ _
 have x1:Ext H (H++[AO.idict []]++[AO.inst 192 H.length]):=by fail "!ex"
 have l1:(H++[AO.idict []]++[AO.inst 192 H.length]).length=H.length+2:=by simp
 generalize H++[AO.idict []]++[AO.inst 192 H.length]=H1 at *;refine uCz (f:=uAd "TopologicalSorter.__init__" true ((uBy (top 16)).getD 0 default)) [(sn "self",.ref (H.length+1)),(sn "graph",.none)] rfl rfl rfl rfl rfl ?_;refine uAx ?_
 repeat fail "!si"
 refine uCm (v:=.none) (w:=.none) (b:=true) rfl ?_;refine ⟨fun q=>by (cases q),fun _=>?_⟩
 repeat fail "!si"
 rw [l1];refine ⟨rfl,q _ ?_ ?_ ?_ ?_ ?_⟩
 ·exact ((((x1.trans (Ext.app _ _)).set (Nat.le_refl _)).set (Nat.le_refl _)).set (Nat.le_refl _)).set (Nat.le_refl _)
 ·exact set_same (set_same (set_same (set_same (uAh e0))))
 ·fail "!hp"
 ·rw [← l1];fail "!hp"
 ·simp [l1]
theorem uI8{k:Nat}(q:∀ H',Ext H H'→H'[H.length]?=some (.idict [])→H'[H.length+1]?=some (niO H.length k 0 (H.length+2))→H'[H.length+2]?=some (.list (nvs []))→Q (.ref (H.length+1)) ⟨L,H'⟩) :
  Ok ((run (PGs a ns) (n+12)).call (fr 95) [nv k]) ⟨L,H⟩ Q:=by
 refine uWn (init:=91) (f:=uAd "_NodeInfo.__init__" false ((uBy (top 14)).getD 1 default)) (names:=[S "node",S "npredecessors",S "successors"]) rfl rfl rfl ?_;have e0:(H++[AO.idict []]++[AO.slots 95 H.length ([S "node",S "npredecessors",S "successors"].map fun _=>none)])[H.length]?=some (.idict []):=by fail "!hp"
 have e1:(H++[AO.idict []]++[AO.slots 95 H.length ([S "node",S "npredecessors",S "successors"].map fun _=>none)])[H.length+1]?=some (.slots 95 H.length [none,none,none]):=by
  have:(H++[AO.idict []]).length=H.length+1:=by simp
  rw [← this];exact uAl _ _
 have x1:Ext H (H++[AO.idict []]++[AO.slots 95 H.length ([S "node",S "npredecessors",S "successors"].map fun _=>none)]):=by fail "!ex"
 have l1:(H++[AO.idict []]++[AO.slots 95 H.length ([S "node",S "npredecessors",S "successors"].map fun _=>none)]).length=H.length+2:=by simp
 generalize H++[AO.idict []]++[AO.slots 95 H.length ([S "node",S "npredecessors",S "successors"].map fun _=>none)]=H1 at *;refine uCz (f:=uAd "_NodeInfo.__init__" false ((uBy (top 14)).getD 1 default)) [(sn "self",.ref (H.length+1)),(sn "node",nv k)] rfl rfl rfl rfl rfl ?_;refine uAx ?_
 repeat fail "!si"
 refine ⟨rfl,q _ ?_ ?_ ?_ ?_⟩
 ·exact (((x1.set (by omega)).set (by omega)).trans (Ext.app _ _)).set (by omega)
 ·fail "!hp"
 ·simp only [List.length_set,l1];exact set_same (uAh (set_same (set_same e1)))
 ·refine uAa (by omega) (get_new' (by simp only [List.length_set,l1]))
end
inductive InfR(H:List AO)(i k l:Nat)(p:Int):Prop
 | mk (e:Nat) (es:List (Str×AV)):H[i]?=some (niO e k p l)→H[e]?=some (.idict es)→InfR H i k l p
structure SAt(H:List AO)(b nd:Nat)(ord:List Nat)(np:Nat→Int)(sc:Nat→List Nat)(ia la:Nat→Nat):Prop where
 dict:H[nd]?=some (.dict (ord.map fun k=>(nm k,AV.ref (ia k))) true)
 ok:uAp ord
 info:∀ k∈ord,InfR H (ia k) k (la k) (np k)
 succ:∀ k∈ord,H[la k]?=some (.list (nvs (sc k)))
 inj:∀ j∈ord,∀ k∈ord,la j=la k→j=k
 low:nd<b∧∀ k∈ord,b≤ia k∧b≤la k
theorem uC2{f:Nat→AV}{k:Nat}(hk:k<6):∀ {ord:List Nat},(∀ j∈ord,j<6)→(ord.map fun k=>(nm k,f k)).lookup (nm k)=if k∈ord then some (f k) else none:=by
 intro zz;induction zz with
 | nil=>
  intro _;simp
 | cons j ord ih=>
  intro h;rw [List.map_cons,List.lookup_cons];by_cases e:k=j
  ·subst e;simp
  ·have:(nm k==nm j)=false:=by
    rw [beq_eq_false_iff_ne];exact fun q=>e (uDl k hk j (h j (.head _)) q)
   rw [this,ih fun i hi=>h i (.tail _ hi)];simp [e]
theorem uRq{f:Nat→AV}{k:Nat}{v:AV}(hk:k<6):∀ {ord:List Nat},(∀ j∈ord,j<6)→k∉ord→setD (nm k) v (ord.map fun k=>(nm k,f k))=(ord.map fun k=>(nm k,f k))++[(nm k,v)]:=by
 intro zz;induction zz with
 | nil=>
  intro _ _;exact rfl
 | cons j ord ih=>
  intro h hn;rw [List.map_cons];rw [uF3];have:(nm k==nm j)=false:=by
   rw [beq_eq_false_iff_ne];exact fun q=>hn (by rw [uDl k hk j (h j (.head _)) q];exact .head _)
  rw [this,ih (fun i hi=>h i (.tail _ hi)) fun q=>hn (.tail _ q)];rfl
section
variable {H H':List AO}{b nd:Nat}{ord:List Nat}{np:Nat→Int}{sc:Nat→List Nat}{ia la:Nat→Nat}
theorem SAt.ext(h:SAt H b nd ord np sc ia la)(x:Ext H H'):SAt H' b nd ord np sc ia la:=
 ⟨x _ _ h.dict,h.ok,fun k hk=>by
  obtain ⟨e,es,a,c⟩:=h.info k hk;exact ⟨e,es,x _ _ a,x _ _ c⟩,fun k hk=>x _ _ (h.succ k hk),h.inj,h.low⟩
theorem SAt.iinj(h:SAt H b nd ord np sc ia la){j k:Nat}(hj:j∈ord)(hk:k∈ord)(e:ia j=ia k):j=k:=by
 obtain ⟨_,_,a,_⟩:=h.info j hj;obtain ⟨_,_,c,_⟩:=h.info k hk;rw [e,c] at a;injection a with a;injection a with _ _ a;injection a with a _;injection a with a;injection a with a _;exact (uDl k (h.ok.2 k hk) j (h.ok.2 j hj) a).symm
theorem SAt.congr{np':Nat→Int}{sc':Nat→List Nat}(h:SAt H b nd ord np sc ia la)(e:∀ k∈ord,np k=np' k∧sc k=sc' k):SAt H b nd ord np' sc' ia la:=
 ⟨h.dict,h.ok,fun k hk=>by rw [← (e k hk).1];exact h.info k hk,fun k hk=>by rw [← (e k hk).2];exact h.succ k hk,h.inj,h.low⟩
theorem uKn{H:List AO}{c i:Nat}{o o':AO}(hc:H[c]?=some o)(n:hot o=false)(hi:H[i]?=some o')(p:hot o'=true):c≠i:=fun q=>by
 rw [q,hi] at hc;cases hc;rw [n] at p;cases p
theorem SAt.setO{c:Nat}{o v:AO}(h:SAt H b nd ord np sc ia la)(hc:H[c]?=some o)(n:hot o=false):SAt (H.set c v) b nd ord np sc ia la:=by
 refine ⟨uAa (uKn hc n h.dict rfl) h.dict,h.ok,fun k hk=>?_,fun k hk=>uAa (uKn hc n (h.succ k hk) rfl) (h.succ k hk),h.inj,h.low⟩;obtain ⟨e,es,a,c'⟩:=h.info k hk;exact ⟨e,es,uAa (uKn hc n a rfl) a,uAa (uKn hc n c' rfl) c'⟩
theorem SAt.setNp(h:SAt H b nd ord np sc ia la){k e:Nat}{x y:Int}(hk:k∈ord)(he:H[ia k]?=some (niO e k y (la k))):SAt (H.set (ia k) (niO e k x (la k))) b nd ord (fun j=>if j=k then x else np j) sc ia la:=by
 refine ⟨uAa (fun q=>by rw [q,h.dict] at he;cases he) h.dict,h.ok,fun j hj=>?_,fun j hj=>uAa (fun q=>by rw [q,h.succ j hj] at he;cases he) (h.succ j hj),h.inj,h.low⟩;obtain ⟨e',es,a,c⟩:=h.info j hj;have c':(H.set (ia k) (niO e k x (la k)))[e']?=some (.idict es):=uAa (uAi he c rfl) c;by_cases q:j=k
 ·subst q;rw [a] at he;cases he;exact ⟨_,es,by rw [if_pos rfl];exact set_same a,c'⟩
 ·exact ⟨e',es,by rw [if_neg q];exact uAa (fun p=>q (h.iinj hk hj p).symm) a,c'⟩
theorem SAt.push(h:SAt H b nd ord np sc ia la){k j:Nat}(hk:k∈ord):SAt (H.set (la k) (.list (nvs (sc k)++[nv j]))) b nd ord np (fun i=>if i=k then sc i++[j] else sc i) ia la:=by
 have he:=h.succ k hk;refine ⟨uAa (fun q=>by rw [q,h.dict] at he;cases he) h.dict,h.ok,fun i hi=>?_,fun i hi=>?_,h.inj,h.low⟩
 ·obtain ⟨e',es,a,c⟩:=h.info i hi;exact ⟨e',es,uAa (uAi he a rfl) a,uAa (uAi he c rfl) c⟩
 ·by_cases q:i=k
  ·subst q;rw [if_pos rfl,set_same he];unfold nvs;rw [List.map_append];rfl
  ·rw [if_neg q];exact uAa (fun p=>q (h.inj k hk i hi p).symm) (h.succ i hi)
end
section
variable {a:Addr}{ns:List Int}{n:Nat}{L:List (Str×AV)}{H:List AO}{Q:AV→St→Prop}
variable {si sd nd b k:Nat}{rn:AV}{po nf:Int}{ord:List Nat}{np:Nat→Int}{sc:Nat→List Nat}{ia la:Nat→Nat}
theorem SAt.fresh{H':List AO}(h:SAt H b nd ord np sc ia la)(hk:k<6)(hn:k∉ord)(hb:b≤H.length)(hz:np k=0∧sc k=[])(x:Ext H H')(e0:H'[H.length]?=some (.idict []))(e1:H'[H.length+1]?=some (niO H.length k 0 (H.length+2)))(e2:H'[H.length+2]?=some (.list (nvs []))) :
  SAt (H'.set nd (.dict ((ord.map fun k=>(nm k,AV.ref (ia k)))++[(nm k,.ref (H.length+1))]) true)) b nd (ord++[k]) np sc (fun j=>if j=k then H.length+1 else ia j) (fun j=>if j=k then H.length+2 else la j):=by
 have hd:=x _ _ h.dict;have hmem:∀ j∈ord++[k],j≠k→j∈ord:=fun j hj q=>by
  rcases List.mem_append.mp hj with p|p
  ·exact p
  ·exact absurd (List.mem_singleton.mp p) q
 have hlt:∀ j∈ord,la j<H.length:=fun j hj=>uAe (h.succ j hj);refine ⟨?_,?_,fun j hj=>?_,fun j hj=>?_,fun i hi j hj q=>?_,h.low.1,fun j hj=>?_⟩
 ·rw [set_same hd,List.map_append]
  congr 3
  ·refine List.map_congr_left fun j hj=>?_;rw [if_neg (fun q=>hn (by rw [← q];exact hj))]
  ·simp
 ·refine h.ok.app ⟨by simp,fun j hj=>by rw [List.mem_singleton.mp hj];exact hk⟩ fun j hj q=>hn (by rw [← List.mem_singleton.mp q];exact hj)
 ·by_cases q:j=k
  ·subst q;rw [if_pos rfl,if_pos rfl,hz.1];exact ⟨_,_,uAa (uAi hd e1 rfl) e1,uAa (uAi hd e0 rfl) e0⟩
  ·rw [if_neg q,if_neg q];obtain ⟨e,es,c1,c2⟩:=h.info j (hmem j hj q);exact ⟨e,es,uAa (uAi hd (x _ _ c1) rfl) (x _ _ c1),uAa (uAi hd (x _ _ c2) rfl) (x _ _ c2)⟩
 ·by_cases q:j=k
  ·subst q;rw [if_pos rfl,hz.2];exact uAa (uAi hd e2 rfl) e2
  ·rw [if_neg q];have c:=x _ _ (h.succ j (hmem j hj q));exact uAa (uAi hd c rfl) c
 ·by_cases p1:i=k
  ·by_cases p2:j=k
   ·rw [p1,p2]
   ·rw [if_pos p1,if_neg p2] at q;have:=hlt j (hmem j hj p2);omega
  ·by_cases p2:j=k
   ·rw [if_neg p1,if_pos p2] at q;have:=hlt i (hmem i hi p1);omega
   ·rw [if_neg p1,if_neg p2] at q;exact h.inj i (hmem i hi p1) j (hmem j hj p2) q
 ·by_cases q:j=k
  ·rw [if_pos q,if_pos q];omega
  ·rw [if_neg q,if_neg q];exact h.low.2 j (hmem j hj q)
theorem uHd(hk:k<6)(h1:H[si]?=some (.inst 192 sd))(h2:H[sd]?=some (tsD nd rn po nf))(hs:SAt H b nd ord np sc ia la)(hb:b≤H.length)(hz:∀ j,j∉ord→np j=0∧sc j=[])
  (q:∀ H' ord' ia' la',SAt H' b nd ord' np sc ia' la'→uCl nd H H'→(∀ j,j∈ord'↔j∈ord∨j=k)→Q (.ref (ia' k)) ⟨L,H'⟩):Ok ((run (PGs a ns) (n+20)).call (fr 135) [.ref si,nv k]) ⟨L,H⟩ Q:=by
 refine uCz (f:=uAd "TopologicalSorter._get_nodeinfo" false ((uBy (top 16)).getD 1 default)) [(sn "self",.ref si),(sn "node",.str (nm k) (some k))] rfl rfl rfl rfl rfl ?_;have hd:=hs.dict;refine uAx ?_
 repeat fail "!si"
 rw [uC2 hk hs.ok.2];by_cases hm:k∈ord
 ·rw [if_pos hm];refine uPd (v:=.ref (ia k)) (w:=.none) (b:=false) rfl ?_;refine ⟨fun q=>by (cases q),fun _=>?_⟩
  repeat fail "!si"
  exact q _ ord ia la hs (uCl.refl _ _) fun j=>⟨.inl,fun p=>by rcases p with p|rfl;exact p;exact hm⟩
 ·rw [if_neg hm];refine uPd (v:=.none) (w:=.none) (b:=true) rfl ?_;refine ⟨fun _=>?_,fun q=>by (cases q)⟩
  repeat fail "!si"
  refine uI8 (a:=a) (ns:=ns) (n:=n+4) ?_;intro H' x e0 e1 e2;have hf:=hs.fresh hk hm hb (hz k hm) x e0 e1 e2;have f1:=x _ _ h1;have f2:=x _ _ h2;have f3:=x _ _ hd
  repeat fail "!si"
  refine uMy f3 ?_ ?_
  ·rw [List.length_map];have:=hs.ok.len;omega
  rw [uRq hk hs.ok.2 hm]
  repeat fail "!si"
  have:=q _ _ _ _ hf (x.x.trans uCl.set) fun j=>by simp
  rw [if_pos rfl] at this;exact this
inductive AdI(H:List AO)(b nd k si:Nat)(ord ps:List Nat)(np:Nat→Int)(sc:Nat→List Nat)(t:Nat)(σ:St):Prop
 | mk:∀ (ord':List Nat) (ia' la':Nat→Nat),SAt σ.H b nd ord' (fun j=>if j=k then np j+ps.length else np j) (fun j=>if j∈ps.take t then sc j++[k] else sc j) ia' la'→((∀ j,j∈ord'↔j∈ord∨j=k∨j∈ps.take t))→(∀ i o,i<b→i≠nd→H[i]?=some o→σ.H[i]?=some o)→σ.H[H.length]?=some (.tup (nvs ps))→σ.L.lookup (sn "self")=some (.ref si)→σ.L.lookup (sn "node")=some (nv k)→AdI H b nd k si ord ps np sc t σ
theorem uXr{ps:List Nat}(hk:k<6)(hp:uAp ps)(h1:H[si]?=some (.inst 192 sd))(h2:H[sd]?=some (tsD nd .none po nf))(hsi:si<b)(hsd:sd<b)(hs:SAt H b nd ord np sc ia la)(hb:b≤H.length)(hz:∀ j,j∉ord→np j=0∧sc j=[])(hsc:∀ j,(sc j).length≤50)
  (q:∀ H' ord' ia' la',SAt H' b nd ord' (fun j=>if j=k then np j+ps.length else np j) (fun j=>if j∈ps then sc j++[k] else sc j) ia' la'→(∀ i o,i<b→i≠nd→H[i]?=some o→H'[i]?=some o)→(∀ j,j∈ord'↔j∈ord∨j=k∨j∈ps)→H.length≤H'.length→Q .none ⟨L,H'⟩) :
  Ok ((run (PGs a ns) (n+30)).call (fr 142) (.ref si::nv k::nvs ps)) ⟨L,H⟩ Q:=by
 have hlz:(nvs ps).length≤6:=by unfold nvs;rw [List.length_map];exact hp.len
 have hbp:bindP (uAd "TopologicalSorter.add" false ((uBy (top 16)).getD 2 default)) (.ref si::nv k::nvs ps) ⟨L,H⟩=some (.ok [(sn "self",.ref si),(sn "node",nv k),(sn "predecessors",.ref H.length)],⟨L,H++[.tup (nvs ps)]⟩):=by
  show (if _ then _ else _)=_;rw [if_pos ⟨rfl,by show 2≤(nvs ps).length+1+1;omega,by show (nvs ps).length+1+1≤lz;exact Nat.le_trans (by omega:_≤8) (by decide)⟩];rfl
 refine uSs (f:=uAd "TopologicalSorter.add" false ((uBy (top 16)).getD 2 default)) [(sn "self",.ref si),(sn "node",nv k),(sn "predecessors",.ref H.length)] rfl hbp rfl rfl rfl ?_;refine uAx ?_
 repeat fail "!si"
 refine uCm (v:=.none) (w:=.none) (b:=true) rfl ?_;refine ⟨fun q=>by (cases q),fun _=>?_⟩;have nsi:si≠nd:=fun q=>by rw [q,hs.dict] at h1;cases h1
 have nsd:sd≠nd:=fun q=>by rw [q,hs.dict] at h2;cases h2
 have hndl:=uAe hs.dict
 repeat fail "!si"
 refine uHd (a:=a) (ns:=ns) (n:=n+7) hk (uAh h1) (uAh h2) (hs.ext (Ext.app H [AO.tup (nvs ps)])) (by simp;omega) hz ?_;intro H1 ord1 ia1 la1 s1 x1 m1;have ht:H1[H.length]?=some (.tup (nvs ps)):=x1 _ _ (by omega) (uAl _ _);have k1:=x1 _ _ nsi (uAh h1);have k2:=x1 _ _ nsd (uAh h2);have hm1:k∈ord1:=(m1 k).mpr (.inr rfl);obtain ⟨e,es,i1,i2⟩:=s1.info k hm1
 repeat fail "!si"
 have hset:H1.set (ia1 k) (AO.slots 95 e ([some (nv k),some (AV.int (np k)),some (AV.ref (la1 k))].set 1 (some (AV.int (np k+(nvs ps).length)))))=H1.set (ia1 k) (niO e k (np k+ps.length) (la1 k)):=by
  rw [show (nvs ps).length=ps.length by unfold nvs;rw [List.length_map]];rfl
 rw [hset];clear hset;have s2:=s1.setNp (x:=np k+ps.length) hm1 i1;have ht2:(H1.set (ia1 k) (niO e k (np k+ps.length) (la1 k)))[H.length]?=some (.tup (nvs ps)):=uAa (uAi i1 ht rfl) ht;have k12:(H1.set (ia1 k) (niO e k (np k+ps.length) (la1 k)))[si]?=some (.inst 192 sd):=uAa (uAi i1 k1 rfl) k1;have k22:(H1.set (ia1 k) (niO e k (np k+ps.length) (la1 k)))[sd]?=some (tsD nd .none po nf):=uAa (uAi i1 k2 rfl) k2;have fr2:∀ i o,i<b→i≠nd→H[i]?=some o→(H1.set (ia1 k) (niO e k (np k+ps.length) (la1 k)))[i]?=some o:=fun i o hi hn h=>uAa (by have:=(s1.low.2 k hm1).1;omega) (x1 _ _ hn (uAh h));have hle:H.length≤(H1.set (ia1 k) (niO e k (np k+ps.length) (la1 k))).length:=by rw [List.length_set];have:=uAe ht;omega
 generalize H1.set (ia1 k) (niO e k (np k+ps.length) (la1 k))=H2 at *;clear i1 i2 k1 k2 ht;refine uBi (xs:=nvs ps) (I:=AdI H b nd k si ord ps np sc) ?_ ?_ ?_ lim 0 _ (Nat.zero_le _) (by rw [Nat.zero_add];exact Nat.lt_of_le_of_lt hlz (by decide)) ?_
 ·rintro p ⟨L',H'⟩ ⟨_,_,_,_,_,_,h,_⟩;exact uLa h
 ·clear s2 ht2 k12 k22 fr2 hle;rintro t v ⟨L',H'⟩ hv ⟨ord',ia',la',s',m',fr',ht',l1,l2⟩;dsimp only at s' fr' ht' l1 l2;unfold nvs at hv;rw [List.getElem?_map] at hv;generalize hpt:ps[t]?=zz;induction zz using Option.casesOn with
  | none=>rw [hpt] at hv;cases hv
  | some p=>
  rw [hpt] at hv;cases hv;have hp6:p<6:=hp.2 p (List.mem_of_getElem? hpt);have hnot:p∉ps.take t:=uFx hp.1 hpt;have htk:ps.take (t+1)=ps.take t++[p]:=by rw [List.take_add_one,hpt];rfl
  have j1:=fr' _ _ hsi nsi h1;have j2:=fr' _ _ hsd nsd h2;have hl':=uAe ht'
  repeat fail "!si"
  refine uHd (a:=a) (ns:=ns) (n:=n+6) hp6 j1 j2 s' (by omega) (fun j hj=>?_) ?_
  ·have hj':=fun q=>hj ((m' j).mpr q);have:=hz j fun q=>hj' (.inl q);rw [if_neg (fun q=>hj' (.inr (.inl q))),if_neg (fun q=>hj' (.inr (.inr q)))];exact this
  intro H3 ord3 ia3 la3 s3 x3 m3;have hm3:p∈ord3:=(m3 p).mpr (.inr rfl);obtain ⟨e3,es3,i1,i2⟩:=s3.info p hm3;have i3:=s3.succ p hm3;rw [if_neg hnot] at i3
  repeat fail "!si"
  refine uAw i3 ?_ ?_
  ·unfold nvs;rw [List.length_map];exact Nat.lt_of_le_of_lt (hsc p) (by decide)
  have s4:=s3.push (j:=k) hm3;rw [if_neg hnot] at s4
  repeat fail "!si"
  refine ⟨ord3,ia3,la3,s4.congr fun j hj=>⟨rfl,?_⟩,fun j=>?_,fun i o hi hn h=>uAa (by have:=(s3.low.2 p hm3).2;omega) (x3 _ _ hn (fr' i o hi hn h)),uAa (fun q=>by have:=x3 _ _ (by omega) ht';rw [q,this] at i3;cases i3) (x3 _ _ (by omega) ht'),by fail "!lk",by fail "!lk"⟩
  ·rw [htk];by_cases q:j=p
   ·subst q;simp [hnot]
   ·simp [q]
  ·rw [htk,m3,m'];simp only [List.mem_append,List.mem_singleton];exact ⟨fun q=>by rcases q with (q|q|q)|q<;>simp [q],fun q=>by rcases q with q|q|q|q<;>simp [q]⟩
 ·rintro ⟨L',H'⟩ ⟨ord',ia',la',s',m',fr',ht',l1,l2⟩;dsimp only at s' fr' ht';rw [show (nvs ps).length=ps.length by unfold nvs;rw [List.length_map],List.take_length] at s' m'
  repeat fail "!si"
  have hl':=uAe ht';exact q _ _ _ _ s' fr' m' (by omega)
 ·refine ⟨ord1,ia1,la1,s2.congr fun j hj=>⟨?_,by rfl⟩,fun j=>by rw [m1];simp,fr2,ht2,by fail "!lk",by fail "!lk"⟩;by_cases q:j=k
  ·rw [if_pos q,if_pos q,q]
  ·rw [if_neg q,if_neg q]
end
structure Fr where
 v:Nat
 p:Nat
 m:Nat
 j:Nat
 g:Option Nat
noncomputable def vsT(tp:List Fr):List Nat:=tp.map (·.v)
noncomputable def stT(tp:List Fr):List AV:=(tp.map fun f=>AV.str (nm f.v) f.g).reverse
noncomputable def itT(tp:List Fr):List AV:=(tp.map fun f=>AV.ref f.m).reverse
noncomputable def esT:List Fr→List (List Nat×AV)
 | []=>[]
 | f::tp=>esT tp++[(nm f.v,.int tp.length)]
theorem uFv(f:Fr)(tp:List Fr):esT (f::tp)=esT tp++[(nm f.v,.int tp.length)]:=rfl
theorem uFt(f:Fr)(tp:List Fr):stT (f::tp)=stT tp++[.str (nm f.v) f.g]:=by unfold stT;simp
theorem uEp(f:Fr)(tp:List Fr):itT (f::tp)=itT tp++[.ref f.m]:=by unfold itT;simp
theorem uJr(tp:List Fr):(stT tp).length=tp.length:=by unfold stT;simp
theorem uUw(tp:List Fr):(itT tp).length=tp.length:=by unfold itT;simp
theorem uO6:∀ tp:List Fr,(esT tp).length=tp.length:=by
 intro zz;induction zz with
 | nil=>
  exact rfl
 | cons f tp ih=>
  rw [uFv,List.length_append,ih];rfl
theorem uC1{x:List Nat}{ys:List (List Nat×AV)}:∀ {xs:List (List Nat×AV)},(xs++ys).lookup x=(xs.lookup x).or (ys.lookup x):=by
 intro zz;induction zz with
 | nil=>
  simp
 | cons zq xs ih=>
  obtain ⟨k,v⟩:=zq;rw [List.cons_append,List.lookup_cons,List.lookup_cons];cases x==k
  ·exact ih
  ·rfl
theorem uQ8{w:Nat}(hw:w<6):∀ {tp:List Fr},(∀ x∈vsT tp,x<6)→w∉vsT tp→(esT tp).lookup (nm w)=none:=by
 intro zz;induction zz with
 | nil=>
  intro _ _;exact rfl
 | cons f tp ih=>
  intro h hn;rw [uFv];rw [uC1,ih (fun x hx=>h x (.tail _ hx)) fun q=>hn (.tail _ q)];have:(nm w==nm f.v)=false:=by
   rw [beq_eq_false_iff_ne];exact fun q=>hn (by rw [uDl w hw f.v (h f.v (.head _)) q];exact .head _)
  simp [List.lookup_cons,this]
theorem uKy{w:Nat}{tp:List Fr}(h:w∈vsT tp) : ∃ i:Nat,i≤tp.length∧(esT tp).lookup (nm w)=some (.int i):=by
 induction tp with
 | nil=>exact absurd h List.not_mem_nil
 | cons f tp ih=>
  rw [uFv];rw [uC1];by_cases q:w∈vsT tp
  ·obtain ⟨i,hi,e⟩:=ih q;exact ⟨i,by simp;omega,by rw [e];rfl⟩
  ·have e:w=f.v:=by
    rcases List.mem_cons.mp h with e|e
    ·exact e
    ·exact absurd e q
   generalize l:(esT tp).lookup (nm w)=zz;induction zz using Option.casesOn with
   | none=>exact ⟨tp.length,by simp,by simp [e,List.lookup_cons]⟩
   | some y=>
    have:∀ {tp:List Fr} {x:List Nat} {y:AV},(esT tp).lookup x=some y→∃ i:Nat,i≤tp.length∧y=.int i:=by
     intro tp;induction tp with
     | nil=>intro x y h;cases h
     | cons f tp ih=>
      intro x y h;rw [uFv] at h;rw [uC1] at h;generalize l:(esT tp).lookup x=zz;induction zz using Option.casesOn with
      | none=>
       rw [l] at h;simp only [Option.none_or,List.lookup_cons] at h
       split at h
       ·cases h;exact ⟨tp.length,by simp,rfl⟩
       ·cases h
      | some z=>
       rw [l] at h;cases h;obtain ⟨i,hi,e⟩:=ih l;exact ⟨i,by simp;omega,e⟩
    obtain ⟨i,hi,e⟩:=this l;exact ⟨i,by simp;omega,by rw [e];rfl⟩
theorem uG7{w:Nat}(hw:w<6){tp:List Fr}(h:∀ x∈vsT tp,x<6):((esT tp).lookup (nm w)).isSome=decide (w∈vsT tp):=by
 by_cases q:w∈vsT tp
 ·obtain ⟨i,_,e⟩:=uKy q;rw [e,decide_eq_true q];rfl
 ·rw [uQ8 hw h q,decide_eq_false q];rfl
theorem uKo{tp:List Fr}{e:List Nat×AV}(h:e∈esT tp) : ∃ x∈vsT tp,e.1=nm x:=by
 induction tp with
 | nil=>exact absurd h List.not_mem_nil
 | cons f tp ih=>
  rcases List.mem_append.mp h with h|h
  ·obtain ⟨x,hx,q⟩:=ih h;exact ⟨x,.tail _ hx,q⟩
  ·exact ⟨f.v,.head _,congrArg Prod.fst (List.mem_singleton.mp h)⟩
theorem uVy{f:Fr}{tp:List Fr}(h:∀ x∈vsT (f::tp),x<6)(hn:f.v∉vsT tp):(esT (f::tp)).filter (fun e=>!(e.1==nm f.v))=esT tp:=by
 show (esT tp++[(nm f.v,AV.int tp.length)]).filter _=_;rw [List.filter_append];have h1:(esT tp).filter (fun e=>!(e.1==nm f.v))=esT tp:=by
  rw [List.filter_eq_self];intro e he;obtain ⟨x,hx,q⟩:=uKo he;have:(e.1==nm f.v)=false:=by
   rw [beq_eq_false_iff_ne,q];exact fun p=>hn (by rw [← uDl x (h x (.tail _ hx)) f.v (h f.v (.head _)) p];exact hx)
  rw [this];rfl
 rw [h1];simp
theorem uQw{w:Nat}{y:AV}(hw:w<6){tp:List Fr}(h:∀ x∈vsT tp,x<6)(hn:w∉vsT tp):setD (nm w) y (esT tp)=esT tp++[(nm w,y)]:=by
 have:∀ es:List (List Nat×AV),(∀ e∈es,e.1≠nm w)→setD (nm w) y es=es++[(nm w,y)]:=by
  intro es;induction es with
  | nil=>intro _;rfl
  | cons e es ih=>
   intro q;obtain ⟨k,u⟩:=e;rw [uF3];have hk:(nm w==k)=false:=by
    rw [beq_eq_false_iff_ne];exact fun p=>q (k,u) (.head _) p.symm
   rw [hk,ih fun e he=>q e (.tail _ he)];rfl
 refine this _ fun e he q=>?_;obtain ⟨x,hx,p⟩:=uKo he;rw [p] at q;exact hn (by rw [← uDl x (h x hx) w hw q];exact hx)
theorem uD6{w:Nat}(hw:w<6){s:List Nat}(h:∀ x∈s,x<6):(s.map nm).contains (nm w)=decide (w∈s):=by
 rw [Bool.eq_iff_iff];simp only [List.contains_iff_mem,List.mem_map,decide_eq_true_eq];exact ⟨fun q=>by obtain ⟨x,hx,e⟩:=q;rw [← uDl x (h x hx) w hw e];exact hx,fun q=>⟨w,q,rfl⟩⟩
noncomputable def uCi(H:List AO)(la:Nat→Nat)(base:Nat):List Fr→Prop
 | []=>True
 | f::tp=>H[f.m]?=some (.meth "list_iterator.__next__" f.j)∧H[f.j]?=some (.liter (la f.v) (some f.p))∧(∀ g∈tp,g.j<f.j)∧base≤f.j∧uCi H la base tp
section
variable {H H':List AO}{la:Nat→Nat}{base:Nat}
theorem uCi.ext(x:Ext H H'){tp:List Fr}(q:uCi H la base tp):uCi H' la base tp:=by
 induction tp with
 | nil=>exact trivial
 | cons f tp ih=>exact ⟨x _ _ q.1,x _ _ q.2.1,q.2.2.1,q.2.2.2.1,ih q.2.2.2.2⟩
noncomputable def itHot:AO→Bool
 | .meth ..=>true
 | .liter ..=>true
 | _=>false
theorem uCi.setO{c:Nat}{o v:AO}(hc:H[c]?=some o)(n:itHot o=false){tp:List Fr}(q:uCi H la base tp):uCi (H.set c v) la base tp:=by
 induction tp with
 | nil=>exact trivial
 | cons f tp ih=>exact ⟨uAa (fun z=>nf (n.symm.trans (congrArg itHot (Option.some.inj (hc.symm.trans ((congrArg (H[·]?) z).trans q.1)))))) q.1,uAa (fun z=>nf (n.symm.trans (congrArg itHot (Option.some.inj (hc.symm.trans ((congrArg (H[·]?) z).trans q.2.1)))))) q.2.1,q.2.2.1,q.2.2.2.1,ih q.2.2.2.2⟩
theorem uCi.low{i:Nat}{tp:List Fr}(q:uCi H la base tp){l:Nat}{o:Option Nat}{o':AO}(h:H[i]?=some (.liter l o))(hl:∀ g∈tp,g.j<i):uCi (H.set i o') la base tp:=by
 induction tp with
 | nil=>exact trivial
 | cons f tp ih=>exact ⟨uAa (uAi h q.1 rfl) q.1,uAa (Nat.ne_of_gt (hl f (.head _))) q.2.1,q.2.2.1,q.2.2.2.1,ih q.2.2.2.2 fun x hx=>hl x (.tail _ hx)⟩
theorem uCi.next{f:Fr}{tp:List Fr}(h:uCi H la base (f::tp)):uCi (H.set f.j (.liter (la f.v) (some (f.p+1)))) la base ({ f with p:=f.p+1 }::tp):=by
 obtain ⟨a,b,d,e,g⟩:=h;exact ⟨uAa (uAi b a rfl) a,set_same b,d,e,g.low b d⟩
theorem uCi.pop{f:Fr}{tp:List Fr}{o:AO}(h:uCi H la base (f::tp)):uCi (H.set f.j o) la base tp:=by
 obtain ⟨a,b,d,e,g⟩:=h;exact g.low b d
end
theorem uCi.lt{H:List AO}{la:Nat→Nat}{base:Nat}{tp:List Fr}(q:uCi H la base tp):∀ f∈tp,f.j<H.length:=by
 induction tp with
 | nil=>exact fun _ h=>absurd h List.not_mem_nil
 | cons f tp ih=>
  intro x hx;rcases List.mem_cons.mp hx with rfl|hx
  ·exact uAe q.2.1
  ·exact ih q.2.2.2.2 x hx
section
variable {sc:Nat→List Nat}
noncomputable def FinS(sc:Nat→List Nat):List Nat→Prop
 | []=>True
 | v::F=>(∀ k∈sc v,k∈F)∧v∉F∧FinS sc F
noncomputable def Path(sc:Nat→List Nat)(F:List Nat):Option Nat→List Fr→Prop
 | _,[]=>True
 | none,f::tp=>(∀ k∈(sc f.v).take f.p,k∈F)∧Path sc F (some f.v) tp
 | some w,f::tp=>(∃ q,f.p=q+1∧(sc f.v)[q]?=some w∧∀ k∈(sc f.v).take q,k∈F)∧Path sc F (some f.v) tp
theorem Path.mono{F F':List Nat}(h:∀ x∈F,x∈F'){tp:List Fr}{c:Option Nat}(p:Path sc F c tp):Path sc F' c tp:=by
 induction tp generalizing c with
 | nil=>induction c using Option.casesOn<;>exact trivial
 | cons f tp ih=>
  induction c using Option.casesOn with
  | none=>exact ⟨fun k hk=>h k (p.1 k hk),ih p.2⟩
  | some w=>
   obtain ⟨q,a,a',a''⟩:=p.1;exact ⟨⟨q,a,a',fun k hk=>h k (a'' k hk)⟩,ih p.2⟩
theorem Path.done{F:List Nat}{w:Nat}{tp:List Fr}(p:Path sc F (some w) tp)(hw:w∈F):Path sc F none tp:=by
 induction tp using List.casesOn with
 | nil=>exact trivial
 | cons f tp=>
  obtain ⟨q,a,a',a''⟩:=p.1;refine ⟨fun k hk=>?_,p.2⟩;rw [a,List.take_add_one,a'] at hk;rcases List.mem_append.mp hk with hk|hk
  ·exact a'' k hk
  ·exact List.mem_singleton.mp hk▸hw
noncomputable def RingS(sc:Nat→List Nat)(C:List Nat):Prop:=C≠[]∧∀ v∈C,∃ u∈C,v∈sc u
theorem uTi{F:List Nat}{t:Nat}{tp:List Fr}{c:Nat}(p:Path sc F (some c) tp)(ht:t∈vsT tp) : ∃ C:List Nat,t∈C∧(∃ u∈C,c∈sc u)∧∀ x∈C,x≠t→∃ u∈C,x∈sc u:=by
 induction tp generalizing c with
 | nil=>exact absurd ht List.not_mem_nil
 | cons f tp ih=>
  obtain ⟨q,a,a',a''⟩:=p.1;have hc:c∈sc f.v:=List.mem_of_getElem? a';by_cases e:f.v=t
  ·exact ⟨[t],.head _,⟨t,.head _,e▸hc⟩,fun x hx hn=>absurd (List.mem_singleton.mp hx) hn⟩
  ·obtain ⟨C,h1,⟨u,h2,h3⟩,h4⟩:=ih p.2 ((List.mem_cons.mp ht).resolve_left fun q=>e q.symm);refine ⟨f.v::C,.tail _ h1,⟨f.v,.head _,hc⟩,fun x hx hn=>?_⟩;rcases List.mem_cons.mp hx with rfl|hx
   ·exact ⟨u,.tail _ h2,h3⟩
   ·obtain ⟨y,hy,hy2⟩:=h4 x hx hn;exact ⟨y,.tail _ hy,hy2⟩
theorem uV9{F:List Nat}{w:Nat}{tp:List Fr}(h:Path sc F (some w) tp)(hw:w∈vsT tp) : ∃ C,RingS sc C:=by
 obtain ⟨C,h1,h2,h4⟩:=uTi h hw;refine ⟨C,And.intro (fun q=>by rw [q] at h1;cases h1) fun x hx=>?_⟩;by_cases e:x=w
 ·rw [e];exact h2
 ·exact h4 x hx e
noncomputable def rem(sc:Nat→List Nat)(s:List Nat)(k:Nat):Nat:=if k∈s then 0 else (sc k).length
noncomputable def rems(sc:Nat→List Nat)(s:List Nat):Nat:=rem sc s 0+rem sc s 1+rem sc s 2+rem sc s 3+rem sc s 4+rem sc s 5
noncomputable def mu(sc:Nat→List Nat)(s:List Nat)(tp:List Fr):Nat:=(tp.map fun f=>(sc f.v).length-f.p).sum+rems sc s
theorem uPj{s:List Nat}{w k:Nat}:rem sc (s++[w]) k=if k=w then 0 else rem sc s k:=by
 unfold rem;by_cases e:k=w
 ·simp [e]
 ·simp [e]
theorem uHg(a b c d e x:Nat):0+a+b+c+d+e+x=x+a+b+c+d+e∧a+0+b+c+d+e+x=a+x+b+c+d+e∧a+b+0+c+d+e+x=a+b+x+c+d+e∧a+b+c+0+d+e+x=a+b+c+x+d+e∧a+b+c+d+0+e+x=a+b+c+d+x+e∧a+b+c+d+e+0+x=a+b+c+d+e+x:=by
 simp only [Nat.add_zero,Nat.zero_add,Nat.add_assoc,Nat.add_comm,Nat.add_left_comm,and_self]
theorem uYd{f g:Nat→Nat}{w:Nat}(hw:w<6)(hg:∀ k,g k=if k=w then 0 else f k):g 0+g 1+g 2+g 3+g 4+g 5+f w=f 0+f 1+f 2+f 3+f 4+f 5:=by
 rw [hg 0,hg 1,hg 2,hg 3,hg 4,hg 5];rcases c6 w hw with rfl|rfl|rfl|rfl|rfl|rfl
 ·exact (uHg _ _ _ _ _ _).1
 ·exact (uHg _ _ _ _ _ _).2.1
 ·exact (uHg _ _ _ _ _ _).2.2.1
 ·exact (uHg _ _ _ _ _ _).2.2.2.1
 ·exact (uHg _ _ _ _ _ _).2.2.2.2.1
 ·exact (uHg _ _ _ _ _ _).2.2.2.2.2
theorem uNg{s:List Nat}{w:Nat}(hw:w<6)(hn:w∉s):rems sc (s++[w])+(sc w).length=rems sc s:=by
 have h:rem sc s w=(sc w).length:=if_neg hn;rw [← h];exact uYd hw fun k=>uPj
theorem uUl{s:List Nat}{tp:List Fr}{w m j:Nat}{g:Option Nat}(hw:w<6)(hn:w∉s):mu sc (s++[w]) (⟨w,0,m,j,g⟩::tp)=mu sc s tp:=by
 unfold mu;rw [List.map_cons,List.sum_cons,← uNg hw hn];dsimp only;omega
theorem uS7{s:List Nat}{tp:List Fr}{f:Fr}(h:f.p<(sc f.v).length):mu sc s ({ f with p:=f.p+1 }::tp)<mu sc s (f::tp):=by
 unfold mu;simp only [List.map_cons,List.sum_cons];exact Nat.add_lt_add_right (Nat.add_lt_add_right (Nat.sub_succ_lt_self _ _ h) _) _
theorem uY2{s:List Nat}{tp:List Fr}{f:Fr}:mu sc s tp≤mu sc s (f::tp):=by
 unfold mu;simp only [List.map_cons,List.sum_cons];omega
theorem uYp{s:List Nat}(h:∀ k,(sc k).length≤6):mu sc s []≤36:=by
 have:∀ k,rem sc s k≤6:=fun k=>by unfold rem;split;omega;exact h k
 unfold mu rems;have h0:=this 0;have h1:=this 1;have h2:=this 2;have h3:=this 3;have h4:=this 4;have h5:=this 5;simp;omega
structure Dfs(sc:Nat→List Nat)(F s:List Nat)(c:Option Nat)(tp:List Fr):Prop where
 mem:∀ x,x∈s↔x∈vsT tp∨x∈F
 six:∀ x∈s,x<6
 nd:(vsT tp).Nodup
 dis:∀ x∈F,x∉vsT tp
 fin:FinS sc F
 path:Path sc F c tp
 snd:s.Nodup
theorem Dfs.len{F s:List Nat}{c:Option Nat}{tp:List Fr}(h:Dfs sc F s c tp):tp.length≤6:=by
 have:uAp (vsT tp):=⟨h.nd,fun x hx=>h.six x ((h.mem x).mpr (.inl hx))⟩
 have:=this.len;unfold vsT at this
 rwa [List.length_map] at this
theorem Dfs.slen{F s:List Nat}{c:Option Nat}{tp:List Fr}(h:Dfs sc F s c tp):s.length≤6:=uAp.len ⟨h.snd,h.six⟩
theorem Dfs.push{F s:List Nat}{w m j:Nat}{g:Option Nat}{tp:List Fr}(h:Dfs sc F s (some w) tp)(hw:w<6)(hn:w∉s):Dfs sc F (s++[w]) none (⟨w,0,m,j,g⟩::tp):=by
 have hn1:w∉vsT tp:=fun q=>hn ((h.mem w).mpr (.inl q));have hn2:w∉F:=fun q=>hn ((h.mem w).mpr (.inr q));refine ⟨fun x=>?_,fun x hx=>?_,List.nodup_cons.mpr ⟨hn1,h.nd⟩,fun x hx q=>?_,h.fin,⟨fun k hk=>by simp at hk,h.path⟩,?_⟩
 ·show x∈s++[w]↔x∈w::vsT tp∨x∈F;rw [List.mem_append,List.mem_singleton,List.mem_cons,h.mem x];exact ⟨fun q=>by rcases q with (q|q)|q<;>simp [q],fun q=>by rcases q with (q|q)|q<;>simp [q]⟩
 ·rcases List.mem_append.mp hx with q|q
  ·exact h.six x q
  ·rw [List.mem_singleton.mp q];exact hw
 ·rcases List.mem_cons.mp (show x∈w::vsT tp from q) with q|q
  ·exact hn2 (by rw [← q];exact hx)
  ·exact h.dis x hx q
 ·exact List.nodup_append.mpr ⟨h.snd,by simp,fun a ha b hb q=>hn (by rw [← List.mem_singleton.mp hb,← q];exact ha)⟩
theorem Dfs.next{F s:List Nat}{w:Nat}{f:Fr}{tp:List Fr}(h:Dfs sc F s none (f::tp))(e:(sc f.v)[f.p]?=some w):Dfs sc F s (some w) ({ f with p:=f.p+1 }::tp):=
 ⟨h.mem,h.six,h.nd,h.dis,h.fin,⟨⟨f.p,rfl,e,h.path.1⟩,h.path.2⟩,h.snd⟩
theorem Dfs.pop{F s:List Nat}{f:Fr}{tp:List Fr}(h:Dfs sc F s none (f::tp))(e:(sc f.v)[f.p]?=none):Dfs sc (f.v::F) s none tp:=by
 have hp:(sc f.v).length≤f.p:=by
  rcases Nat.lt_or_ge f.p (sc f.v).length with q|q
  ·rw [List.getElem?_eq_getElem q] at e;cases e
  ·exact q
 have hF:∀ k∈sc f.v,k∈F:=fun k hk=>h.path.1 k (by rw [List.take_of_length_le hp];exact hk);have hnd:=List.nodup_cons.mp h.nd;refine ⟨fun x=>?_,h.six,hnd.2,fun x hx q=>?_,⟨hF,fun q=>h.dis _ q (.head _),h.fin⟩,(h.path.2.mono fun x hx=>.tail _ hx).done (.head _),h.snd⟩
 ·rw [h.mem x];show (x∈f.v::vsT tp∨x∈F)↔x∈vsT tp∨x∈f.v::F;rw [List.mem_cons,List.mem_cons];exact ⟨fun q=>by rcases q with (q|q)|q<;>simp [q],fun q=>by rcases q with q|q|q<;>simp [q]⟩
 ·rcases List.mem_cons.mp hx with rfl|hx
  ·exact hnd.1 q
  ·exact h.dis x hx (.tail _ q)
theorem Dfs.done{F s:List Nat}{w:Nat}{tp:List Fr}(h:Dfs sc F s (some w) tp)(hw:w∈s)(hn:w∉vsT tp):Dfs sc F s none tp:=
 ⟨h.mem,h.six,h.nd,h.dis,h.fin,h.path.done (((h.mem w).mp hw).resolve_left hn),h.snd⟩
theorem Dfs.root{F s:List Nat}{c:Option Nat}{w:Nat}(h:Dfs sc F s c []):Dfs sc F s (some w) []:=⟨h.mem,h.six,h.nd,h.dis,h.fin,trivial,h.snd⟩
end
section
variable {P:uBb}{n:Nat}{F:FE}{σ:St}{Q:AV→St→Prop}{X:Fl→St→Prop}{E:St→Prop}{x:AX}{p:Pos}
theorem uM1{body hb:List Stmt}{h0:Stmt}{c:Str}{cp hp:Pos}(h:F.hm=false)(q:Ok ((run P n).ex body F) σ X):Ok (exS P (run P n) (.Try body [.ExceptHandler (some (.Name c cp)) none (h0::hb) hp] [] [] p) F) σ X:=by
 refine uB9 (by rw [h];exact Bool.false_ne_true) ?_;refine Classical.byContradiction fun hn=>?_;obtain ⟨fl,σ',e,q⟩:=q;refine hn ?_;clear hn;exact ⟨fl,σ',by simp only [e],q⟩
theorem uMt{body hb:List Stmt}{h0:Stmt}{c:Str}{cp hp:Pos}(h:F.hm=false)(hk:uH5 x=some c∧F.kind c=some .globalImplicit)(q:Ex ((run P n).ex body F) σ x fun σ'=>Ok ((run P n).ex (h0::hb) { F with hm:=true }) σ' X):Ok (exS P (run P n) (.Try body [.ExceptHandler (some (.Name c cp)) none (h0::hb) hp] [] [] p) F) σ X:=by
 refine uB9 (by rw [h];exact Bool.false_ne_true) ?_;refine Classical.byContradiction fun hn=>?_;obtain ⟨σ',e,q⟩:=q;refine hn ?_;clear hn;obtain ⟨fl,σ2,e2,q⟩:=uDm q;exact ⟨fl,σ2,by simp only [e,hk,and_self,if_true];exact e2,q⟩
theorem uZ0{b:List Stmt}(q:Ex (exB P (run P n) F b) σ x E):Ex ((run P (n+1)).ex b F) σ x E:=q
theorem uKk{y:Stmt}{ys:List Stmt}(q:Ex (exS P (run P n) y F) σ x E):Ex (exB P (run P n) F (y::ys)) σ x E:=uFs q
theorem uZn{t e:Expr}(h:uCn [t] e=false)(k:uCg e=true)(q:Ex ((run P n).ev e F) σ x E):Ex (exS P (run P n) (.Assign [t] e p) F) σ x E:=by
 show Ex (if uCn [t] e=true then M.fail else M.bind (if uCg e=true then (run P n).ev e F else evE P (run P n) e F) _) σ x E;rw [h,k,if_neg Bool.false_ne_true,if_pos rfl];exact uFs q
theorem uT7{o i:Expr}{np:Pos}{args:List Expr}(q:Ok ((run P n).ev (.Subscript o i np) F) σ fun fv σ=>Ok (evL (run P n) F args) σ fun vs σ=>Ex (uA0 (run P n) F fv vs) σ x E):Ex ((run P (n+1)).ev (.Call (.Subscript o i np) args [] p) F) σ x E:=
 uDh (uAc q fun fv σ q=>uDh q)
theorem uI0{r:Rec}{f:AV}{vs:List AV}(h:F.hm=false)(q:Ex (r.call f vs) σ x E):Ex (uA0 r F f vs) σ x E:=by
 unfold uA0;rw [h];exact q
theorem uY8 {L:List (Str×AV)} {H:List AO} {i j:Nat} (h1:H[i]?=some (.meth "list_iterator.__next__" j)) (q:Ex (uFn (.ref j)) ⟨L,H⟩ x E):Ex ((run P (n+1)).call (.ref i) []) ⟨L,H⟩ x E:=by
 obtain ⟨σ',e,q⟩:=q;refine ⟨σ',?_,q⟩;exact ob (ob (f:=pM) h1 rfl) e
theorem uFz{r:Rec}{v:AV}(h:F.hm=true)(q:Ok (bPop v) σ Q):Ok (uA0 r F (.st (.builtin "list.pop")) [v]) σ Q:=by
 unfold uA0;rw [h];exact q
end
section
variable {a:Addr}{ns:List Int}{n:Nat}{L:List (Str×AV)}{H:List AO}{Q:AV→St→Prop}
variable {si sd nd b:Nat}{rn:AV}{po nf:Int}{ord:List Nat}{np:Nat→Int}{sc:Nat→List Nat}{ia la:Nat→Nat}
structure DAt(B:List AO)(nd sk:Nat)(sc:Nat→List Nat)(la:Nat→Nat)(F s:List Nat)(c:Option Nat)(tp:List Fr)(σ:St):Prop where
 ext:Ext B σ.H
 st:σ.H[sk]?=some (.list (stT tp))
 it:σ.H[sk+1]?=some (.list (itT tp))
 se:σ.H[sk+2]?=some (.sset (s.map nm))
 n2 : ∃ g,σ.H[sk+3]?=some (.dict (esT tp) g)
 its:uCi σ.H la B.length tp
 dfs:Dfs sc F s c tp
 l1:σ.L.lookup (sn "n2i")=some (.ref nd)
 l2:σ.L.lookup (sn "stack")=some (.ref sk)
 l3:σ.L.lookup (sn "itstack")=some (.ref (sk+1))
 l4:σ.L.lookup (sn "seen")=some (.ref (sk+2))
 l5:σ.L.lookup (sn "node2stacki")=some (.ref (sk+3))
noncomputable def fl2(N:St→Prop)(R:AV→St→Prop)(B:St→Prop):Fl→St→Prop
 | .next,σ=>N σ
 | .ret v,σ=>R v σ
 | .brk,σ=>B σ
 | .cont,_=>False
theorem uGk{xs:List AV}{i:Int}:(cut xs (some i) none).length≤xs.length:=cutl xs _ _
inductive RingV(sc:Nat→List Nat)(v:AV)(H:List AO):Prop
 | mk (i:Nat) (xs:List AV) (C:List Nat):v=.ref i→H[i]?=some (.list xs)→xs≠[]→RingS sc C→RingV sc v H
theorem uNl(h1:H[si]?=some (.inst 192 sd))(h2:H[sd]?=some (tsD nd rn po nf))(hs:SAt H b nd ord np sc ia la)(hord:∀ k<6,k∈ord)(hsc:∀ k,uAp (sc k))
  (q:∀ H' v,Ext H H'→((v=.none∧∃ F,FinS sc F∧∀ k<6,k∈F)∨RingV sc v H')→Q v ⟨L,H'⟩) :
  Ok ((run (PGs a ns) (n+16)).call (fr 182) [.ref si]) ⟨L,H⟩ Q:=by
 refine uCz (f:=uAd "TopologicalSorter._find_cycle" false ((uBy (top 16)).getD 8 default)) [(sn "self",.ref si)] rfl rfl rfl rfl rfl ?_;have hd:=hs.dict;refine uAx ?_
 repeat fail "!si"
 have a1:(H++[AO.list []]).length=H.length+1:=by simp
 have a2:(H++[AO.list []]++[AO.list []]).length=H.length+2:=by simp
 have a3:(H++[AO.list []]++[AO.list []]++[AO.sset []]).length=H.length+3:=by simp
 generalize (H++[AO.list []]).length=k1 at *;generalize (H++[AO.list []]++[AO.list []]).length=k2 at *;generalize (H++[AO.list []]++[AO.list []]++[AO.sset []]).length=k3 at *;subst a1 a2 a3;have hndl:=uAe hd;have hkeys:(ord.map fun k=>(nm k,AV.ref (ia k))).map (fun e=>AV.str e.1 none)=ord.map fun k=>AV.str (nm k) none:=by rw [List.map_map];rfl
 have hinit : ∃ F s,DAt H nd H.length sc la F s none [] ⟨uD0 (sn "node2stacki") (AV.ref (H.length+3)) (uD0 (sn "seen") (AV.ref (H.length+2)) (uD0 (sn "itstack") (AV.ref (H.length+1)) (uD0 (sn "stack") (AV.ref H.length) (uD0 (sn "n2i") (AV.ref nd) [(sn "self",AV.ref si)])))),H++[AO.list []]++[AO.list []]++[AO.sset []]++[AO.dict [] true]⟩∧∀ k∈ord.take 0,k∈s:=by
  have f0:(H++[AO.list []]++[AO.list []]++[AO.sset []]++[AO.dict [] true])[H.length]?=some (AO.list []):=by fail "!hp"
  have f1:(H++[AO.list []]++[AO.list []]++[AO.sset []]++[AO.dict [] true])[H.length+1]?=some (AO.list []):=by rw [show H.length+1=(H++[AO.list []]).length by simp];fail "!hp"
  have f2:(H++[AO.list []]++[AO.list []]++[AO.sset []]++[AO.dict [] true])[H.length+2]?=some (AO.sset []):=by rw [show H.length+2=(H++[AO.list []]++[AO.list []]).length by simp];fail "!hp"
  have f3:(H++[AO.list []]++[AO.list []]++[AO.sset []]++[AO.dict [] true])[H.length+3]?=some (AO.dict [] true):=by rw [show H.length+3=(H++[AO.list []]++[AO.list []]++[AO.sset []]).length by simp];fail "!hp"
  have fx:Ext H (H++[AO.list []]++[AO.list []]++[AO.sset []]++[AO.dict [] true]):=by fail "!ex"
  exact ⟨[],[],⟨fx,f0,f1,f2,⟨true,f3⟩,trivial,⟨fun x=>⟨fun q=>by (cases q),fun q=>by rcases q with q|q<;>cases q⟩,fun x q=>by (cases q),List.nodup_nil,fun x q=>by (cases q),trivial,trivial,List.nodup_nil⟩,by fail "!lk",by fail "!lk",by fail "!lk",by fail "!lk",by fail "!lk"⟩,fun k hk=>by simp at hk⟩
 refine uBi (xs:=(ord.map fun k=>(nm k,AV.ref (ia k))).map fun e=>AV.str e.1 none) (I:=fun t σ=>∃ F s,DAt H nd H.length sc la F s none [] σ∧∀ k∈ord.take t,k∈s) ?_ ?_ ?_ lim 0 _ (Nat.zero_le _) (by rw [hkeys,List.length_map,Nat.zero_add];exact Nat.lt_of_le_of_lt hs.ok.len (by decide)) hinit
 ·rintro p ⟨L',H'⟩ ⟨F,s,h,_⟩;refine uS4 (h.ext _ _ hd) fun e he=>?_;obtain ⟨k,hk,rfl⟩:=List.mem_map.mp he;have:=uNa k;exact Nat.le_trans (by dsimp only;omega:_≤3) (by decide)
 ·rw [hkeys];rintro t v ⟨L',H'⟩ hv hz;refine Classical.byContradiction fun hn=>?_;obtain ⟨F,s,h,hm⟩:=hz;refine hn ?_;clear hn;rw [List.getElem?_map] at hv;generalize hpt:ord[t]?=zz;induction zz using Option.casesOn with
  | none=>rw [hpt] at hv;cases hv
  | some w0=>
  rw [hpt] at hv;cases hv;have hw0:w0<6:=hs.ok.2 w0 (List.mem_of_getElem? hpt);have htk:ord.take (t+1)=ord.take t++[w0]:=by rw [List.take_add_one,hpt];rfl
  obtain ⟨x,e1,e2,e3,⟨g4,e4⟩,e5,e6,l1,l2,l3,l4,l5⟩:=h;dsimp only at x e1 e2 e3 e4 e5 l1 l2 l3 l4 l5
  repeat fail "!si"
  rw [uD6 hw0 e6.six];by_cases hw:w0∈s
  ·rw [decide_eq_true hw];refine ⟨fun _=>?_,fun q=>by (cases q)⟩
   repeat fail "!si"
   refine ⟨F,s,⟨x,e1,e2,e3,⟨g4,e4⟩,e5,e6,by fail "!lk",by fail "!lk",by fail "!lk",by fail "!lk",by fail "!lk"⟩,fun k hk=>?_⟩;rw [htk] at hk;rcases List.mem_append.mp hk with hk|hk
   ·exact hm k hk
   ·rw [List.mem_singleton.mp hk];exact hw
  rw [decide_eq_false hw];refine ⟨fun q=>by (cases q),fun _=>?_⟩
  repeat fail "!si"
  refine uAc (Q':=fl2 (fun σ=>∃ F s',DAt H nd H.length sc la F s' none [] σ∧(∀ x∈s,x∈s')∧w0∈s') (fun v σ=>Ext H σ.H∧RingV sc v σ.H) (fun _=>False))
   (uCj (I:=fun m σ=>∃ F s' tp w g,DAt H nd H.length sc la F s' (some w) tp σ∧σ.L.lookup (sn "node")=some (.str (nm w) g)∧w<6∧mu sc s' tp=m∧(∀ x∈s,x∈s')∧(w0∈s'∨w=w0)) ?_ lim (mu sc s []) _ (Nat.lt_of_le_of_lt (uYp fun k=>(hsc k).len) (by decide))
    ⟨F,s,[],w0,none,⟨x,e1,e2,e3,⟨g4,e4⟩,e5,e6.root,by fail "!lk",by fail "!lk",by fail "!lk",by fail "!lk",by fail "!lk"⟩,by fail "!lk",hw0,rfl,fun x hx=>hx,.inr rfl⟩) ?_
  ·clear x e1 e2 e3 e4 e5 e6 l1 l2 l3 l4 l5;rintro m ⟨L2,H2⟩ hz;refine Classical.byContradiction fun hn=>?_;obtain ⟨F,s',tp,w,g,⟨x,e1,e2,e3,⟨g4,e4⟩,e5,e6,l1,l2,l3,l4,l5⟩,l6,hw6,rfl,hss,hw0s⟩:=hz;refine hn ?_;clear hn;dsimp only at x e1 e2 e3 e4 e5 l1 l2 l3 l4 l5 l6;have htp6:∀ y∈vsT tp,y<6:=fun y hy=>e6.six y ((e6.mem y).mpr (.inl hy));refine uEr rfl ?_
   repeat fail "!si"
   refine ⟨fun _=>?_,fun q=>by (cases q)⟩;refine uZ6 ?_;refine uAx (uAc (Q':=fl2 (fun σ=>∃ s2 tp2,DAt H nd H.length sc la F s2 none tp2 σ∧mu sc s2 tp2=mu sc s' tp∧(∀ x∈s,x∈s2)∧w0∈s2) (fun v σ=>Ext H σ.H∧RingV sc v σ.H) (fun _=>False)) ?_ ?_)
   ·repeat fail "!si"
    rw [uD6 hw6 e6.six];by_cases hws:w∈s'
    ·rw [decide_eq_true hws];refine ⟨fun _=>?_,fun q=>by (cases q)⟩
     repeat fail "!si"
     rw [uG7 hw6 htp6];by_cases hwt:w∈vsT tp
     ·rw [decide_eq_true hwt];refine ⟨fun _=>?_,fun q=>by (cases q)⟩;obtain ⟨i,hi,hl⟩:=uKy hwt
      repeat fail "!si"
      refine uFp e4 hl ?_
      repeat fail "!si"
      refine uIu e1 ?_
      repeat fail "!si"
      refine uJc (uAh (uAl _ _)) (uAl _ _) ?_ ?_
      ·have h1:=uGk (xs:=stT tp) (i:=(i:Int));rw [uJr] at h1;have h2:=e6.len;rw [List.length_append];exact Nat.le_trans (by show _+1≤7;omega) (by decide:7≤lz)
      obtain ⟨C,hC⟩:=uV9 e6.path hwt
      repeat fail "!si"
      exact ⟨((x.trans (Ext.app _ _)).trans (Ext.app _ _)).trans (Ext.app _ _),_,_,C,rfl,uAl _ _,by simp,hC⟩
     ·rw [decide_eq_false hwt];refine ⟨fun q=>by (cases q),fun _=>?_⟩
      repeat fail "!si"
      exact ⟨s',tp,⟨x,e1,e2,e3,⟨g4,e4⟩,e5,e6.done hws hwt,l1,l2,l3,l4,l5⟩,rfl,hss,by rcases hw0s with q|q;exact q;rw [← q];exact hws⟩
    ·rw [decide_eq_false hws];refine ⟨fun q=>by (cases q),fun _=>?_⟩
     repeat fail "!si"
     have hwt:w∉vsT tp:=fun q=>hws ((e6.mem w).mpr (.inl q));have hwo:w∈ord:=hord w hw6;refine uXs e3 (by rw [List.length_map];have:=e6.slen;omega) ?_;rw [uD6 hw6 e6.six,decide_eq_false hws,if_neg Bool.false_ne_true,show s'.map nm++[nm w]=(s'++[w]).map nm by rw [List.map_append];rfl];obtain ⟨e,es,i1,i2⟩:=hs.info w hwo;have i3:=hs.succ w hwo;have y:Ext H (H2.set (H.length+2) (AO.sset ((s'++[w]).map nm))):=x.set (by omega);have d1:(H2.set (H.length+2) (AO.sset ((s'++[w]).map nm)))[H.length]?=some (AO.list (stT tp)):=uAa (by omega) e1;have d2:(H2.set (H.length+2) (AO.sset ((s'++[w]).map nm)))[H.length+1]?=some (AO.list (itT tp)):=uAa (by omega) e2;have d3:(H2.set (H.length+2) (AO.sset ((s'++[w]).map nm)))[H.length+2]?=some (AO.sset ((s'++[w]).map nm)):=set_same e3;have d4:(H2.set (H.length+2) (AO.sset ((s'++[w]).map nm)))[H.length+3]?=some (AO.dict (esT tp) g4):=uAa (by omega) e4;have d5:uCi (H2.set (H.length+2) (AO.sset ((s'++[w]).map nm))) la H.length tp:=e5.setO e3 rfl;generalize H2.set (H.length+2) (AO.sset ((s'++[w]).map nm))=H3 at *;have j0:=y _ _ hd;have j1:=y _ _ i1;have j2:=y _ _ i2;have j3:=y _ _ i3;clear e1 e2 e3 e4 e5 x
     repeat fail "!si"
     refine uFp j0 (v:=.ref (ia w)) (by rw [uC2 hw6 hs.ok.2,if_pos hwo]) ?_
     repeat fail "!si"
     refine uAw (xs:=itT tp) (uAh (uAh d2)) ?_ ?_
     ·rw [uUw];exact Nat.lt_of_le_of_lt e6.len (by decide)
     have b0:(H3++[AO.liter (la w) (some 0)]).length=H3.length+1:=by simp
     have hl3:=y.le;have hl4:=uAe d4;have y4:Ext H ((H3++[AO.liter (la w) (some 0)]++[AO.meth "list_iterator.__next__" H3.length]).set (H.length+1) (AO.list (itT tp++[AV.ref (H3++[AO.liter (la w) (some 0)]).length]))):=((y.trans (Ext.app _ _)).trans (Ext.app _ _)).set (by omega);have f1:((H3++[AO.liter (la w) (some 0)]++[AO.meth "list_iterator.__next__" H3.length]).set (H.length+1) (AO.list (itT tp++[AV.ref (H3++[AO.liter (la w) (some 0)]).length])))[H.length]?=some (AO.list (stT tp)):=uAa (by omega) (uAh (uAh d1));have f2:((H3++[AO.liter (la w) (some 0)]++[AO.meth "list_iterator.__next__" H3.length]).set (H.length+1) (AO.list (itT tp++[AV.ref (H3++[AO.liter (la w) (some 0)]).length])))[H.length+1]?=some (AO.list (itT (⟨w,0,(H3++[AO.liter (la w) (some 0)]).length,H3.length,g⟩::tp))):=by
      rw [uEp];exact set_same (uAh (uAh d2))
     have f3:((H3++[AO.liter (la w) (some 0)]++[AO.meth "list_iterator.__next__" H3.length]).set (H.length+1) (AO.list (itT tp++[AV.ref (H3++[AO.liter (la w) (some 0)]).length])))[H.length+2]?=some (AO.sset ((s'++[w]).map nm)):=uAa (by omega) (uAh (uAh d3));have f4:((H3++[AO.liter (la w) (some 0)]++[AO.meth "list_iterator.__next__" H3.length]).set (H.length+1) (AO.list (itT tp++[AV.ref (H3++[AO.liter (la w) (some 0)]).length])))[H.length+3]?=some (AO.dict (esT tp) g4):=uAa (by omega) (uAh (uAh d4));have f5:uCi ((H3++[AO.liter (la w) (some 0)]++[AO.meth "list_iterator.__next__" H3.length]).set (H.length+1) (AO.list (itT tp++[AV.ref (H3++[AO.liter (la w) (some 0)]).length]))) la H.length (⟨w,0,(H3++[AO.liter (la w) (some 0)]).length,H3.length,g⟩::tp):=
      ⟨uAa (by dsimp only;omega) (uAl _ _),uAa (by dsimp only;omega) (uAh (uAl _ _)),d5.lt,hl3,((d5.ext (Ext.app _ _)).ext (Ext.app _ _)).setO (uAh (uAh d2)) rfl⟩
     generalize (H3++[AO.liter (la w) (some 0)]++[AO.meth "list_iterator.__next__" H3.length]).set (H.length+1) (AO.list (itT tp++[AV.ref (H3++[AO.liter (la w) (some 0)]).length]))=H4 at *
     repeat fail "!si"
     refine uMy f4 (by rw [uO6];have:=e6.len;omega) ?_;rw [uQw hw6 htp6 hwt,uJr]
     repeat fail "!si"
     refine uAw (xs:=stT tp) (uAa (by omega) f1) ?_ ?_
     ·rw [uJr];exact Nat.lt_of_le_of_lt e6.len (by decide)
     repeat fail "!si"
     refine ⟨s'++[w],⟨w,0,(H3++[AO.liter (la w) (some 0)]).length,H3.length,g⟩::tp,⟨(y4.set (by omega)).set (Nat.le_refl _),?_,uAa (by omega) (uAa (by omega) f2),uAa (by omega) (uAa (by omega) f3),⟨g4,uAa (by omega) (set_same f4)⟩,(f5.setO f4 rfl).setO (uAa (by omega) f1) rfl,e6.push hw6 hws,l1,l2,l3,l4,l5⟩,uUl hw6 hws,fun z hz=>List.mem_append_left _ (hss z hz),?_⟩
     ·rw [uFt];exact set_same (uAa (by omega) f1)
     ·rcases hw0s with q|q
      ·exact List.mem_append_left _ q
      ·rw [← q];exact List.mem_append_right _ (.head _)
   ·clear x e1 e2 e3 e4 e5 e6 l1 l2 l3 l4 l5 l6;rintro fl ⟨L3,H3⟩ hq;induction fl using Fl.casesOn with
    | brk=>exact hq.elim
    | cont=>exact hq.elim
    | ret v=>exact hq
    | next=>
    refine Classical.byContradiction fun hn=>?_;obtain ⟨s2,tp2,⟨x,e1,e2,e3,⟨g4',e4⟩,e5,e6,l1,l2,l3,l4,l5⟩,hmu,hs2,hw2⟩:=hq;refine hn ?_;clear hn;dsimp only at x e1 e2 e3 e4 e5 l1 l2 l3 l4 l5
    repeat fail "!si"
    refine uAc (Q':=fl2 (fun σ=>∃ F tp w g,DAt H nd H.length sc la F s2 (some w) tp σ∧σ.L.lookup (sn "node")=some (.str (nm w) g)∧w<6∧mu sc s2 tp<mu sc s2 tp2) (fun _ _=>False) (fun σ=>∃ F,DAt H nd H.length sc la F s2 none [] σ))
     (uCj (I:=fun k σ=>∃ F tp,DAt H nd H.length sc la F s2 none tp σ∧mu sc s2 tp≤mu sc s2 tp2∧tp.length=k) ?_ lim tp2.length _ (Nat.lt_of_le_of_lt e6.len (by decide)) ⟨F,tp2,⟨x,e1,e2,e3,⟨g4',e4⟩,e5,e6,l1,l2,l3,l4,l5⟩,Nat.le_refl _,rfl⟩) ?_
    ·clear x e1 e2 e3 e4 e5 e6 l1 l2 l3 l4 l5;rintro k ⟨L4,H4⟩ hz;refine Classical.byContradiction fun hn=>?_;obtain ⟨F',tp',⟨x,e1,e2,e3,⟨g4',e4⟩,e5,e6,l1,l2,l3,l4,l5⟩,hmu',rfl⟩:=hz;refine hn ?_;clear hn;dsimp only at x e1 e2 e3 e4 e5 l1 l2 l3 l4 l5;refine uEr rfl ?_
     repeat fail "!si"
     induction tp' using List.casesOn with
     | nil=>
      refine ⟨fun q=>by (simp [stT] at q),fun _=>?_⟩
      repeat fail "!si"
      exact ⟨F',x,e1,e2,e3,⟨g4',e4⟩,e5,e6,l1,l2,l3,l4,l5⟩
     | cons f tp'=>
      rw [decide_eq_true (by rw [uFt];simp)];refine ⟨fun _=>?_,fun q=>by (cases q)⟩;refine uZ6 (uAx ?_);refine Classical.byContradiction fun hn=>?_;obtain ⟨t1,t2,t3,t4,t5⟩:=e5;refine hn ?_;clear hn;have hf6:f.v<6:=e6.six f.v ((e6.mem _).mpr (.inl (.head _)));have hla:=x _ _ (hs.succ f.v (hord _ hf6));generalize hnx:(sc f.v)[f.p]?=zz;induction zz using Option.casesOn with
      | some w'=>
       have hw':w'<6:=(hsc f.v).2 w' (List.mem_of_getElem? hnx);have hp':f.p<(sc f.v).length:=by
        rcases Nat.lt_or_ge f.p (sc f.v).length with q|q
        ·exact q
        ·rw [List.getElem?_eq_none q] at hnx;cases hnx
       refine uM1 rfl ?_
       repeat fail "!si"
       refine uVr ?_
       repeat fail "!si"
       refine uAt e2 (v:=.ref f.m) (uEq (by rw [uEp];simp)) ?_
       repeat fail "!si"
       refine uVi (v:=.str (nm w') (some w')) t2 hla (by unfold nvs;rw [List.getElem?_map,hnx];rfl) ?_
       repeat fail "!si"
       have n0:f.j≠H.length:=uAi t2 e1 rfl;have n1:f.j≠H.length+1:=uAi t2 e2 rfl;have n2:f.j≠H.length+2:=uAi t2 e3 rfl;have n3:f.j≠H.length+3:=uAi t2 e4 rfl;exact ⟨F',{ f with p:=f.p+1 }::tp',w',some w',⟨x.set t4,uAa n0 e1,uAa n1 e2,uAa n2 e3,⟨g4',uAa n3 e4⟩,uCi.next ⟨t1,t2,t3,t4,t5⟩,e6.next hnx,by fail "!lk",by fail "!lk",by fail "!lk",by fail "!lk",by fail "!lk"⟩,by fail "!lk",hw',Nat.lt_of_lt_of_le (uS7 hp') hmu'⟩
      | none=>
       refine uMt (x:=.stop) rfl ⟨rfl,rfl⟩ ?_;refine uZ0 (uKk (uZn rfl rfl (uT7 ?_)))
       repeat fail "!si"
       refine uAt e2 (v:=.ref f.m) (uEq (by rw [uEp];simp)) ?_
       repeat fail "!si"
       refine uI0 rfl (uY8 t1 (uU4 t2 hla (by unfold nvs;rw [List.getElem?_map,hnx];rfl) ?_));have n0:f.j≠H.length:=uAi t2 e1 rfl;have n1:f.j≠H.length+1:=uAi t2 e2 rfl;have n2:f.j≠H.length+2:=uAi t2 e3 rfl;have n3:f.j≠H.length+3:=uAi t2 e4 rfl;have y:Ext H (H4.set f.j (.liter (la f.v) none)):=x.set t4;have d1:(H4.set f.j (.liter (la f.v) none))[H.length]?=some (AO.list (stT (f::tp'))):=uAa n0 e1;have d2:(H4.set f.j (.liter (la f.v) none))[H.length+1]?=some (AO.list (itT (f::tp'))):=uAa n1 e2;have d3:(H4.set f.j (.liter (la f.v) none))[H.length+2]?=some (AO.sset (s2.map nm)):=uAa n2 e3;have d4:(H4.set f.j (.liter (la f.v) none))[H.length+3]?=some (AO.dict (esT (f::tp')) g4'):=uAa n3 e4;have d5:uCi (H4.set f.j (.liter (la f.v) none)) la H.length tp':=uCi.pop ⟨t1,t2,t3,t4,t5⟩;generalize H4.set f.j (.liter (la f.v) none)=H5 at *;have e7:=e6.pop hnx;have h66:∀ y∈vsT (f::tp'),y<6:=fun y hy=>e6.six y ((e6.mem y).mpr (.inl hy));have hnf:f.v∉vsT tp':=(List.nodup_cons.mp e6.nd).1
       repeat fail "!si"
       refine uFz rfl (uSg d1 (v:=.str (nm f.v) f.g) (by rw [uFt];simp) ?_);rw [show (stT (f::tp')).dropLast=stT tp' by rw [uFt,List.dropLast_concat]];refine uUx (uAa (by omega) d4) ⟨?_,?_⟩ ?_
       ·rw [uG7 hf6 h66];exact decide_eq_true (.head _)
       ·rw [uO6];exact Nat.le_trans e6.len (by decide)
       rw [uVy h66 hnf]
       repeat fail "!si"
       refine uFz rfl (uSg (v:=.ref f.m) (uAa (by omega) (uAa (by omega) d2)) (by rw [uEp];simp) ?_);rw [show (itT (f::tp')).dropLast=itT tp' by rw [uEp,List.dropLast_concat]]
       repeat fail "!si"
       refine ⟨tp'.length,by simp,f.v::F',tp',⟨((y.set (Nat.le_refl _)).set (by omega)).set (by omega),uAa (by omega) (uAa (by omega) (set_same d1)),set_same (uAa (by omega) (uAa (by omega) d2)),uAa (by omega) (uAa (by omega) (uAa (by omega) d3)),⟨false,uAa (by omega) (set_same (uAa (by omega) d4))⟩,((d5.setO d1 rfl).setO (uAa (by omega) d4) rfl).setO (uAa (by omega) (uAa (by omega) d2)) rfl,e7,l1,l2,l3,l4,l5⟩,Nat.le_trans uY2 hmu',rfl⟩
    ·rintro fl ⟨L4,H4⟩ hq;induction fl using Fl.casesOn with
     | cont=>exact hq.elim
     | ret v=>exact hq.elim
     | next=>
      refine Classical.byContradiction fun hn=>?_;obtain ⟨F,tp,w,g,hD,hl,hw,hmu2⟩:=hq;refine hn ?_;clear hn
      repeat fail "!si"
      exact ⟨mu sc s2 tp,by omega,F,s2,tp,w,g,hD,hl,hw,rfl,hs2,.inl hw2⟩
     | brk=>
      obtain ⟨F,hD⟩:=hq
      repeat fail "!si"
      exact ⟨F,s2,hD,hs2,hw2⟩
  ·clear x e1 e2 e3 e4 e5 e6 l1 l2 l3 l4 l5;rintro fl ⟨L3,H3⟩ hq;induction fl using Fl.casesOn with
   | cont=>exact hq.elim
   | brk=>exact hq.elim
   | ret v=>
    obtain ⟨hx,hr⟩:=hq
    repeat fail "!si"
    exact q _ v hx (.inr hr)
   | next=>
    obtain ⟨F,s',hD,hss,hw0s⟩:=hq
    repeat fail "!si"
    refine ⟨F,s',hD,fun k hk=>?_⟩;rw [htk] at hk;rcases List.mem_append.mp hk with hk|hk
    ·exact hss k (hm k hk)
    ·rw [List.mem_singleton.mp hk];exact hw0s
 ·rintro ⟨L',H'⟩ ⟨F,s,h,hm⟩
  repeat fail "!si"
  refine q _ _ h.ext (.inl ⟨rfl,F,h.dfs.fin,fun k hk=>?_⟩);have hks:=hm k (by rw [hkeys,List.length_map,List.take_length];exact hord k hk);rcases (h.dfs.mem k).mp hks with p|p
  ·cases p
  ·exact p
end
noncomputable def Wp{α:Type}(m:M α)(σ:St)(Q:α→St→Prop)(x:AX)(E:St→Prop):Prop:=Ok m σ Q∨Ex m σ x E
section
variable {α β:Type}{σ:St}{x:AX}{E:St→Prop}
theorem uPb{m:M α}{f:α→M β}{Q:β→St→Prop}(h:Ok m σ fun a σ'=>Wp (f a) σ' Q x E):Wp (M.bind m f) σ Q x E:=by
 obtain ⟨a,σ1,e1,q⟩:=h;rcases q with q|q
 ·exact .inl (uAb ⟨a,σ1,e1,q⟩)
 ·exact .inr (uDh ⟨a,σ1,e1,q⟩)
theorem uRz{m:M α}{f:α→M β}{Q:β→St→Prop}(h:Wp m σ (fun a σ'=>Ok (f a) σ' Q) x E):Wp (M.bind m f) σ Q x E:=by
 rcases h with q|q
 ·exact .inl (uAb q)
 ·exact .inr (uFs q)
end
section
variable {P:uBb}{n:Nat}{F:FE}{σ:St}{Q:AV→St→Prop}{X:Fl→St→Prop}{E:St→Prop}{x:AX}{p:Pos}
noncomputable def seqW(P:uBb)(n:Nat)(F:FE)(xs:List Stmt)(X:Fl→St→Prop)(x:AX)(E:St→Prop):Fl→St→Prop
 | .next,σ=>Wp (exB P (run P n) F xs) σ X x E
 | .brk,σ=>X .brk σ
 | .cont,σ=>X .cont σ
 | .ret v,σ=>X (.ret v) σ
theorem uKl{y:Stmt}{ys:List Stmt}(q:Ok (exS P (run P n) y F) σ (seqW P n F ys X x E)):Wp (exB P (run P n) F (y::ys)) σ X x E:=by
 refine uPb (uAc q fun fl σ' q=>?_);induction fl using Fl.casesOn with
 | next=>exact q
 | brk=>exact .inl (uAf q)
 | cont=>exact .inl (uAf q)
 | ret v=>exact .inl (uAf q)
theorem uU1{y:Stmt}(q:Wp (exS P (run P n) y F) σ X x E):Wp (exB P (run P n) F [y]) σ X x E:=by
 refine uRz ?_;rcases q with q|q
 ·refine .inl (uAc q fun fl σ' q=>?_);cases fl<;>exact uAf q
 ·exact .inr q
theorem u0f{t:Expr}{a b:List Stmt}(q:Ok ((run P n).tst t F) σ fun c σ=>(c=true→Wp ((run P n).ex a F) σ X x E)∧(c=false→Wp ((run P n).ex b F) σ X x E)):Wp (exS P (run P n) (.If t a b p) F) σ X x E:=by
 refine uPb (uAc q fun c σ q=>?_);cases c
 ·rcases q.2 rfl with q|q
  ·exact .inl (uB9 Bool.false_ne_true q)
  ·exact .inr (by rw [if_neg Bool.false_ne_true];exact q)
 ·rcases q.1 rfl with q|q
  ·exact .inl (uA9 rfl q)
  ·exact .inr (by rw [if_pos rfl];exact q)
theorem uTm{c:Str}{args:List Expr}{C:Addr}{p1 p2:Pos}(h:F.hm=false)(h1:F.kind c=some .globalImplicit)(h2:P.glob.lookup c=some (.st (.ref C)))(h3:P.cls.lookup C=some .exc)(h4:uAz args=true)(q:Ok (evL (run P n) F args) σ fun vs σ=>vs.length≤lz∧E σ) :
  Ex (exS P (run P n) (.Raise (some (.Call (.Name c p1) args [] p2)) none p) F) σ .cyc E:=by
 show Ex (if F.hm=true then M.fail else match F.kind c,P.glob.lookup c with
  | some .globalImplicit,some (.st (.ref C))=>match P.cls.lookup C with
   | some .exc=>if uAz args=true then M.bind (evL (run P n) F args) fun vs=>if vs.length≤lz then M.raise .cyc else M.fail else M.fail
   | _=>M.fail
  | _,_=>M.fail) σ .cyc E
 rw [h,if_neg Bool.false_ne_true,h1,h2];simp only [h3,h4,if_true];refine uDh (uAc q fun vs σ q=>?_);rw [if_pos q.1];exact ⟨σ,rfl,q.2⟩
theorem uXq{L:List (Str×AV)}{H:List AO}{a:Addr}{f:Fn}{args:List AV}{bs:List (Str×AV)}{body:List Stmt}(L':List (Str×AV))(h:P.fn.lookup a=some f)(b:bindP f args ⟨L,H⟩=some (.ok bs,⟨L,H⟩))(c:uA7 bs f.scope.names=M.pure [])(l:uCd f.scope bs=L')(hb:f.body=body)
  (q:Wp (exB P (run P n) { scope:=f.scope,cells:=[] } body) ⟨L',H⟩ (retQ Q L) .cyc fun σ'=>E ⟨L,σ'.H⟩):Wp ((run P (n+2)).call (.st (.ref a)) args) ⟨L,H⟩ Q .cycL E:=by
 rcases q with q|q
 ·exact .inl (uCz L' h b c l hb q)
 ·refine .inr ?_;subst hb;show Ex (match P.fn.lookup a with | some fn=>uBr (run P (n+1)) fn args | none=>uA1 P (run P (n+1)) a args) _ _ _;rw [h];refine uDh (uDi b (uDh ?_));rw [c];refine uAf ?_;obtain ⟨σ',e,q⟩:=q;refine ⟨⟨L,σ'.H⟩,?_,q⟩;unfold uG8;rw [l];have e':(run P (n+1)).ex f.body { scope:=f.scope,cells:=[] } ⟨L',H⟩=some (.exc .cyc,σ'):=e;simp only [e']
end
noncomputable def infoB(H:List AO):AV→Bool
 | .ref i=>match H[i]? with
  | some (.slots _ _ [_,some (.int x),_])=>decide (x=0)
  | _=>false
 | _=>false
noncomputable def infoN(H:List AO):AV→AV
 | .ref i=>match H[i]? with
  | some (.slots _ _ [some v,_,_])=>v
  | _=>.none
 | _=>.none
section
variable {a:Addr}{ns:List Int}{n:Nat}{L:List (Str×AV)}{H:List AO}{Q:AV→St→Prop}{E:St→Prop}
variable {si sd nd b:Nat}{rn:AV}{po nf:Int}{ord:List Nat}{np:Nat→Int}{sc:Nat→List Nat}{ia la:Nat→Nat}
theorem SAt.vals(hs:SAt H b nd ord np sc ia la):(((ord.map fun k=>AV.ref (ia k)).filter (infoB H)).map (infoN H))=nvs (ord.filter fun k=>decide (np k=0)):=by
 rw [List.filter_map,List.map_map];unfold nvs;have hB:ord.filter (infoB H ∘ fun k=>AV.ref (ia k))=ord.filter fun k=>decide (np k=0):=by
  refine List.filter_congr fun k hk=>?_;obtain ⟨e,es,i1,i2⟩:=hs.info k hk;show infoB H (AV.ref (ia k))=_;unfold infoB;simp only [i1]
 rw [hB];refine List.map_congr_left fun k hk=>?_;obtain ⟨e,es,i1,i2⟩:=hs.info k (List.mem_filter.mp hk).1;show infoN H (AV.ref (ia k))=_;unfold infoN;simp only [i1]
theorem SAt.setI{c:Nat}{es es':List (Str×AV)}(h:SAt H b nd ord np sc ia la)(hc:H[c]?=some (.idict es)):SAt (H.set c (.idict es')) b nd ord np sc ia la:=by
 refine ⟨uAa (fun q=>by rw [q,h.dict] at hc;cases hc) h.dict,h.ok,fun k hk=>?_,fun k hk=>uAa (fun q=>by rw [q,h.succ k hk] at hc;cases hc) (h.succ k hk),h.inj,h.low⟩;obtain ⟨e,es2,a,c'⟩:=h.info k hk;have a':(H.set c (.idict es'))[ia k]?=some (niO e k (np k) (la k)):=uAa (uAi hc a rfl) a;by_cases q:e=c
 ·subst q;exact ⟨e,es',a',set_same hc⟩
 ·exact ⟨e,es2,a',uAa (fun p=>q p.symm) c'⟩
theorem uLu(h1:H[si]?=some (.inst 192 sd))(h2:H[sd]?=some (tsD nd .none po nf))(hs:SAt H b nd ord np sc ia la)(hord:∀ k<6,k∈ord)(hsc:∀ k,uAp (sc k))
  (q1:∀ H' rl,uCl sd H H'→H'[sd]?=some (tsD nd (.ref rl) po nf)→H.length≤rl→H'[rl]?=some (.list (nvs (ord.filter fun k=>decide (np k=0))))→(∃ F,FinS sc F∧∀ k<6,k∈F)→Q .none ⟨L,H'⟩)
  (q2:∀ H' rl,uCl sd H H'→H'[sd]?=some (tsD nd (.ref rl) po nf)→H.length≤rl→H'[rl]?=some (.list (nvs (ord.filter fun k=>decide (np k=0))))→(∃ C,RingS sc C)→E ⟨L,H'⟩) :
  Wp ((run (PGs a ns) (n+20)).call (fr 147) [.ref si]) ⟨L,H⟩ Q .cycL E:=by
 refine uXq (f:=uAd "TopologicalSorter.prepare" false ((uBy (top 16)).getD 3 default)) [(sn "self",.ref si)] rfl rfl rfl rfl rfl ?_;have hd:=hs.dict;refine uKl ?_
 repeat fail "!si"
 refine uCm (v:=.none) (w:=.none) (b:=true) rfl ?_;refine ⟨fun q=>by (cases q),fun _=>?_⟩
 repeat fail "!si"
 refine uKl ?_
 repeat fail "!si"
 refine uAu rfl (by decide) rfl rfl ?_
 repeat fail "!si"
 refine uPs (uAl _ _) (uAh hd) ?_;refine uAy (xs:=ord.map fun k=>AV.ref (ia k)) (infoB H) (infoN H) (by rw [List.length_map];exact Nat.lt_of_le_of_lt hs.ok.len (by decide)) rfl ?_ ?_ ?_ ?_
 ·intro p L H' x;have:=uT5 (L:=L) (p:=p) (x _ _ (uAh hd));rw [List.map_map] at this;exact this
 ·intro v hv H' x;refine Classical.byContradiction fun hn=>?_;obtain ⟨k,hk,rfl⟩:=List.mem_map.mp hv;refine hn ?_;clear hn;obtain ⟨e,es,i1,i2⟩:=hs.info k hk;have j1:=x _ _ (uAh i1);have j2:=x _ _ (uAh i2)
  repeat fail "!si"
  refine ⟨?_,rfl,Ext.refl _⟩;unfold infoB;simp only [i1]
 ·intro v hv hc H' x;obtain ⟨k,hk,rfl⟩:=List.mem_map.mp hv;obtain ⟨e,es,i1,i2⟩:=hs.info k hk;have j1:=x _ _ (uAh i1);have j2:=x _ _ (uAh i2)
  repeat fail "!si"
  refine ⟨?_,rfl,Ext.refl _⟩;unfold infoN;simp only [i1]
 intro H2 x2 e2;rw [hs.vals] at e2;have y2:Ext H H2:=(Ext.app _ _).trans x2;have f1:=y2 _ _ h1;have f2:=y2 _ _ h2;have hs2:=hs.ext y2;have nsd:sd<H.length:=uAe h2;have hrl:H.length≤(H++[AO.dvals nd]).length:=by simp
 generalize (H++[AO.dvals nd]).length=rl at *
 repeat fail "!si"
 have g2:(H2.set sd (.idict (uD0 (Str.ofString "_ready_nodes") (AV.ref rl) [(sn "_node2info",AV.ref nd),(sn "_ready_nodes",AV.none),(sn "_npassedout",AV.int po),(sn "_nfinished",AV.int nf)])))[sd]?=some (tsD nd (.ref rl) po nf):=set_same f2;have g1:(H2.set sd (.idict (uD0 (Str.ofString "_ready_nodes") (AV.ref rl) [(sn "_node2info",AV.ref nd),(sn "_ready_nodes",AV.none),(sn "_npassedout",AV.int po),(sn "_nfinished",AV.int nf)])))[si]?=some (.inst 192 sd):=uAa (uAi f2 f1 rfl) f1;have hs3:=hs2.setI (es':=uD0 (Str.ofString "_ready_nodes") (AV.ref rl) [(sn "_node2info",AV.ref nd),(sn "_ready_nodes",AV.none),(sn "_npassedout",AV.int po),(sn "_nfinished",AV.int nf)]) f2;have y3:uCl sd H (H2.set sd (.idict (uD0 (Str.ofString "_ready_nodes") (AV.ref rl) [(sn "_node2info",AV.ref nd),(sn "_ready_nodes",AV.none),(sn "_npassedout",AV.int po),(sn "_nfinished",AV.int nf)]))):=y2.x.setc;have e3:(H2.set sd (.idict (uD0 (Str.ofString "_ready_nodes") (AV.ref rl) [(sn "_node2info",AV.ref nd),(sn "_ready_nodes",AV.none),(sn "_npassedout",AV.int po),(sn "_nfinished",AV.int nf)])))[rl]?=some (.list (nvs (ord.filter fun k=>decide (np k=0)))):=uAa (by omega) e2;generalize H2.set sd (.idict (uD0 (Str.ofString "_ready_nodes") (AV.ref rl) [(sn "_node2info",AV.ref nd),(sn "_ready_nodes",AV.none),(sn "_npassedout",AV.int po),(sn "_nfinished",AV.int nf)]))=H3 at *;refine uKl ?_
 repeat fail "!si"
 refine uNl (a:=a) (ns:=ns) (n:=n+1) g1 g2 hs3 hord hsc ?_;intro H4 v x4 hv
 repeat fail "!si"
 have x5:=y3.ext x4;have g5:=x4 _ _ g2;have e5:=x4 _ _ e3;refine uU1 (u0f ?_);refine uEr rfl ?_;rcases hv with ⟨rfl,hF⟩|⟨i,xs,C,rfl,hi,hne,hC⟩
 ·repeat fail "!si"
  refine ⟨fun q=>by (cases q),fun _=>.inl ?_⟩
  repeat fail "!si"
  exact q1 _ rl x5 g5 hrl e5 hF
 ·repeat fail "!si"
  rw [decide_eq_true hne];refine ⟨fun _=>.inr ?_,fun q=>by (cases q)⟩;refine uZ0 (uKk (uTm rfl rfl rfl rfl rfl ?_))
  repeat fail "!si"
  refine uVc (uA9 (by decide) (uAf ?_))
  repeat fail "!si"
  exact q2 _ rl x5 g5 hrl e5 ⟨C,hC⟩
end
section
variable {a:Addr}{ns:List Int}{n:Nat}{L:List (Str×AV)}{H:List AO}{Q:AV→St→Prop}
variable {si sd nd b rl:Nat}{rn:AV}{po nf:Int}{ord:List Nat}{np:Nat→Int}{sc:Nat→List Nat}{ia la:Nat→Nat}
theorem uNr{xs:List AV}(h1:H[si]?=some (.inst 192 sd))(h2:H[sd]?=some (tsD nd (.ref rl) po po))(h3:H[rl]?=some (.list xs))(q:Q (.bool (decide (xs≠[]))) ⟨L,H⟩) :
  Ok ((run (PGs a ns) (n+10)).call (fr 161) [.ref si]) ⟨L,H⟩ Q:=by
 refine uCz (f:=uAd "TopologicalSorter.is_active" false ((uBy (top 16)).getD 5 default)) [(sn "self",.ref si)] rfl rfl rfl rfl rfl ?_;refine uAx ?_
 repeat fail "!si"
 refine uPd (v:=.ref rl) (w:=.none) (b:=false) rfl ?_;refine ⟨fun q=>by (cases q),fun _=>?_⟩
 repeat fail "!si"
 rw [decide_eq_false (by omega:¬ po<po)];refine ⟨fun q=>by (cases q),fun _=>?_⟩
 repeat fail "!si"
 exact q
theorem SAt.setR{c:Nat}{xs ys:List AV}(h:SAt H b nd ord np sc ia la)(hc:H[c]?=some (.list xs))(hn:∀ k∈ord,la k≠c):SAt (H.set c (.list ys)) b nd ord np sc ia la:=by
 refine ⟨uAa (fun q=>by rw [q,h.dict] at hc;cases hc) h.dict,h.ok,fun k hk=>?_,fun k hk=>uAa (fun q=>hn k hk q.symm) (h.succ k hk),h.inj,h.low⟩;obtain ⟨e,es2,a,c'⟩:=h.info k hk;exact ⟨e,es2,uAa (uAi hc a rfl) a,uAa (uAi hc c' rfl) c'⟩
noncomputable def SFr(sd rl:Nat)(ord:List Nat)(ia:Nat→Nat)(H H':List AO):Prop:=∀ (j:Nat) (o:AO),j≠rl→j≠sd→(∀ k∈ord,j≠ia k)→H[j]?=some o→H'[j]?=some o
theorem SFr.set{H0:List AO}{c:Nat}{o:AO}(h:SFr sd rl ord ia H0 H)(hc:c=rl∨c=sd∨(∃ k∈ord,c=ia k)∨H0.length≤c):SFr sd rl ord ia H0 (H.set c o):=fun j o' n1 n2 n3 g=>by
 have hl:=uAe g;have hne:c≠j:=by
  rcases hc with rfl|rfl|⟨k,hk,rfl⟩|hc
  ·exact Ne.symm n1
  ·exact Ne.symm n2
  ·exact Ne.symm (n3 k hk)
  ·omega
 exact uAa hne (h j o' n1 n2 n3 g)
theorem SFr.ext{H0 H1:List AO}(h:SFr sd rl ord ia H0 H)(x:Ext H H1):SFr sd rl ord ia H0 H1:=fun j o n1 n2 n3 g=>x _ _ (h j o n1 n2 n3 g)
theorem SFr.refl:SFr sd rl ord ia H H:=fun _ _ _ _ _ g=>g
inductive GrI(H:List AO)(b nd si sd rl:Nat)(ord R:List Nat)(np:Nat→Int)(sc:Nat→List Nat)(ia la:Nat→Nat)(po nf:Int)(t:Nat)(σ:St):Prop
 | mk:SAt σ.H b nd ord (fun j=>if j∈R.take t then -1 else np j) sc ia la→σ.H[H.length]?=some (.tup (nvs R))→σ.H[rl]?=some (.list (nvs R))→σ.H[sd]?=some (tsD nd (.ref rl) po nf)→σ.H[si]?=some (.inst 192 sd)→SFr sd rl ord ia H σ.H→σ.L.lookup (sn "self")=some (.ref si)→σ.L.lookup (sn "n2i")=some (.ref nd)→σ.L.lookup (sn "result")=some (.ref H.length)→GrI H b nd si sd rl ord R np sc ia la po nf t σ
theorem uJ5{R:List Nat}(h1:H[si]?=some (.inst 192 sd))(h2:H[sd]?=some (tsD nd (.ref rl) po nf))(h3:H[rl]?=some (.list (nvs R)))(hs:SAt H b nd ord np sc ia la)(hR:uAp R)(hRo:∀ k∈R,k∈ord)(hla:∀ k∈ord,la k≠rl)
  (q:∀ H' i,SAt H' b nd ord (fun j=>if j∈R then -1 else np j) sc ia la→H'[i]?=some (.tup (nvs R))→H.length≤i→H'[rl]?=some (.list [])→H'[sd]?=some (tsD nd (.ref rl) (po+R.length) nf)→H'[si]?=some (.inst 192 sd)→SFr sd rl ord ia H H'→Q (.ref i) ⟨L,H'⟩) :
  Ok ((run (PGs a ns) (n+14)).call (fr 154) [.ref si]) ⟨L,H⟩ Q:=by
 refine uCz (f:=uAd "TopologicalSorter.get_ready" false ((uBy (top 16)).getD 4 default)) [(sn "self",.ref si)] rfl rfl rfl rfl rfl ?_;have hlz:(nvs R).length≤6:=by unfold nvs;rw [List.length_map];exact hR.len
 refine uAx ?_
 repeat fail "!si"
 refine uPd (v:=.ref rl) (w:=.none) (b:=false) rfl ?_;refine ⟨fun q=>by (cases q),fun _=>?_⟩
 repeat fail "!si"
 refine uBi (xs:=nvs R) (I:=GrI H b nd si sd rl ord R np sc ia la po nf) ?_ ?_ ?_ lim 0 _ (Nat.zero_le _) (by rw [Nat.zero_add];exact Nat.lt_of_le_of_lt hlz (by decide)) ?_
 ·rintro p ⟨L',H'⟩ ⟨_,h,_⟩;exact uLa h
 ·rintro t v ⟨L',H'⟩ hv ⟨s',g1,g2,g3,g4,g5,l1,l2,l3⟩;dsimp only at s' g1 g2 g3 g4 g5 l1 l2 l3;unfold nvs at hv;rw [List.getElem?_map] at hv;generalize hpt:R[t]?=zz;induction zz using Option.casesOn with
  | none=>rw [hpt] at hv;cases hv
  | some p=>
  rw [hpt] at hv;cases hv;have hp6:p<6:=hR.2 p (List.mem_of_getElem? hpt);have hpo:=hRo p (List.mem_of_getElem? hpt);have htk:R.take (t+1)=R.take t++[p]:=by rw [List.take_add_one,hpt];rfl
  obtain ⟨e,es,i1,i2⟩:=s'.info p hpo;have hd:=s'.dict;have s2:=s'.setNp (x:=-1) hpo i1
  repeat fail "!si"
  refine uFp hd (k:=nm p) (t:=some p) (v:=.ref (ia p)) (by rw [uC2 hp6 hs.ok.2,if_pos hpo]) ?_
  repeat fail "!si"
  have n1:ia p≠H.length:=uAi i1 g1 rfl;have n2:ia p≠rl:=uAi i1 g2 rfl;have n3:ia p≠sd:=uAi i1 g3 rfl;have n4:ia p≠si:=uAi i1 g4 rfl;refine ⟨s2.congr fun j hj=>⟨?_,rfl⟩,uAa n1 g1,uAa n2 g2,uAa n3 g3,uAa n4 g4,g5.set (.inr (.inr (.inl ⟨p,hpo,rfl⟩))),by fail "!lk",by fail "!lk",by fail "!lk"⟩;rw [htk];by_cases hj:j=p
  ·subst hj;simp
  ·simp [hj]
 ·rintro ⟨L',H'⟩ ⟨s',g1,g2,g3,g4,g5,l1,l2,l3⟩;dsimp only at s' g1 g2 g3 g4 g5 l1 l2 l3;rw [show (nvs R).length=R.length by unfold nvs;rw [List.length_map],List.take_length] at s'
  repeat fail "!si"
  have n1:rl≠H.length:=by have:=uAe h3;omega
  have n3:rl≠sd:=uAi g2 g3 rfl;have n4:rl≠si:=uAi g2 g4 rfl;have s2:=s'.setR (ys:=[]) g2 hla;have f1:(H'.set rl (AO.list []))[H.length]?=some (.tup (nvs R)):=uAa n1 g1;have f2:(H'.set rl (AO.list []))[rl]?=some (.list []):=set_same g2;have f3:(H'.set rl (AO.list []))[sd]?=some (tsD nd (.ref rl) po nf):=uAa n3 g3;have f4:(H'.set rl (AO.list []))[si]?=some (.inst 192 sd):=uAa n4 g4;have f5:SFr sd rl ord ia H (H'.set rl (AO.list [])):=g5.set (.inl rfl);generalize H'.set rl (AO.list [])=H2 at *;have s3:=s2.setI (es':=[(sn "_node2info",.ref nd),(sn "_ready_nodes",.ref rl),(sn "_npassedout",.int (po+R.length)),(sn "_nfinished",.int nf)]) f3;have n5:sd≠si:=uAi f3 f4 rfl;have n6:sd≠H.length:=uAi f3 f1 rfl
  repeat fail "!si"
  rw [show (nvs R).length=R.length by unfold nvs;rw [List.length_map]];exact q _ _ s3 (uAa n6 f1) (Nat.le_refl _) (uAa (Ne.symm n3) f2) (set_same f3) (uAa n5 f4) (f5.set (.inr (.inl rfl)))
 ·refine ⟨(hs.ext (Ext.app _ _)).congr fun j hj=>⟨by simp,rfl⟩,uAl _ _,uAh h3,uAh h2,uAh h1,SFr.refl.ext (Ext.app _ _),by fail "!lk",by fail "!lk",by fail "!lk"⟩
end
noncomputable def cnt(r D:List Nat):Nat:=(r.filter fun j=>!D.contains j).length
theorem uWr{v:Nat}{D:List Nat}(hv:v∉D){r:List Nat}(hn:r.Nodup)(hm:v∈r):cnt r (D++[v])+1=cnt r D:=by
 induction r with
 | nil=>exact absurd hm List.not_mem_nil
 | cons j r ih=>
  have hn':=List.nodup_cons.mp hn;unfold cnt;rw [List.filter_cons,List.filter_cons];by_cases e:j=v
  ·subst e;have h1:(!(D++[j]).contains j)=false:=by simp
   have h2:(!D.contains j)=true:=by simpa using hv
   rw [h1,h2];simp only [Bool.false_eq_true,if_false,if_true,List.length_cons];have:∀ x∈r,(!(D++[j]).contains x)=(!D.contains x):=fun x hx=>by
    have:x≠j:=fun q=>hn'.1 (by rw [← q];exact hx);simp [this]
   rw [List.filter_congr this]
  ·have ih:=ih hn'.2 ((List.mem_cons.mp hm).resolve_left fun q=>e q.symm);unfold cnt at ih;have h1:(!(D++[v]).contains j)=(!D.contains j):=by simp [e]
   rw [h1];cases (!D.contains j)
   ·simpa using ih
   ·simp only [if_true,List.length_cons];omega
theorem uN2{v:Nat}{D r:List Nat}(h:v∉r):cnt r (D++[v])=cnt r D:=by
 unfold cnt
 congr 1
 refine List.filter_congr fun x hx=>?_;have:x≠v:=fun q=>h (by rw [← q];exact hx);simp [this]
theorem uLd{D r:List Nat}:cnt r D=0↔∀ j∈r,j∈D:=by
 unfold cnt;rw [List.length_eq_zero_iff,List.filter_eq_nil_iff];simp
noncomputable def npv(d:Nat→List Nat)(D R:List Nat)(k:Nat):Int:=if k∈D then -2 else if k∈R then -1 else (cnt (d k) D:Nat)
noncomputable def npi(d:Nat→List Nat)(D:List Nat)(v:Nat)(R S:List Nat)(k:Nat):Int:=if k∈D++[v] then -2 else if k∈R then -1 else if k∈S then (cnt (d k) (D++[v]):Nat) else (cnt (d k) D:Nat)
noncomputable def npT(d:Nat→List Nat)(T:List Nat)(k:Nat):Int:=if k∈T then -2 else (cnt (d k) T:Nat)
section
variable {a:Addr}{ns:List Int}{n:Nat}{L:List (Str×AV)}{H:List AO}{Q:AV→St→Prop}
variable {si sd nd b rl:Nat}{po nf:Int}{ord:List Nat}{sc:Nat→List Nat}{ia la:Nat→Nat}
inductive DnI(H:List AO)(b nd si sd rl:Nat)(ord T R:List Nat)(d sc:Nat→List Nat)(ia la:Nat→Nat)(po nf:Int)(t:Nat)(σ:St):Prop
 | mk:SAt σ.H b nd ord (npv d (T++R.take t) R) sc ia la→((∃ X,σ.H[rl]?=some (.list (nvs X))∧uAp X∧∀ k,k∈X↔k<6∧k∉T∧k∉R∧cnt (d k) (T++R.take t)=0))→σ.H[H.length]?=some (.tup (nvs R))→σ.H[sd]?=some (tsD nd (.ref rl) po (nf+t))→σ.H[si]?=some (.inst 192 sd)→SFr sd rl ord ia H σ.H→σ.L.lookup (sn "self")=some (.ref si)→σ.L.lookup (sn "n2i")=some (.ref nd)→DnI H b nd si sd rl ord T R d sc ia la po nf t σ
inductive DnQ(H:List AO)(b nd si sd rl:Nat)(ord T R:List Nat)(d sc:Nat→List Nat)(ia la:Nat→Nat)(po nf:Int)(v t:Nat)(fl:Fl)(σ:St):Prop
 | mk:(fl=Fl.next)→SAt σ.H b nd ord (npi d (T++R.take t) v R (sc v)) sc ia la→((∃ X,σ.H[rl]?=some (.list (nvs X))∧uAp X∧∀ k,k∈X↔k<6∧k∉T∧k∉R∧(if k∈sc v then cnt (d k) (T++R.take t++[v])=0 else cnt (d k) (T++R.take t)=0)))→σ.H[H.length]?=some (.tup (nvs R))→σ.H[sd]?=some (tsD nd (.ref rl) po (nf+t))→σ.H[si]?=some (.inst 192 sd)→SFr sd rl ord ia H σ.H→σ.L.lookup (sn "self")=some (.ref si)→σ.L.lookup (sn "n2i")=some (.ref nd)→DnQ H b nd si sd rl ord T R d sc ia la po nf v t fl σ
inductive DnI2(H:List AO)(b nd si sd rl:Nat)(ord T R:List Nat)(d sc:Nat→List Nat)(ia la:Nat→Nat)(po nf:Int)(v t:Nat)(p:Nat)(σ:St):Prop
 | mk:SAt σ.H b nd ord (npi d (T++R.take t) v R ((sc v).take p)) sc ia la→((∃ X,σ.H[rl]?=some (.list (nvs X))∧uAp X∧∀ k,k∈X↔k<6∧k∉T∧k∉R∧(if k∈(sc v).take p then cnt (d k) (T++R.take t++[v])=0 else cnt (d k) (T++R.take t)=0)))→σ.H[H.length]?=some (.tup (nvs R))→σ.H[sd]?=some (tsD nd (.ref rl) po (nf+t))→σ.H[si]?=some (.inst 192 sd)→SFr sd rl ord ia H σ.H→σ.L.lookup (sn "self")=some (.ref si)→σ.L.lookup (sn "n2i")=some (.ref nd)→DnI2 H b nd si sd rl ord T R d sc ia la po nf v t p σ
theorem uTb{d:Nat→List Nat}{T R:List Nat}(h1:H[si]?=some (.inst 192 sd))(h2:H[sd]?=some (tsD nd (.ref rl) po nf))(h3:H[rl]?=some (.list []))(hs:SAt H b nd ord (npv d T R) sc ia la)(hR:uAp R)(hord:∀ k<6,k∈ord)(hla:∀ k∈ord,la k≠rl)
  (hd:∀ k,uAp (d k)) (hsc:∀ k,uAp (sc k)) (hsd:∀ j<6,∀ k<6,k∈sc j↔j∈d k) (hRT:∀ k∈R,k∉T) (hTR:∀ k,k∈T∨k∈R→∀ j∈d k,j∈T) (h0:∀ k<6,k∉T→k∉R→cnt (d k) T≠0)
  (q:∀ H' X,SAt H' b nd ord (npT d (T++R)) sc ia la→H'[rl]?=some (.list (nvs X))→uAp X→(∀ k,k∈X↔k∈rdy d (T++R))→H'[sd]?=some (tsD nd (.ref rl) po (nf+R.length))→H'[si]?=some (.inst 192 sd)→SFr sd rl ord ia H H'→H.length≤H'.length→Q .none ⟨L,H'⟩) :
  Ok ((run (PGs a ns) (n+16)).call (fr 175) (.ref si::nvs R)) ⟨L,H⟩ Q:=by
 have hlz:(nvs R).length≤6:=by unfold nvs;rw [List.length_map];exact hR.len
 have hbp:bindP (uAd "TopologicalSorter.done" false ((uBy (top 16)).getD 7 default)) (.ref si::nvs R) ⟨L,H⟩=some (.ok [(sn "self",.ref si),(sn "nodes",.ref H.length)],⟨L,H++[.tup (nvs R)]⟩):=by
  show (if _ then _ else _)=_;rw [if_pos ⟨rfl,by show 1≤(nvs R).length+1;omega,by show (nvs R).length+1≤lz;exact Nat.le_trans (by omega:_≤7) (by decide)⟩];rfl
 refine uSs (f:=uAd "TopologicalSorter.done" false ((uBy (top 16)).getD 7 default)) [(sn "self",.ref si),(sn "nodes",.ref H.length)] rfl hbp rfl rfl rfl ?_;refine uAx ?_
 repeat fail "!si"
 refine uPd (v:=.ref rl) (w:=.none) (b:=false) rfl ?_;refine ⟨fun q=>by (cases q),fun _=>?_⟩
 repeat fail "!si"
 refine uBi (xs:=nvs R) (I:=DnI H b nd si sd rl ord T R d sc ia la po nf) ?_ ?_ ?_ lim 0 _ (Nat.zero_le _) (by rw [Nat.zero_add];exact Nat.lt_of_le_of_lt hlz (by decide)) ?_
 ·rintro p ⟨L',H'⟩ ⟨_,_,h,_⟩;exact uLa h
 ·rintro t vv ⟨L',H'⟩ hv hz;refine Classical.byContradiction fun hn=>?_;obtain ⟨s',⟨X,g2,hX,hXm⟩,g1,g3,g4,g5,l1,l2⟩:=hz;refine hn ?_;clear hn;dsimp only at s' g1 g2 g3 g4 g5 l1 l2;unfold nvs at hv;rw [List.getElem?_map] at hv;generalize hpt:R[t]?=zz;induction zz using Option.casesOn with
  | none=>rw [hpt] at hv;cases hv
  | some v=>
  rw [hpt] at hv;cases hv;have hvR:=List.mem_of_getElem? hpt;have hp6:v<6:=hR.2 v hvR;have hpo:=hord v hp6;have htk:R.take (t+1)=R.take t++[v]:=by rw [List.take_add_one,hpt];rfl
  have hvD:v∉T++R.take t:=fun q=>by
   rcases List.mem_append.mp q with q|q
   ·exact hRT v hvR q
   ·exact uFx hR.1 hpt q
  obtain ⟨e,es,i1,i2⟩:=s'.info v hpo;have hdict:=s'.dict;have s2:=s'.setNp (x:=-2) hpo i1;replace i1:=(show npv d (T++R.take t) R v=-1 by unfold npv;rw [if_neg hvD,if_pos hvR])▸i1
  repeat fail "!si"
  refine uSv (k:=nm v) (t:=some v) hdict ?_;rw [uC2 hp6 hs.ok.2,if_pos hpo,Option.getD_some]
  repeat fail "!si"
  refine uPd (v:=.ref (ia v)) (w:=.none) (b:=false) rfl ?_;refine ⟨fun q=>by (cases q),fun _=>?_⟩
  repeat fail "!si"
  refine ⟨fun q=>by (cases q),fun _=>?_⟩
  repeat fail "!si"
  have n1:ia v≠H.length:=uAi i1 g1 rfl;have n2:ia v≠rl:=uAi i1 g2 rfl;have n3:ia v≠sd:=uAi i1 g3 rfl;have n4:ia v≠si:=uAi i1 g4 rfl;have hset:H'.set (ia v) (AO.slots 95 e ([some (nv v),some (AV.int (-1)),some (AV.ref (la v))].set 1 (some (AV.int (-2)))))=H'.set (ia v) (niO e v (-2) (la v)):=rfl;rw [hset];clear hset;have f1:(H'.set (ia v) (niO e v (-2) (la v)))[H.length]?=some (.tup (nvs R)):=uAa n1 g1;have f2:(H'.set (ia v) (niO e v (-2) (la v)))[rl]?=some (.list (nvs X)):=uAa n2 g2;have f3:(H'.set (ia v) (niO e v (-2) (la v)))[sd]?=some (tsD nd (.ref rl) po (nf+t)):=uAa n3 g3;have f4:(H'.set (ia v) (niO e v (-2) (la v)))[si]?=some (.inst 192 sd):=uAa n4 g4;have f5:SFr sd rl ord ia H (H'.set (ia v) (niO e v (-2) (la v))):=g5.set (.inr (.inr (.inl ⟨v,hpo,rfl⟩)));have s3:SAt (H'.set (ia v) (niO e v (-2) (la v))) b nd ord (npi d (T++R.take t) v R []) sc ia la:=s2.congr fun k hk=>⟨by
   unfold npi npv;by_cases q:k=v
   ·subst q;simp
   ·simp [q],rfl⟩
  generalize H'.set (ia v) (niO e v (-2) (la v))=H2 at *;clear s2 i1 i2 n1 n2 n3 n4 g1 g2 g3 g4 g5 s' hdict;obtain ⟨e',es',k1,k2⟩:=s3.info v hpo;have k3:=s3.succ v hpo
  repeat fail "!si"
  clear k1 k2 k3;refine uAc (Q':=DnQ H b nd si sd rl ord T R d sc ia la po nf v t)
   (uBi (xs:=nvs (sc v)) (I:=DnI2 H b nd si sd rl ord T R d sc ia la po nf v t) ?_ ?_ ?_ lim 0 _ (Nat.zero_le _) ?_ ⟨s3,⟨X,f2,hX,fun k=>by rw [hXm];simp⟩,f1,f3,f4,f5,by fail "!lk",by fail "!lk"⟩) ?_
  ·rintro p ⟨L3,H3⟩ ⟨h,_⟩;exact uBp (h.succ v hpo)
  ·clear s3 f1 f2 f3 f4 f5 hX hXm;rintro p vv ⟨L3,H3⟩ hv2 hz;refine Classical.byContradiction fun hn=>?_;obtain ⟨s4,⟨X,g2,hX,hXm⟩,g1,g3,g4,g5,l1,l2⟩:=hz;refine hn ?_;clear hn;dsimp only at s4 g1 g2 g3 g4 g5 l1 l2;unfold nvs at hv2;rw [List.getElem?_map] at hv2;generalize hkt:(sc v)[p]?=zz;induction zz using Option.casesOn with
   | none=>rw [hkt] at hv2;cases hv2
   | some k=>
   rw [hkt] at hv2;cases hv2;have hkm:=List.mem_of_getElem? hkt;have hk6:k<6:=(hsc v).2 k hkm;have hko:=hord k hk6;have hvk:v∈d k:=(hsd v hp6 k hk6).mp hkm;have hvT:v∉T:=fun q=>hvD (List.mem_append_left _ q);have hkT:k∉T:=fun q=>hvT (hTR k (.inl q) v hvk);have hkR:k∉R:=fun q=>hvT (hTR k (.inr q) v hvk);have hkD:k∉T++R.take t++[v]:=fun q=>by
    rcases List.mem_append.mp q with q|q
    ·rcases List.mem_append.mp q with q|q
     ·exact hkT q
     ·exact hkR (List.mem_of_mem_take q)
    ·exact hkR (by rw [List.mem_singleton.mp q];exact hvR)
   have hnot:k∉(sc v).take p:=uFx (hsc v).1 hkt;have htk2:(sc v).take (p+1)=(sc v).take p++[k]:=by rw [List.take_add_one,hkt];rfl
   have hcnt:=uWr hvD (hd k).1 hvk;obtain ⟨e4,es4,i1,i2⟩:=s4.info k hko;have hdict:=s4.dict;replace i1:=(show npi d (T++R.take t) v R ((sc v).take p) k=(cnt (d k) (T++R.take t):Nat) by unfold npi;rw [if_neg hkD,if_neg hkR,if_neg hnot])▸i1
   repeat fail "!si"
   refine uFp hdict (k:=nm k) (t:=some k) (v:=.ref (ia k)) (by rw [uC2 hk6 hs.ok.2,if_pos hko]) ?_
   iterate 12 fail "!si"
   have hset:H3.set (ia k) (AO.slots 95 e4 ([some (nv k),some (AV.int (cnt (d k) (T++R.take t):Nat)),some (AV.ref (la k))].set 1 (some (AV.int ((cnt (d k) (T++R.take t):Nat)-1)))))=H3.set (ia k) (niO e4 k (cnt (d k) (T++R.take t++[v]):Nat) (la k)):=by
    rw [show ((cnt (d k) (T++R.take t):Nat):Int)-1=(cnt (d k) (T++R.take t++[v]):Nat) by omega];rfl
   rw [hset];clear hset;have n1:ia k≠H.length:=uAi i1 g1 rfl;have n2:ia k≠rl:=uAi i1 g2 rfl;have n3:ia k≠sd:=uAi i1 g3 rfl;have n4:ia k≠si:=uAi i1 g4 rfl;have s5:=s4.setNp (x:=(cnt (d k) (T++R.take t++[v]):Nat)) hko i1;have f1:(H3.set (ia k) (niO e4 k (cnt (d k) (T++R.take t++[v]):Nat) (la k)))[H.length]?=some (.tup (nvs R)):=uAa n1 g1;have f2:(H3.set (ia k) (niO e4 k (cnt (d k) (T++R.take t++[v]):Nat) (la k)))[rl]?=some (.list (nvs X)):=uAa n2 g2;have f3:(H3.set (ia k) (niO e4 k (cnt (d k) (T++R.take t++[v]):Nat) (la k)))[sd]?=some (tsD nd (.ref rl) po (nf+t)):=uAa n3 g3;have f4:(H3.set (ia k) (niO e4 k (cnt (d k) (T++R.take t++[v]):Nat) (la k)))[si]?=some (.inst 192 sd):=uAa n4 g4;have f5:SFr sd rl ord ia H (H3.set (ia k) (niO e4 k (cnt (d k) (T++R.take t++[v]):Nat) (la k))):=g5.set (.inr (.inr (.inl ⟨k,hko,rfl⟩)));have s6:SAt (H3.set (ia k) (niO e4 k (cnt (d k) (T++R.take t++[v]):Nat) (la k))) b nd ord (npi d (T++R.take t) v R ((sc v).take (p+1))) sc ia la:=s5.congr fun j hj=>⟨by
    rw [htk2];by_cases q:j=k
    ·subst q;unfold npi;rw [if_pos rfl,if_neg hkD,if_neg hkR,if_pos (by simp)]
    ·rw [if_neg q];unfold npi;simp [q],rfl⟩
   generalize H3.set (ia k) (niO e4 k (cnt (d k) (T++R.take t++[v]):Nat) (la k))=H4 at *;clear s5 i1 i2 n1 n2 n3 n4 g1 g2 g3 g4 g5 s4 hdict;obtain ⟨e5,es5,i1,i2⟩:=s6.info k hko;replace i1:=(show npi d (T++R.take t) v R ((sc v).take (p+1)) k=(cnt (d k) (T++R.take t++[v]):Nat) by unfold npi;rw [if_neg hkD,if_neg hkR,htk2,if_pos (by simp)])▸i1;have hmem:∀ j,j≠k→((if j∈(sc v).take p then cnt (d j) (T++R.take t++[v])=0 else cnt (d j) (T++R.take t)=0)↔(if j∈(sc v).take (p+1) then cnt (d j) (T++R.take t++[v])=0 else cnt (d j) (T++R.take t)=0)):=fun j hj=>by
    rw [htk2];simp [hj]
   repeat fail "!si"
   by_cases hz:cnt (d k) (T++R.take t++[v])=0
   ·rewrite [decide_eq_true (show ((cnt (d k) (T++R.take t++[v]):Nat):Int)=0 by omega)];refine ⟨fun _=>?_,fun q=>by (cases q)⟩
    repeat fail "!si"
    refine uAw f2 ?_ ?_
    ·unfold nvs;rw [List.length_map];exact Nat.lt_of_le_of_lt hX.len (by decide)
    have m1:rl≠H.length:=uAi f2 f1 rfl;have m3:rl≠sd:=uAi f2 f3 rfl;have m4:rl≠si:=uAi f2 f4 rfl;have hkX:k∉X:=fun q=>by
     have:=((hXm k).mp q).2.2.2;rw [if_neg hnot] at this;omega
    repeat fail "!si"
    refine ⟨s6.setR f2 hla,⟨X++[k],?_,hX.app ⟨by simp,fun j hj=>by rw [List.mem_singleton.mp hj];exact hk6⟩ fun j hj q=>hkX (by rw [← List.mem_singleton.mp q];exact hj),fun j=>?_⟩,uAa m1 f1,uAa m3 f3,uAa m4 f4,f5.set (.inl rfl),by fail "!lk",by fail "!lk"⟩
    ·rw [set_same f2];unfold nvs;rw [List.map_append];rfl
    ·rw [List.mem_append,List.mem_singleton,hXm];by_cases q:j=k
     ·subst q;rw [if_pos (show j∈(sc v).take (p+1) by rw [htk2];simp)];exact ⟨fun _=>⟨hk6,hkT,hkR,hz⟩,fun _=>.inr rfl⟩
     ·rw [← hmem j q];exact ⟨fun x=>x.elim (fun x=>x) (fun x=>absurd x q),.inl⟩
   ·rewrite [decide_eq_false (show ¬ ((cnt (d k) (T++R.take t++[v]):Nat):Int)=0 by omega)];refine ⟨fun q=>by (cases q),fun _=>?_⟩
    repeat fail "!si"
    refine ⟨s6,⟨X,f2,hX,fun j=>?_⟩,f1,f3,f4,f5,by fail "!lk",by fail "!lk"⟩;rw [hXm];by_cases q:j=k
    ·subst q;rw [if_neg hnot,if_pos (show j∈(sc v).take (p+1) by rw [htk2];simp)];exact ⟨fun x=>by have:=x.2.2.2;omega,fun x=>absurd x.2.2.2 hz⟩
    ·rw [hmem j q]
  ·rintro ⟨L3,H3⟩ hz;refine Classical.byContradiction fun hn=>?_;obtain ⟨s4,⟨X,g2,hX,hXm⟩,g1,g3,g4,g5,l1,l2⟩:=hz;refine hn ?_;clear hn;dsimp only at s4 g1 g2 g3 g4 g5 l1 l2;rw [show (nvs (sc v)).length=(sc v).length by unfold nvs;rw [List.length_map],List.take_length] at s4 hXm
   repeat fail "!si"
   exact ⟨rfl,s4,⟨X,g2,hX,hXm⟩,g1,g3,g4,g5,l1,l2⟩
  ·unfold nvs;rw [List.length_map,Nat.zero_add];exact Nat.lt_of_le_of_lt (hsc v).len (by decide)
  clear s3 f1 f2 f3 f4 f5 hX hXm;rintro fl ⟨L3,H3⟩ ⟨rfl,s4,⟨X,g2,hX,hXm⟩,g1,g3,g4,g5,l1,l2⟩;dsimp only at s4 g1 g2 g3 g4 g5 l1 l2
  repeat fail "!si"
  have n1:sd≠H.length:=uAi g3 g1 rfl;have n2:sd≠rl:=uAi g3 g2 rfl;have n4:sd≠si:=uAi g3 g4 rfl;have s5:=s4.setI (es':=[(sn "_node2info",.ref nd),(sn "_ready_nodes",.ref rl),(sn "_npassedout",.int po),(sn "_nfinished",.int (nf+t+1))]) g3;refine ⟨SAt.congr s5 fun k hk=>⟨?_,rfl⟩,⟨X,uAa n2 g2,hX,fun k=>?_⟩,uAa n1 g1,?_,uAa n4 g4,g5.set (.inr (.inl rfl)),by fail "!lk",by fail "!lk"⟩
  ·rw [htk];unfold npi npv;rw [List.append_assoc];by_cases q1:k∈T++(R.take t++[v])
   ·rw [if_pos q1,if_pos q1]
   ·rw [if_neg q1,if_neg q1];by_cases q2:k∈R
    ·rw [if_pos q2,if_pos q2]
    ·rw [if_neg q2,if_neg q2];by_cases q3:k∈sc v
     ·rw [if_pos q3]
     ·rw [if_neg q3,← List.append_assoc,uN2 fun q=>q3 ((hsd v hp6 k (hs.ok.2 k hk)).mpr q)]
  ·rw [hXm,htk,← List.append_assoc];by_cases q6:k<6
   ·by_cases q3:k∈sc v
    ·rw [if_pos q3]
    ·rw [if_neg q3,uN2 fun q=>q3 ((hsd v hp6 k q6).mpr q)]
   ·exact ⟨fun x=>absurd x.1 q6,fun x=>absurd x.1 q6⟩
  ·rw [set_same g3];have:nf+(t:Int)+1=nf+((t+1:Nat):Int):=by omega
   rw [← this];rfl
 ·rintro ⟨L',H'⟩ hz;refine Classical.byContradiction fun hn=>?_;obtain ⟨s',⟨X,g2,hX,hXm⟩,g1,g3,g4,g5,l1,l2⟩:=hz;refine hn ?_;clear hn;dsimp only at s' g1 g2 g3 g4 g5 l1 l2;have hlen:(nvs R).length=R.length:=by unfold nvs;rw [List.length_map]
  rw [hlen] at g3;rw [hlen,List.take_length] at s' hXm
  repeat fail "!si"
  refine q _ X (s'.congr fun k hk=>⟨?_,rfl⟩) g2 hX (fun k=>?_) g3 g4 g5 (Nat.le_of_lt (uAe g1))
  ·unfold npv npT;by_cases q1:k∈T++R
   ·rw [if_pos q1,if_pos q1]
   ·rw [if_neg q1,if_neg q1,if_neg fun q=>q1 (List.mem_append_right _ q)]
  ·rw [hXm,uC9,uLd,List.mem_append];exact ⟨fun h=>⟨h.1,fun x=>x.elim h.2.1 h.2.2.1,h.2.2.2⟩,fun h=>⟨h.1,fun x=>h.2.1 (.inl x),fun x=>h.2.1 (.inr x),h.2.2⟩⟩
 ·have e0:T++R.take 0=T:=by simp
  refine ⟨(hs.ext (Ext.app _ _)).congr fun j hj=>⟨by rw [e0],rfl⟩,⟨[],uAh h3,uAp.nil,fun k=>⟨fun q=>by (cases q),fun ⟨x1,x2,x3,x4⟩=>?_⟩⟩,uAl _ _,?_,uAh h1,SFr.refl.ext (Ext.app _ _),by fail "!lk",by fail "!lk"⟩
  ·rw [e0] at x4;exact absurd x4 (h0 k x1 x2 x3)
  ·rw [show nf+((0:Nat):Int)=nf by omega];exact uAh h2
end
noncomputable def eR(d:Nat→List Nat)(k:Nat):List Nat:=(List.range 6).filter fun j=>(d k).contains j
theorem uK9(d:Nat→List Nat)(k:Nat):uAp (eR d k):=uAp.range.filter _
theorem uWz{d:Nat→List Nat}(h:∀ k,uAp (d k)){k j:Nat}:j∈eR d k↔j∈d k:=by
 unfold eR;rw [List.mem_filter,List.mem_range];simp only [List.contains_iff_mem];exact ⟨fun q=>q.2,fun q=>⟨(h k).2 j q,q⟩⟩
theorem uLf{d e:Nat→List Nat}{T T':List Nat}(h:∀ k j,j∈e k↔j∈d k)(hT:∀ x,x∈T↔x∈T'):rdy e T=rdy d T':=by
 unfold rdy;refine List.filter_congr fun k hk=>?_;rw [Bool.eq_iff_iff];simp only [Bool.and_eq_true,Bool.not_eq_true',List.all_eq_true,List.contains_iff_mem];refine and_congr ?_ ⟨fun q j hj=>(hT j).mp (q j ((h k j).mpr hj)),fun q j hj=>(hT j).mpr (q j ((h k j).mp hj))⟩;rw [← Bool.not_eq_true,← Bool.not_eq_true,List.contains_iff_mem,List.contains_iff_mem,hT]
theorem uLg{d e:Nat→List Nat}(h:∀ k j,j∈e k↔j∈d k):∀ t,kst e t=kst d t:=by
 intro zz;induction zz with
 | zero=>
  exact rfl
 | succ t ih=>
  show ((kst e t).1++[rdy e (kst e t).2],(kst e t).2++rdy e (kst e t).2)=_;rw [ih,uLf h fun _=>Iff.rfl];rfl
theorem uTk{d e:Nat→List Nat}(h:∀ k j,j∈e k↔j∈d k){t:Nat}(k:Kend e t):Kend d t:=by
 obtain ⟨k1,k2⟩:=k;refine ⟨fun s hs=>?_,?_⟩
 ·rw [← uLg h s,← uLf h fun _=>Iff.rfl];exact k1 s hs
 ·rw [← uLg h t,← uLf h fun _=>Iff.rfl];exact k2
theorem uNk{r T T':List Nat}(hT:∀ x,x∈T↔x∈T'):cnt r T=cnt r T':=by
 unfold cnt
 congr 1
 refine List.filter_congr fun x hx=>?_
 congr 1
 rw [Bool.eq_iff_iff,List.contains_iff_mem,List.contains_iff_mem,hT]
theorem uO3{e:Nat→List Nat}{T T':List Nat}(hT:∀ x,x∈T↔x∈T')(k:Nat):npT e T k=npT e T' k:=by
 unfold npT;rw [uNk hT];by_cases q:k∈T
 ·rw [if_pos q,if_pos ((hT k).mp q)]
 ·rw [if_neg q,if_neg fun p=>q ((hT k).mpr p)]
theorem uVl(r:List Nat):cnt r []=r.length:=by
 unfold cnt;rw [List.filter_eq_self.mpr fun x _=>by simp]
theorem uXv{R X:List Nat}(hR:uAp R)(hX:uAp X)(h:∀ x,x∈R↔x∈X):R.length=X.length:=
 Nat.le_antisymm (hR.1.length_le_of_subset fun x hx=>(h x).mp hx) (hX.1.length_le_of_subset fun x hx=>(h x).mpr hx)
theorem uUq{e:Nat→List Nat}{sc:Nat→List Nat}(hsc:∀ k,uAp (sc k))(he:∀ k,uAp (e k))(hsd:∀ j<6,∀ k<6,k∈sc j↔j∈e k){F:List Nat}(q:FinS sc F):Fin6 e F:=by
 induction F with
 | nil=>trivial
 | cons v F ih=>exact ⟨fun k hk hv=>q.1 k ((hsd v ((he k).2 v hv) k hk).mpr hv),q.2.1,ih q.2.2⟩
theorem uSa{e:Nat→List Nat}{sc:Nat→List Nat}(hsc:∀ k,uAp (sc k))(hsd:∀ j<6,∀ k<6,k∈sc j↔j∈e k){C:List Nat}(h:RingS sc C):Ring e C:=by
 have h6:∀ v∈C,v<6:=fun v hv=>by
  obtain ⟨u,_,hu⟩:=h.2 v hv;exact (hsc u).2 v hu
 exact ⟨h.1,fun v hv=>⟨h6 v hv,by
  obtain ⟨u,hu,hv2⟩:=h.2 v hv;exact ⟨u,hu,(hsd u (h6 u hu) v (h6 v hv)).mp hv2⟩⟩⟩
theorem uLx{e:Nat→List Nat}:∀ t,∀ k∈(kst e t).2,∀ j∈e k,j∈(kst e t).2:=by
 intro zz;induction zz with
 | zero=>
  intro k hk _ _;cases hk
 | succ t ih=>
  intro k hk j hj;rcases List.mem_append.mp hk with q|q
  ·exact List.mem_append_left _ (ih k q j hj)
  ·exact List.mem_append_left _ ((uC9.mp q).2.2 j hj)
theorem uNw:∀ m<64,∀ j<6,decide (Builtin.bitAnd ((m:Nat):Int) ((2 ^ j:Nat):Int)=0)=!m.testBit j:=by decide +kernel
theorem uP6:∀ m<64,∀ D<64,decide (Builtin.bitAnd ((m:Nat):Int) (Builtin.bitNot ((D:Nat):Int))=0)=(List.range 6).all fun j=>!m.testBit j||D.testBit j:=by decide +kernel
theorem uRv{k:Nat}(hk:k<6):∀ {R:List Nat},(∀ j∈R,j<6)→anyO (isS (nm k)) (nvs R)=some (decide (k∈R)):=by
 intro zz;induction zz with
 | nil=>
  intro _;exact congrArg some (decide_eq_false List.not_mem_nil).symm
 | cons j R ih=>
  intro h;show (anyO (isS (nm k)) (nvs R)).map (fun b=>decide (nm j=nm k)||b)=_;rw [ih fun i hi=>h i (.tail _ hi)];show some (decide (nm j=nm k)||decide (k∈R))=_
  congr 1
  by_cases e:k=j
  ·subst e;simp
  ·have:¬ nm j=nm k:=fun q=>e (uDl j (h j (.head _)) k hk q).symm;rw [decide_eq_false this];simp [e]
theorem uKr{k:Nat}(hk:k<6){R:List Nat}(h:∀ j∈R,j<6):memA (nv k) (nvs R)=some (decide (k∈R)):=uRv hk h
theorem uNd{f:AV→AV→Option Bool}:∀ {xs:List AV},(∀ x∈xs,f x x=some true)→goEq f xs xs=some true:=by
 intro zz;induction zz with
 | nil=>
  intro _;exact rfl
 | cons x xs ih=>
  intro h;show (f x x).bind _=_;rw [h x (.head _)];exact congrArg (Option.map _) (ih fun y hy=>h y (.tail _ hy))
theorem uIl{H:List AO}{n i j:Nat}{xs:List AV}(h1:H[i]?=some (.list xs))(h2:H[j]?=some (.list xs))(h:∀ x∈xs,eqA n H x x=some true):eqA (n+1) H (.ref i) (.ref j)=some true:=by
 show eqO (eqA n H) H[i]? H[j]?=_;rw [h1,h2];exact (if_pos rfl).trans (uNd h)
theorem uM5{H:List AO}{n i j:Nat}{X:List Nat}(hX:∀ k∈X,k<6)(h1:H[i]?=some (.list (nvs X)))(h2:H[j]?=some (.list (nvs X))):eqA (n+2) H (.ref i) (.ref j)=some true:=by
 refine uIl h1 h2 fun x hx=>?_;unfold nvs at hx;obtain ⟨k,hk,rfl⟩:=List.mem_map.mp hx;rw [uPx n H (hX k hk) (hX k hk),decide_eq_true rfl]
inductive AtM(ra rl:Nat)(H:List AO)(vs:List AV)(t:Nat)(o:AO):Prop
 | mk (i:Nat):vs[t]?=some (.ref i)→ra≠i→rl<i→H[i]?=some o→AtM ra rl H vs t o
inductive RmAt(H:List AO)(rl ra:Nat)(rs:List (List AV)):Prop
 | mk:ra≠rl→∀ vs:List AV,H[ra]?=some (.list vs)→vs.length=rs.length→(∀ (t:Nat) xs,rs[t]?=some xs→AtM ra rl H vs t (.list xs))→RmAt H rl ra rs
section
variable {H H':List AO}{rl ra sd nd b:Nat}{rs:List (List AV)}{ord:List Nat}{np:Nat→Int}{sc:Nat→List Nat}{ia la:Nat→Nat}{es:List (Str×AV)}
theorem RmAt.lists(h:RmAt H rl ra rs):uCc H ra rs:=by
 obtain ⟨_,vs,h1,h2,h3⟩:=h;refine ⟨vs,h1,h2,fun t xs e=>?_⟩;obtain ⟨i,a,_,_,c⟩:=h3 t xs e;exact ⟨i,a,c⟩
theorem RmAt.map(h:RmAt H rl ra rs)(m:∀ i xs,i≠rl→H[i]?=some (.list xs)→H'[i]?=some (.list xs)):RmAt H' rl ra rs:=by
 obtain ⟨h0,vs,h1,h2,h3⟩:=h;refine ⟨h0,vs,m _ _ h0 h1,h2,fun t xs e=>?_⟩;obtain ⟨i,a,b,b',c⟩:=h3 t xs e;exact ⟨i,a,b,b',m _ _ (by omega) c⟩
theorem SAt.map(h:SAt H b nd ord np sc ia la)(m:∀ (i:Nat) (o:AO),hot o=true→H[i]?=some o→H'[i]?=some o):SAt H' b nd ord np sc ia la:=
 ⟨m _ _ rfl h.dict,h.ok,fun k hk=>by
  obtain ⟨e,es,a,c⟩:=h.info k hk;exact ⟨e,es,m _ _ rfl a,m _ _ rfl c⟩,fun k hk=>m _ _ rfl (h.succ k hk),h.inj,h.low⟩
theorem RmAt.ext(h:RmAt H rl ra rs)(x:Ext H H'):RmAt H' rl ra rs:=h.map fun i xs _ g=>x _ _ g
theorem RmAt.setC{c:Nat}{o v:Option AV}(h:RmAt H rl ra rs)(hc:H[c]?=some (.cell o)):RmAt (H.set c (.cell v)) rl ra rs:=
 h.map fun i xs _ g=>uAa (uAi hc g rfl) g
theorem SFr.cell{c:Nat}{o:Option AV}{xs:List AV}(f:SFr sd rl ord ia H H')(hs:SAt H b nd ord np sc ia la)(h2:H[sd]?=some (.idict es))(h3:H[rl]?=some (.list xs))(hc:H[c]?=some (.cell o)):H'[c]?=some (.cell o):=by
 refine f c _ (uAi hc h3 rfl) (uAi hc h2 rfl) (fun k hk q=>?_) hc;obtain ⟨e,es,i1,_⟩:=hs.info k hk;rw [q,i1] at hc;cases hc
theorem SFr.list{c:Nat}{xs:List AV}(f:SFr sd rl ord ia H H')(hs:SAt H b nd ord np sc ia la)(h2:H[sd]?=some (.idict es))(hn:c≠rl)(hc:H[c]?=some (.list xs)):H'[c]?=some (.list xs):=by
 refine f c _ hn (uAi hc h2 rfl) (fun k hk q=>?_) hc;obtain ⟨e,es,i1,_⟩:=hs.info k hk;rw [q,i1] at hc;cases hc
theorem SFr.out{H0:List AO}(f:SFr sd rl ord ia H H')(x:Ext H0 H)(h1:H0.length≤rl)(h2:H0.length≤sd)(h3:∀ k∈ord,H0.length≤ia k):Ext H0 H':=fun i o g=>by
 have:=uAe g;exact f i o (by omega) (by omega) (fun k hk q=>by have:=h3 k hk;omega) (x i o g)
theorem RmAt.push{i:Nat}{xs:List AV}(h:RmAt H rl ra rs)(hi:H[i]?=some (.list xs))(ne:ra≠i)(hl:rl<i) :
  ∃ vs,H[ra]?=some (.list vs)∧vs.length=rs.length∧RmAt (H.set ra (.list (vs++[.ref i]))) rl ra (rs++[xs]):=by
 obtain ⟨h0,vs,h1,h2,h3⟩:=h;refine ⟨vs,h1,h2,h0,_,set_same h1,by simp [h2],fun t ys e=>?_⟩;rcases Nat.lt_or_ge t rs.length with q|q
 ·rw [List.getElem?_append_left q] at e;obtain ⟨j,a,b,b',c⟩:=h3 t ys e;exact ⟨j,by rw [List.getElem?_append_left (by omega)];exact a,b,b',uAa b c⟩
 ·rw [List.getElem?_append_right q] at e;have:t=rs.length:=by
   rcases Nat.lt_or_ge (t-rs.length) 1 with p|p
   ·omega
   ·rw [List.getElem?_eq_none (by simpa using p)] at e;cases e
  subst this;simp at e;subst e;exact ⟨i,by rw [← h2];simp,ne,hl,uAa ne hi⟩
end
noncomputable def rndF(cn cne cd ck cr:Nat):FE:={ scope:=(uAd "_law_rounds" false (top 31)).scope,cells:=[(sn "names",cn),(sn "needs",cne),(sn "done",cd),(sn "k",ck),(sn "ready",cr)] }
structure RI(H0:List AO)(e sc:Nat→List Nat)(ia la:Nat→Nat)(ord:List Nat)(cn cne cd cr si sd nd b rl ra na:Nat)(fl:Bool)(t:Nat)(σ:St):Prop where
 x:Ext H0 σ.H
 s:SAt σ.H b nd ord (npT e (kst e t).2) sc ia la
 i2:σ.H[sd]?=some (tsD nd (.ref rl) ((kst e t).2.length:Nat) ((kst e t).2.length:Nat))
 i1:σ.H[si]?=some (.inst 192 sd)
 r : ∃ R,σ.H[rl]?=some (.list (nvs R))∧uAp R∧∀ k,k∈R↔k∈rdy e (kst e t).2
 d : ∃ D:Nat,σ.H[cd]?=some (.cell (some (.int D)))∧D<64∧∀ j<6,D.testBit j=decide (j∈(kst e t).2)
 c1:σ.H[cn]?=some (.cell (some (.ref 1)))
 c2:σ.H[cne]?=some (.cell (some (.ref na)))
 c3 : ∃ o,σ.H[cr]?=some (.cell o)
 rm:RmAt σ.H rl ra ((kst e t).1.map nvs)
 l1:σ.L.lookup (sn "sorter")=some (.ref si)
 l2:σ.L.lookup (sn "rounds")=some (.ref ra)
 l3:σ.L.lookup (sn "ring")=some (.bool fl)
noncomputable def freeB(d:Nat→List Nat)(D k:Nat):Bool:=((List.range 6).all fun j=>!(mk (d k)).testBit j||D.testBit j) && !D.testBit k
theorem uWe{d e:Nat→List Nat}{D:Nat}{T:List Nat}(hd:∀ k,uAp (d k))(heo:∀ k,uAp (e k))(hed:∀ k j,j∈e k↔j∈d k)(hDb:∀ j<6,D.testBit j=decide (j∈T)):(List.range 6).filter (freeB d D)=rdy e T:=by
 unfold rdy;refine List.filter_congr fun k hk=>?_;unfold freeB;rw [hDb k (List.mem_range.mp hk),Bool.and_comm]
 congr 1
 ·rw [Bool.eq_iff_iff];simp
 ·rw [Bool.eq_iff_iff,List.all_eq_true,List.all_eq_true];refine ⟨fun q j hj=>?_,fun q j hj=>?_⟩
  ·have hj6:=(heo k).2 j hj;have p:=q j (List.mem_range.mpr hj6);rw [uHp,hDb j hj6] at p;have hjd:=(hed k j).mp hj;simpa [hjd] using p
  ·have hj6:=List.mem_range.mp hj;rw [uHp,hDb j hj6];by_cases p:j∈d k
   ·have:=q j ((hed k j).mpr p);simpa [p] using this
   ·simp [p]
theorem uCc.ext{H H':List AO}{ra:Nat}{rs:List (List AV)}(h:uCc H ra rs)(x:Ext H H'):uCc H' ra rs:=by
 obtain ⟨vs,h1,h2,h3⟩:=h;refine ⟨vs,x _ _ h1,h2,fun t xs e=>?_⟩;obtain ⟨i,a,c⟩:=h3 t xs e;exact ⟨i,a,x _ _ c⟩
section
variable {a:Addr}{ns:List Int}{n:Nat}{L0:List (Str×AV)}{H0:List AO}{Q:AV→St→Prop}
variable {cn cne cd ck cr si sd nd b rl ra na:Nat}{fl:Bool}{ord:List Nat}{e d sc:Nat→List Nat}{ia la:Nat→Nat}
inductive RlQ(H7:List AO)(cd si ra:Nat)(fl:Bool)(T R:List Nat)(f:Fl)(σ:St):Prop
 | mk:(f=Fl.next)→uCl cd H7 σ.H→((∃ D':Nat,σ.H[cd]?=some (.cell (some (.int D')))∧D'<64∧∀ j<6,D'.testBit j=decide (j∈T++R)))→σ.L.lookup (sn "sorter")=some (.ref si)→σ.L.lookup (sn "rounds")=some (.ref ra)→σ.L.lookup (sn "ring")=some (.bool fl)→RlQ H7 cd si ra fl T R f σ
inductive RlI(H7:List AO)(cd si ra:Nat)(fl:Bool)(T R:List Nat)(p:Nat)(σ:St):Prop
 | mk:uCl cd H7 σ.H→((∃ D':Nat,σ.H[cd]?=some (.cell (some (.int D')))∧D'<64∧∀ j<6,D'.testBit j=decide (j∈T++R.take p)))→σ.L.lookup (sn "sorter")=some (.ref si)→σ.L.lookup (sn "rounds")=some (.ref ra)→σ.L.lookup (sn "ring")=some (.bool fl)→RlI H7 cd si ra fl T R p σ
theorem uSc{σ:St}(hd:∀ k,uAp (d k))(he:e=eR d)(hn:H0[1]?=some (.list nms))(hna:H0[na]?=some (.list (uEt fun k=>mk (d k))))(hord:∀ k<6,k∈ord)(hla:∀ k∈ord,la k≠rl)(hla2:∀ k∈ord,la k≠ra)(hsc:∀ k,uAp (sc k))(hsd:∀ j<6,∀ k<6,k∈sc j↔j∈e k)
  (b1:H0.length≤rl) (b2:H0.length≤sd) (b3:∀ k∈ord,H0.length≤ia k) (b4:H0.length≤ra) (b5:H0.length≤cd) (b6:H0.length≤cr) (m1:cn≠cr) (m2:cne≠cr) (m3:cd≠cr) (m4:cn≠cd) (m5:cne≠cd)
  (hfl:(fl=false∧∃ F,FinS sc F∧∀ k<6,k∈F)∨(fl=true∧∃ C,RingS sc C)) (h:RI H0 e sc ia la ord cn cne cd cr si sd nd b rl ra na fl 0 σ)
  (q:∀ H' i t,Ext H0 H'→H'[i]?=some (.tup [.ref ra,.bool (decide ((kst d t).2.length<6))])→uCc H' ra ((kst d t).1.map nvs)→Kend d t→Q (.ref i) ⟨L0,H'⟩) :
  Ok (exB (PGs a ns) (run (PGs a ns) (n+22)) (rndF cn cne cd ck cr) ((uAd "_law_rounds" false (top 31)).body.drop 3)) σ (retQ Q L0):=by
 have heo:∀ k,uAp (e k):=fun k=>by rw [he];exact uK9 d k
 have hed:∀ k j,j∈e k↔j∈d k:=fun k j=>by rw [he];exact uWz hd
 refine uAx ?_
 repeat fail "!si"
 refine uAc (Q':=fun f σ=>f=.next∧∃ t,Kend e t∧RI H0 e sc ia la ord cn cne cd cr si sd nd b rl ra na fl t σ)
  (uCj (I:=fun m σ=>∃ t,m+t=7∧(∀ s<t,rdy e (kst e s).2≠[])∧RI H0 e sc ia la ord cn cne cd cr si sd nd b rl ra na fl t σ) ?_ lim 7 _ (by decide) ⟨0,rfl,fun s hs=>by omega,h⟩) ?_
 ·clear h σ;rintro m ⟨L,H⟩ hz;refine Classical.byContradiction fun hn=>?_;obtain ⟨t,hm,hs,⟨x,s,i2,i1,⟨R,hr,hR,hRm⟩,⟨D,hD,hD6,hDb⟩,c1,c2,⟨o3,c3⟩,rm,l1,l2,l3⟩⟩:=hz;refine hn ?_;clear hn;dsimp only at x s i2 i1 hr hD c1 c2 c3 rm l1 l2 l3;have ht6:=uOx hs;have hTo:=uF4 (d:=e) t;generalize hT:(kst e t).2=T at *;refine uEr rfl ?_
  repeat fail "!si"
  refine uNr (a:=a) (ns:=ns) (n:=n+10) i1 i2 hr ?_
  repeat fail "!si"
  by_cases hRe:R=[]
  ·subst hRe;refine ⟨fun q=>by (simp [nvs] at q),fun _=>?_⟩
   repeat fail "!si"
   have hre:rdy e T=[]:=by
    generalize h:rdy e T=zz;induction zz using List.casesOn with
    | nil=>rfl
    | cons y ys=>
     have:=(hRm y).mpr (by rw [h];exact .head _);cases this
   subst hT;exact ⟨rfl,t,⟨hs,hre⟩,x,s,i2,i1,⟨[],hr,hR,hRm⟩,⟨D,hD,hD6,hDb⟩,c1,c2,⟨o3,c3⟩,rm,l1,l2,l3⟩
  have hre:rdy e T≠[]:=fun q=>by
   obtain ⟨y,hy⟩:=List.exists_mem_of_ne_nil _ hRe;have:=(hRm y).mp hy;rw [q] at this;cases this
  rw [decide_eq_true (show nvs R≠[] by unfold nvs;simpa using hRe)];refine ⟨fun _=>?_,fun q=>by (cases q)⟩;have hRT:∀ k∈R,k∉T:=fun k hk=>(uC9.mp ((hRm k).mp hk)).2.1;have hR6:=hR.2;have hlen:R.length=(rdy e T).length:=uXv hR (uBu _ _) hRm;have hn1:=x _ _ hn;have hna1:=x _ _ hna;have hlt1:=uAe hn;have hlt2:=uAe hna;have hlt3:=uAe c1;have hlt4:=uAe c2;have hlt5:=uAe c3;have hlt6:=uAe hD;have hlt7:=uAe hr
  repeat fail "!si"
  refine uJ5 (a:=a) (ns:=ns) (n:=n+6) i1 i2 hr s hR (fun k hk=>hord k (hR6 k hk)) hla ?_;intro H2 tu s2 e1 e2 e3 e4 e5 e6;have hn2:=e6.list s i2 (by omega) hn1;have hna2:=e6.list s i2 (by omega) hna1;have d1:=e6.cell s i2 hr c1;have d2:=e6.cell s i2 hr c2;have d3:=e6.cell s i2 hr c3;have d4:=e6.cell s i2 hr hD;have rm2:RmAt H2 rl ra ((kst e t).1.map nvs):=rm.map fun i xs hi g=>e6.list s i2 hi g;have x2:=e6.out x b1 b2 b3
  repeat fail "!si"
  have f1:(H2.set cr (.cell (some (.ref tu))))[tu]?=some (.tup (nvs R)):=uAa (uAi d3 e1 rfl) e1;have f3:(H2.set cr (.cell (some (.ref tu))))[rl]?=some (.list []):=uAa (uAi d3 e3 rfl) e3;have f4:(H2.set cr (.cell (some (.ref tu))))[sd]?=some (tsD nd (.ref rl) ((T.length:Nat)+R.length) (T.length:Nat)):=uAa (uAi d3 e4 rfl) e4;have f5:(H2.set cr (.cell (some (.ref tu))))[si]?=some (.inst 192 sd):=uAa (uAi d3 e5 rfl) e5;have f6:(H2.set cr (.cell (some (.ref tu))))[1]?=some (.list nms):=uAa (uAi d3 hn2 rfl) hn2;have f7:(H2.set cr (.cell (some (.ref tu))))[na]?=some (.list (uEt fun k=>mk (d k))):=uAa (uAi d3 hna2 rfl) hna2;have f8:(H2.set cr (.cell (some (.ref tu))))[cn]?=some (.cell (some (.ref 1))):=uAa (Ne.symm m1) d1;have f9:(H2.set cr (.cell (some (.ref tu))))[cne]?=some (.cell (some (.ref na))):=uAa (Ne.symm m2) d2;have f10:(H2.set cr (.cell (some (.ref tu))))[cd]?=some (.cell (some (.int D))):=uAa (Ne.symm m3) d4;have f11:(H2.set cr (.cell (some (.ref tu))))[cr]?=some (.cell (some (.ref tu))):=set_same d3;have s3:=s2.setO (v:=.cell (some (.ref tu))) d3 rfl;have rm3:=rm2.setC (v:=some (.ref tu)) d3;have x3:Ext H0 (H2.set cr (.cell (some (.ref tu)))):=x2.set b6;generalize H2.set cr (.cell (some (.ref tu)))=H3 at *;clear e1 e3 e4 e5 e6 hn2 hna2 d1 d2 d3 d4 rm2 x2 s2 rm x s i1 i2 hr hD c1 c2 c3 hn1 hna1;have hlr3:=uAe f3;obtain ⟨vs,v1⟩ : ∃ vs,H3[ra]?=some (.list vs):=by obtain ⟨_,vs,v1,_⟩:=rm3;exact ⟨vs,v1⟩
  have hlra:=uAe v1;have hX:(List.range 6).filter (fun k=>decide (k∈R))=rdy e T:=by
   unfold rdy;refine List.filter_congr fun k hk=>?_;rw [Bool.eq_iff_iff,decide_eq_true_eq,hRm k];unfold rdy;rw [List.mem_filter];exact ⟨fun q=>q.2,fun q=>⟨hk,q⟩⟩
  repeat fail "!si"
  refine uAu rfl (by decide) rfl rfl ?_
  repeat fail "!si"
  refine uAy (xs:=nms) (nvB fun k=>decide (k∈R)) id (by decide) rfl ?_ ?_ ?_ ?_
  ·intro p L H6 x6;exact uBp (x6 _ _ f6)
  ·intro v hv H6 x6;obtain ⟨k,hk,rfl⟩:=uEy hv
   repeat fail "!si"
   refine uXd (x6 _ _ f1) (uKr hk hR6) ?_;exact ⟨rfl,rfl,Ext.refl _⟩
  ·intro v hv hc H6 x6
   repeat fail "!si"
   exact ⟨rfl,rfl,Ext.refl _⟩
  intro H4 x4 e4;rw [uDv,hX] at e4;obtain ⟨ws,w1,w2,w3⟩:=(rm3.ext x4).push e4 (by omega) hlr3;have hwl:ws.length<lz:=by rw [w2,List.length_map,uE3];exact Nat.lt_of_le_of_lt ht6 (by decide)
  repeat fail "!si"
  refine uAw w1 hwl ?_;have hlr4:=uAe e4;have g0:(H4.set ra (.list (ws++[.ref H3.length])))[ra]?=some (.list (ws++[.ref H3.length])):=set_same w1;have g00:(H4.set ra (.list (ws++[.ref H3.length])))[H3.length]?=some (.list (nvs (rdy e T))):=uAa (by omega) e4;have g1:(H4.set ra (.list (ws++[.ref H3.length])))[tu]?=some (.tup (nvs R)):=uAa (uAi v1 f1 rfl) (x4 _ _ f1);have g3:(H4.set ra (.list (ws++[.ref H3.length])))[rl]?=some (.list []):=uAa w3.1 (x4 _ _ f3);have g4:(H4.set ra (.list (ws++[.ref H3.length])))[sd]?=some (tsD nd (.ref rl) ((T.length:Nat)+R.length) (T.length:Nat)):=uAa (uAi v1 f4 rfl) (x4 _ _ f4);have g5:(H4.set ra (.list (ws++[.ref H3.length])))[si]?=some (.inst 192 sd):=uAa (uAi v1 f5 rfl) (x4 _ _ f5);have g6:(H4.set ra (.list (ws++[.ref H3.length])))[1]?=some (.list nms):=uAa (by omega) (x4 _ _ f6);have g7:(H4.set ra (.list (ws++[.ref H3.length])))[na]?=some (.list (uEt fun k=>mk (d k))):=uAa (by omega) (x4 _ _ f7);have g8:(H4.set ra (.list (ws++[.ref H3.length])))[cn]?=some (.cell (some (.ref 1))):=uAa (uAi v1 f8 rfl) (x4 _ _ f8);have g9:(H4.set ra (.list (ws++[.ref H3.length])))[cne]?=some (.cell (some (.ref na))):=uAa (uAi v1 f9 rfl) (x4 _ _ f9);have g10:(H4.set ra (.list (ws++[.ref H3.length])))[cd]?=some (.cell (some (.int D))):=uAa (uAi v1 f10 rfl) (x4 _ _ f10);have g11:(H4.set ra (.list (ws++[.ref H3.length])))[cr]?=some (.cell (some (.ref tu))):=uAa (uAi v1 f11 rfl) (x4 _ _ f11);have s5:=(s3.ext x4).setR (ys:=ws++[.ref H3.length]) w1 hla2;have x5:Ext H0 (H4.set ra (.list (ws++[.ref H3.length]))):=(x3.trans x4).set b4;generalize H4.set ra (.list (ws++[.ref H3.length]))=H5 at *;clear f1 f3 f4 f5 f6 f7 f8 f9 f10 f11 s3 rm3 x3 v1 x4 e4 w1;have hmk:∀ k,mk (d k)<64:=fun k=>uVv _ (hd k).2
  repeat fail "!si"
  have hP:=uWe hd heo hed hDb;refine uAu rfl (by decide) rfl rfl ?_
  repeat fail "!si"
  refine uCu (m:=0) (n:=((6:Nat):Int)) (uAl _ _) (by decide) ?_;refine uAy (xs:=uIi 6) (intB (freeB d D)) id (by decide) rfl ?_ ?_ ?_ ?_
  ·intro p L H6 x6;exact uE8
  ·intro v hv H6 x6;obtain ⟨k,hk,rfl⟩:=uDf hv
   repeat fail "!si"
   refine uEr rfl ?_
   repeat fail "!si"
   refine uAt (x6 _ _ (uAh g7)) (uB5 (uIa _ hk)) ?_
   repeat fail "!si"
   refine uYo (a:=a) (ns:=ns) (n:=n+10) ?_
   repeat fail "!si"
   refine uM0 (a:=a) (ns:=ns) (n:=n+11) ?_
   repeat fail "!si"
   refine uT3 (a:=a) (ns:=ns) (n:=n+12) ?_
   repeat fail "!si"
   rw [uP6 _ (hmk k) _ hD6];cases hb:(List.range 6).all fun j=>!(mk (d k)).testBit j||D.testBit j with
   | false=>
    refine ⟨fun q=>by (cases q),fun _=>⟨?_,rfl,Ext.refl _⟩⟩;show false=freeB d D k;unfold freeB;rw [hb];rfl
   | true=>
    refine ⟨fun _=>?_,fun q=>by (cases q)⟩;refine uEr rfl ?_
    repeat fail "!si"
    refine uEs (a:=a) (ns:=ns) (n:=n+10) hk ?_
    repeat fail "!si"
    refine uM0 (a:=a) (ns:=ns) (n:=n+11) ?_
    repeat fail "!si"
    refine uT3 (a:=a) (ns:=ns) (n:=n+12) ?_
    repeat fail "!si"
    rw [uNw _ hD6 _ hk];refine ⟨?_,rfl,Ext.refl _⟩;show _=freeB d D k;unfold freeB;rw [hb];rfl
  ·intro v hv hc H6 x6
   repeat fail "!si"
   exact ⟨rfl,rfl,Ext.refl _⟩
  intro H6 x6 e6;rw [uE7,List.map_id,hP] at e6;have x6':Ext H5 H6:=(Ext.app _ _).trans x6;have h0:=x6' _ _ g0;have h00:=x6' _ _ g00;have h1:=x6' _ _ g1;have h3:=x6' _ _ g3;have h4:=x6' _ _ g4;have h5:=x6' _ _ g5;have h6:=x6' _ _ g6;have h7:=x6' _ _ g7;have h8:=x6' _ _ g8;have h9:=x6' _ _ g9;have h10:=x6' _ _ g10;have h11:=x6' _ _ g11;have s6:=s5.ext x6';have rm6:=w3.ext x6';have xx6:=x5.trans x6';clear g0 g00 g1 g3 g4 g5 g6 g7 g8 g9 g10 g11 s5 w3 x5
  repeat fail "!si"
  refine uCm (v:=.st (.type "tuple")) (w:=.st (.type "tuple")) (b:=true) rfl ?_;refine ⟨fun q=>by (cases q),fun _=>?_⟩
  repeat fail "!si"
  refine uAt h0 (v:=.ref H3.length) (uEq (by simp)) ?_
  repeat fail "!si"
  rw [show (nvs R).length=R.length by unfold nvs;rw [List.length_map],show (nvs (rdy e T)).length=(rdy e T).length by unfold nvs;rw [List.length_map],hlen,decide_eq_true rfl];refine ⟨fun q=>by (cases q),fun _=>?_⟩
  repeat fail "!si"
  refine uAt h0 (v:=.ref H3.length) (uEq (by simp)) ?_
  repeat fail "!si"
  refine uAu rfl (by decide) rfl rfl ?_
  repeat fail "!si"
  refine uAy (xs:=pl (rdy e T)) (fun _=>true) (intF nv) ?_ rfl ?_ ?_ ?_ ?_
  ·unfold pl;rw [List.length_map];exact Nat.lt_of_le_of_lt (uBu _ _).len (by decide)
  ·intro p L H9 x9;exact uBp (x9 _ _ e6)
  ·intro v hv H9 x9
   repeat fail "!si"
   exact ⟨rfl,rfl,Ext.refl _⟩
  ·intro v hv hc H9 x9;obtain ⟨k,hk,rfl⟩:=uEi hv
   repeat fail "!si"
   refine uAt (xs:=nms) (v:=nv k) (by fail "!hp") (uB5 (uI3 ((uBu _ _).2 k hk))) ?_;exact ⟨rfl,rfl,Ext.refl _⟩
  intro H7 x7 e7;rw [uBf,uLp (uBu _ _).2] at e7
  repeat fail "!si"
  refine uGl (uM5 (n:=6) (uBu _ _).2 (x7 _ _ h00) e7) ?_;refine ⟨fun q=>by (cases q),fun _=>?_⟩
  repeat fail "!si"
  have hR0:=h0;clear e6 e7 h0 h00;have i1:=x7 _ _ h1;have i3:=x7 _ _ h3;have i4:=x7 _ _ h4;have i5:=x7 _ _ h5;have i6:=x7 _ _ h6;have i7:=x7 _ _ h7;have i8:=x7 _ _ h8;have i9:=x7 _ _ h9;have i10:=x7 _ _ h10;have i11:=x7 _ _ h11;have s7:=s6.ext x7;have rm7:=rm6.ext x7;have xx7:=xx6.trans x7;clear h1 h3 h4 h5 h6 h7 h8 h9 h10 h11 s6 rm6 xx6 x7 x6 x6' hR0;have n1:(1:Nat)≠cd:=fun q=>by rw [← q,i6] at i10;cases i10
  refine uAc (Q':=RlQ H7 cd si ra fl T R)
   (uBi (xs:=nvs R) (I:=RlI H7 cd si ra fl T R) ?_ ?_ ?_ lim 0 _ (Nat.zero_le _) ?_ ⟨uCl.refl _ _,⟨D,i10,hD6,fun j hj=>by simpa using hDb j hj⟩,by fail "!lk",by fail "!lk",by fail "!lk"⟩) ?_
  ·rintro p ⟨L8,H8⟩ ⟨x8,_⟩;exact uLa (x8 _ _ (uAi i1 i10 rfl) i1)
  ·rintro p v ⟨L8,H8⟩ hv hz;refine Classical.byContradiction fun hn=>?_;obtain ⟨x8,⟨D',hD',hD6',hDb'⟩,l1',l2',l3'⟩:=hz;refine hn ?_;clear hn;dsimp only at x8 hD' l1' l2' l3';unfold nvs at hv;rw [List.getElem?_map] at hv;generalize hpk:R[p]?=zz;induction zz using Option.casesOn with
   | none=>rw [hpk] at hv;cases hv
   | some k=>
   rw [hpk] at hv;cases hv;have hk6:=hR6 k (List.mem_of_getElem? hpk);have htk:R.take (p+1)=R.take p++[k]:=by rw [List.take_add_one,hpk];rfl
   have j6:=x8 _ _ n1 i6;have j8:=x8 _ _ m4 i8
   repeat fail "!si"
   refine uDs (a:=a) (ns:=ns) (n:=n+5) hk6 j6 ?_
   repeat fail "!si"
   refine uEs (a:=a) (ns:=ns) (n:=n+12) hk6 ?_
   repeat fail "!si"
   refine uW1 (a:=a) (ns:=ns) (n:=n+13) ?_;rw [uJm _ hD6' _ hk6]
   repeat fail "!si"
   refine ⟨x8.setc,⟨D' ||| 2 ^ k,set_same hD',uWl _ _ hD6' hk6,fun j hj=>?_⟩,by fail "!lk",by fail "!lk",by fail "!lk"⟩;rw [Nat.testBit_or,hDb' j hj,Nat.testBit_two_pow,htk,← List.append_assoc];by_cases q:k=j
   ·subst q;simp
   ·rw [decide_eq_false q,Bool.or_false];have q':¬ j=k:=fun x=>q x.symm;simp [q']
  ·rintro ⟨L8,H8⟩ ⟨x8,hDD,l1',l2',l3'⟩;dsimp only at x8 hDD l1' l2' l3';rw [show (nvs R).length=R.length by unfold nvs;rw [List.length_map],List.take_length] at hDD
   repeat fail "!si"
   exact ⟨rfl,x8,hDD,l1',l2',l3'⟩
  ·unfold nvs;rw [List.length_map,Nat.zero_add];exact Nat.lt_of_le_of_lt hR.len (by decide)
  rintro f ⟨L8,H8⟩ ⟨rfl,x8,⟨D',hD',hD6',hDb'⟩,l1',l2',l3'⟩;dsimp only at x8 hD' l1' l2' l3';have hcd:∀ (i:Nat) (o:AO),Nat.beq (tagO o) 7=false→H7[i]?=some o→H8[i]?=some o:=fun i o ho g=>x8 i o (uAi g i10 ho) g;have j1:=hcd _ _ rfl i1;have j3:=hcd _ _ rfl i3;have j4:=hcd _ _ rfl i4;have j5:=hcd _ _ rfl i5;have j8:=x8 _ _ m4 i8;have j9:=x8 _ _ m5 i9;have j11:=x8 _ _ (Ne.symm m3) i11;have s8:=s7.map fun i o ho g=>hcd i o (by cases o<;>first | rfl | cases ho) g;have rm8:RmAt H8 rl ra _:=rm7.map fun i xs _ g=>hcd i _ rfl g;have xx8:Ext H0 H8:=fun i o g=>by
   have:=uAe g;exact x8 i o (by omega) (xx7 i o g)
  repeat fail "!si"
  refine uK4 ?_
  repeat fail "!si"
  refine ⟨tu,nvs R,rfl,.inr j1,?_⟩
  repeat fail "!si"
  rw [List.append_nil];have hTR:∀ k,k∈T∨k∈R→∀ j∈e k,j∈T:=fun k hk j hj=>by
   rcases hk with hk|hk
   ·rw [← hT] at hk ⊢;exact uLx t k hk j hj
   ·exact (uC9.mp ((hRm k).mp hk)).2.2 j hj
  refine uTb (a:=a) (ns:=ns) (n:=n+4) (d:=e) (T:=T) (R:=R) j5 j4 j3 (s8.congr fun k hk=>⟨?_,rfl⟩) hR hord hla heo hsc hsd hRT hTR (fun k hk6 hkT hkR q=>hkR ((hRm k).mpr (uC9.mpr ⟨hk6,hkT,uLd.mp q⟩))) ?_
  ·unfold npT npv;by_cases q:k∈T
   ·have:k∉R:=fun p=>hRT k p q;simp [q,this]
   ·simp [q]
  intro H9 X s9 k3 hX hXm k4 k5 fr9 hl9;have s8':SAt H8 b nd ord (npv e T R) sc ia la:=s8.congr fun k hk=>⟨by
   unfold npT npv;by_cases q:k∈T
   ·have:k∉R:=fun p=>hRT k p q;simp [q,this]
   ·simp [q],rfl⟩
  have hmem:∀ x,x∈T++R↔x∈T++rdy e T:=fun x=>by rw [List.mem_append,List.mem_append,hRm]
  have hT1:(kst e (t+1)).2=T++rdy e T:=by
   show (kst e t).2++rdy e (kst e t).2=_;rw [hT]
  have hT2:(kst e (t+1)).1=(kst e t).1++[rdy e T]:=by
   show (kst e t).1++[rdy e (kst e t).2]=_;rw [hT]
  repeat fail "!si"
  refine ⟨m-1,by omega,t+1,by omega,fun s hs'=>?_,⟨fr9.out xx8 b1 b2 b3,?_,?_,k5,⟨X,k3,hX,fun k=>?_⟩,⟨D',fr9.cell s8' j4 j3 hD',hD6',fun j hj=>?_⟩,fr9.cell s8' j4 j3 j8,fr9.cell s8' j4 j3 j9,⟨_,fr9.cell s8' j4 j3 j11⟩,?_,l1',l2',l3'⟩⟩
  ·rcases Nat.lt_or_ge s t with q|q
   ·exact hs s q
   ·rw [show s=t by omega,hT];exact hre
  ·rw [hT1];exact s9.congr fun k hk=>⟨uO3 hmem k,rfl⟩
  ·rw [hT1,List.length_append,← hlen];rw [show ((T.length+R.length:Nat):Int)=(T.length:Nat)+(R.length:Nat) by omega];exact k4
  ·rw [hT1,hXm,uLf (fun _ _=>Iff.rfl) hmem]
  ·rw [hT1,hDb' j hj];have:=hmem j;by_cases q:j∈T++R
   ·rw [decide_eq_true q,decide_eq_true (this.mp q)]
   ·rw [decide_eq_false q,decide_eq_false fun p=>q (this.mpr p)]
  ·rw [hT2,List.map_append];exact rm8.map fun i xs hi g=>fr9.list s8' j4 hi g
 ·clear h;rintro f ⟨L8,H8⟩ ⟨rfl,t,hk,h⟩;obtain ⟨x,s,i2,i1,r,D,c1,c2,c3,rm,l1,l2,l3⟩:=h;dsimp only at x s i2 i1 c1 c2 rm l1 l2 l3
  repeat fail "!si"
  have hkd:=uTk hed hk;have hlenf:decide ((kst d t).2.length<6)=fl:=by
   rw [← uLg hed t];rcases hfl with ⟨rfl,F,hF,hFa⟩|⟨rfl,C,hC⟩
   ·rw [uTy (fun k _ j hj=>(heo k).2 j hj) (uUq hsc heo hsd hF) hFa hk.2];rfl
   ·exact decide_eq_true (uRw (uSa hsc hsd hC) t)
  refine q _ _ t (x.trans (Ext.app _ _)) ?_ (uCc.ext ?_ (Ext.app _ _)) hkd
  ·rw [hlenf];exact uAl _ _
  ·rw [← uLg hed t];exact rm.lists
end
section
variable {P:uBb}{n:Nat}{F:FE}{σ:St}{E:St→Prop}{x:AX}{p:Pos}
theorem uXu{e:Expr}(h:uCg e=true)(q:Ex ((run P n).ev e F) σ x E):Ex (exS P (run P n) (.Expr e p) F) σ x E:=by
 show Ex (if uCg e=true then M.bind ((run P n).ev e F) (fun _=>M.pure Fl.next) else M.fail) σ x E;rw [h,if_pos rfl];exact uFs q
theorem uYe{o:Expr}{y:Str}{ap:Pos}{args:List Expr}(h:(uCb o&&(ap.endLine==p.line)&&decide (args.length<30)&&(uAz args || !F.hm))=true)
  (q:Ok ((run P n).ev o F) σ fun ov σ=>Ok (getMethod P ov y) σ fun m σ=>(uAz args||uGv P m.1)=true∧Ok (evL (run P n) F args) σ fun vs σ=>Ex (uA0 (run P n) F m.1 (m.2++vs)) σ x E) :
  Ex ((run P (n+1)).ev (.Call (.Attribute o y ap) args [] p) F) σ x E:=by
 show Ex (if (uCb o&&(ap.endLine==p.line)&&decide (args.length<30)&&(uAz args || !F.hm))=true then M.bind ((run P n).ev o F) fun ov=>M.bind (getMethod P ov y) fun m=>
  (if (uAz args||uGv P m.1)=true then M.bind (evL (run P n) F args) fun vs=>uA0 (run P n) F m.1 (m.2++vs) else M.fail) else M.fail) σ x E
 rw [if_pos h];refine uDh (uAc q fun ov σ q=>uDh (uAc q fun m σ q=>?_));rw [if_pos q.1];exact uDh q.2
end
theorem uUh{α:Type}{m:M α}{σ:St}{x:AX}{E E':St→Prop}(h:Ex m σ x E)(i:∀ σ',E σ'→E' σ'):Ex m σ x E':=by
 obtain ⟨σ',e,q⟩:=h;exact ⟨σ',e,i _ q⟩
theorem SAt.extxI{H H':List AO}{b nd sd:Nat}{ord:List Nat}{np:Nat→Int}{sc:Nat→List Nat}{ia la:Nat→Nat}{es es':List (Str×AV)}(h:SAt H b nd ord np sc ia la)(x:uCl sd H H')(h1:H[sd]?=some (.idict es))(h2:H'[sd]?=some (.idict es')):SAt H' b nd ord np sc ia la:=by
 refine ⟨x _ _ (fun q=>by rw [← q,h.dict] at h1;cases h1) h.dict,h.ok,fun k hk=>?_,fun k hk=>x _ _ (fun q=>by rw [← q,h.succ k hk] at h1;cases h1) (h.succ k hk),h.inj,h.low⟩;obtain ⟨e,es2,a,c⟩:=h.info k hk;have a':=x _ _ (fun q=>by rw [← q,a] at h1;cases h1) a;by_cases q:e=sd
 ·subst q;exact ⟨_,es',a',h2⟩
 ·exact ⟨e,es2,a',x _ _ q c⟩
noncomputable def scN(e:Nat→List Nat)(t j:Nat):List Nat:=(List.range t).filter fun k=>(e k).contains j
noncomputable def npN(e:Nat→List Nat)(t j:Nat):Int:=if j<t then ((e j).length:Nat) else 0
theorem uQp(e:Nat→List Nat)(t j:Nat):(if j∈e t then scN e t j++[t] else scN e t j)=scN e (t+1) j:=by
 unfold scN;rw [List.range_succ,List.filter_append];by_cases q:j∈e t
 ·rw [if_pos q];congr 1;simp [q]
 ·rw [if_neg q];simp [q]
theorem uQ7(e:Nat→List Nat)(t j:Nat):(if j=t then npN e t j+(e t).length else npN e t j)=npN e (t+1) j:=by
 unfold npN;by_cases q:j=t
 ·subst q;simp
 ·rw [if_neg q];by_cases p:j<t
  ·rw [if_pos p,if_pos (by omega)]
  ·rw [if_neg p,if_neg (by omega)]
section
variable {a:Addr}{ns:List Int}{n:Nat}{L:List (Str×AV)}{H:List AO}{Q:AV→St→Prop}
inductive RoQ(H4:List AO)(cn ck:Nat)(d:Nat→List Nat)(f:Fl)(σ:St):Prop
 | mk:(f=Fl.next)→∀ (ord:List Nat) (ia la:Nat→Nat),SAt σ.H (cn+10) (cn+5+2) ord (npN (eR d) 6) (scN (eR d) 6) ia la→(∀ k<6,k∈ord)→(∀ i o,i<cn+10→i≠cn+5+2→i≠ck→H4[i]?=some o→σ.H[i]?=some o)→σ.L.lookup (sn "sorter")=some (.ref (cn+5+1))→σ.L.lookup (sn "rounds")=some (.ref (cn+5+3))→σ.L.lookup (sn "ring")=some (.bool false)→RoQ H4 cn ck d f σ
inductive RoI(H4:List AO)(cn ck:Nat)(d:Nat→List Nat)(t:Nat)(σ:St):Prop
 | mk:∀ (ord:List Nat) (ia la:Nat→Nat),SAt σ.H (cn+10) (cn+5+2) ord (npN (eR d) t) (scN (eR d) t) ia la→((∀ j,j∈ord↔j<t∨∃ k,k<t∧j∈eR d k))→(∀ i o,i<cn+10→i≠cn+5+2→i≠ck→H4[i]?=some o→σ.H[i]?=some o)→(∃ o,σ.H[ck]?=some (AO.cell o))→cn+10≤σ.H.length→σ.L.lookup (sn "sorter")=some (.ref (cn+5+1))→σ.L.lookup (sn "rounds")=some (.ref (cn+5+3))→σ.L.lookup (sn "ring")=some (.bool false)→RoI H4 cn ck d t σ
theorem uOc{na:Nat}{d:Nat→List Nat}(hd:∀ k,uAp (d k))(hn:H[1]?=some (.list nms))(hna:H[na]?=some (.list (uEt fun k=>mk (d k))))
  (q:∀ H' i ra t,Ext H H'→H'[i]?=some (.tup [.ref ra,.bool (decide ((kst d t).2.length<6))])→uCc H' ra ((kst d t).1.map nvs)→Kend d t→Q (.ref i) ⟨L,H'⟩) :
  Ok ((run (PGs a ns) (n+34)).call (fr 277) [.ref 1,.ref na]) ⟨L,H⟩ Q:=by
 have hc:bindP (uAd "_law_rounds" false (top 31)) [.ref 1,.ref na] ⟨L,H⟩=some (.ok [(sn "names",.ref 1),(sn "needs",.ref na)],⟨L,H⟩):=rfl;refine uG5 (f:=uAd "_law_rounds" false (top 31)) (H2:=H++[AO.cell (some (.ref 1))]++[AO.cell (some (.ref na))]++[AO.cell none]++[AO.cell none]++[AO.cell none]) []
  [(sn "names",H.length),(sn "needs",(H++[AO.cell (some (.ref 1))]).length),(sn "done",(H++[AO.cell (some (.ref 1))]++[AO.cell (some (.ref na))]).length),(sn "k",(H++[AO.cell (some (.ref 1))]++[AO.cell (some (.ref na))]++[AO.cell none]).length),(sn "ready",(H++[AO.cell (some (.ref 1))]++[AO.cell (some (.ref na))]++[AO.cell none]++[AO.cell none]).length)] rfl hc rfl rfl rfl ?_
 have l1:(H++[AO.cell (some (.ref 1))]).length=H.length+1:=by simp
 have l2:(H++[AO.cell (some (.ref 1))]++[AO.cell (some (.ref na))]).length=H.length+2:=by simp
 have l3:(H++[AO.cell (some (.ref 1))]++[AO.cell (some (.ref na))]++[AO.cell none]).length=H.length+3:=by simp
 have l4:(H++[AO.cell (some (.ref 1))]++[AO.cell (some (.ref na))]++[AO.cell none]++[AO.cell none]).length=H.length+4:=by simp
 have l5:(H++[AO.cell (some (.ref 1))]++[AO.cell (some (.ref na))]++[AO.cell none]++[AO.cell none]++[AO.cell none]).length=H.length+5:=by simp
 have e0:(H++[AO.cell (some (.ref 1))]++[AO.cell (some (.ref na))]++[AO.cell none]++[AO.cell none]++[AO.cell none])[H.length]?=some (AO.cell (some (.ref 1))):=by fail "!hp"
 have e1:(H++[AO.cell (some (.ref 1))]++[AO.cell (some (.ref na))]++[AO.cell none]++[AO.cell none]++[AO.cell none])[(H++[AO.cell (some (.ref 1))]).length]?=some (AO.cell (some (.ref na))):=by fail "!hp"
 have e2:(H++[AO.cell (some (.ref 1))]++[AO.cell (some (.ref na))]++[AO.cell none]++[AO.cell none]++[AO.cell none])[(H++[AO.cell (some (.ref 1))]++[AO.cell (some (.ref na))]).length]?=some (AO.cell none):=by fail "!hp"
 have e3:(H++[AO.cell (some (.ref 1))]++[AO.cell (some (.ref na))]++[AO.cell none]++[AO.cell none]++[AO.cell none])[(H++[AO.cell (some (.ref 1))]++[AO.cell (some (.ref na))]++[AO.cell none]).length]?=some (AO.cell none):=by fail "!hp"
 have e4:(H++[AO.cell (some (.ref 1))]++[AO.cell (some (.ref na))]++[AO.cell none]++[AO.cell none]++[AO.cell none])[(H++[AO.cell (some (.ref 1))]++[AO.cell (some (.ref na))]++[AO.cell none]++[AO.cell none]).length]?=some (AO.cell none):=by fail "!hp"
 have x0:Ext H (H++[AO.cell (some (.ref 1))]++[AO.cell (some (.ref na))]++[AO.cell none]++[AO.cell none]++[AO.cell none]):=by fail "!ex"
 generalize H++[AO.cell (some (.ref 1))]++[AO.cell (some (.ref na))]++[AO.cell none]++[AO.cell none]++[AO.cell none]=H1 at *;generalize (H++[AO.cell (some (.ref 1))]++[AO.cell (some (.ref na))]++[AO.cell none]++[AO.cell none]).length=cr at *;generalize (H++[AO.cell (some (.ref 1))]++[AO.cell (some (.ref na))]++[AO.cell none]).length=ck at *;generalize (H++[AO.cell (some (.ref 1))]++[AO.cell (some (.ref na))]).length=cd at *;generalize (H++[AO.cell (some (.ref 1))]).length=cne at *;generalize hcn:H.length=cn at *;refine uAx ?_
 repeat fail "!si"
 refine uNv (a:=a) (ns:=ns) (n:=n+18) ?_;intro H2 x2 s0 s1 s2 sl;rw [l5] at s0 s1 s2 sl;have c0:=x2 _ _ e0;have c1:=x2 _ _ e1;have c2:=x2 _ _ e2;have c3:=x2 _ _ e3;have c4:=x2 _ _ e4;have hl1:=uAe hn;have hl2:=uAe hna;rw [l5]
 repeat fail "!si"
 rw [sl];have hra:(H2++[AO.list []]++[AO.tup [AV.ref (cn+5+1),AV.ref (cn+5+3),AV.int 0,AV.bool false]])[cn+5+3]?=some (.list []):=by rw [← sl];fail "!hp"
 have hbl:(H2++[AO.list []]++[AO.tup [AV.ref (cn+5+1),AV.ref (cn+5+3),AV.int 0,AV.bool false]]).length=cn+10:=by simp [sl]
 have xb:Ext H2 (H2++[AO.list []]++[AO.tup [AV.ref (cn+5+1),AV.ref (cn+5+3),AV.int 0,AV.bool false]]):=by fail "!ex"
 generalize H2++[AO.list []]++[AO.tup [AV.ref (cn+5+1),AV.ref (cn+5+3),AV.int 0,AV.bool false]]=H3 at *;have g0:(H3.set cd (.cell (some (.int 0))))[cn]?=some (AO.cell (some (.ref 1))):=uAa (by omega) (xb _ _ c0);have g1:(H3.set cd (.cell (some (.int 0))))[cne]?=some (AO.cell (some (.ref na))):=uAa (by omega) (xb _ _ c1);have g2:(H3.set cd (.cell (some (.int 0))))[cd]?=some (AO.cell (some (.int 0))):=set_same (xb _ _ c2);have g3:(H3.set cd (.cell (some (.int 0))))[ck]?=some (AO.cell none):=uAa (by omega) (xb _ _ c3);have g4:(H3.set cd (.cell (some (.int 0))))[cr]?=some (AO.cell none):=uAa (by omega) (xb _ _ c4);have gr:(H3.set cd (.cell (some (.int 0))))[cn+5+3]?=some (.list []):=uAa (by omega) hra;have gd:(H3.set cd (.cell (some (.int 0))))[cn+5]?=some (tsD (cn+5+2) .none 0 0):=uAa (by omega) (xb _ _ s0);have gi:(H3.set cd (.cell (some (.int 0))))[cn+5+1]?=some (.inst 192 (cn+5)):=uAa (by omega) (xb _ _ s1);have gt:(H3.set cd (.cell (some (.int 0))))[cn+5+2]?=some (.dict [] true):=uAa (by omega) (xb _ _ s2);have gl:(H3.set cd (.cell (some (.int 0)))).length=cn+10:=by rw [List.length_set];exact hbl
 have gx:Ext H (H3.set cd (.cell (some (.int 0)))):=((x0.trans x2).trans xb).set (by omega);generalize H3.set cd (.cell (some (.int 0)))=H4 at *;clear c0 c1 c2 c3 c4 s0 s1 s2 sl e0 e1 e2 e3 e4 x0 x2 xb hra hbl;have gn:=gx _ _ hn;have gna:=gx _ _ hna;have heo:∀ k,uAp (eR d k):=uK9 d;have hsc:∀ t j,uAp (scN (eR d) (min t 6) j):=fun t j=>⟨List.Pairwise.filter _ List.nodup_range,fun i hi=>by have:=List.mem_range.mp (List.mem_filter.mp hi).1;omega⟩
 repeat fail "!si"
 refine uCu (m:=0) (n:=((6:Nat):Int)) (uAl _ _) (by decide) ?_;refine uAc (Q':=RoQ H4 cn ck d)
  (uBi (xs:=uIi 6) (I:=RoI H4 cn ck d) ?_ ?_ ?_ lim 0 _ (Nat.zero_le _) (by decide) ?_) ?_
 ·rintro p ⟨L',H'⟩ _;exact uE8
 ·rintro t v ⟨L',H'⟩ hv hz;refine Classical.byContradiction fun hn=>?_;obtain ⟨ord,ia,la,s,hm,fr',⟨o,k3⟩,hle,l1',l2',l3'⟩:=hz;refine hn ?_;clear hn;dsimp only at s fr' k3 hle l1' l2' l3';unfold uIi at hv;rw [List.getElem?_map] at hv;have ht6:t<6:=by
   rcases Nat.lt_or_ge t 6 with p|p
   ·exact p
   ·rw [List.getElem?_eq_none (by simpa using p)] at hv;cases hv
  rw [List.getElem?_range ht6] at hv;cases hv;fail "!si";refine uF1 (i:=ck) (o:=o) rfl rfl k3 ?_;have a0:(H'.set ck (.cell (some (.int t))))[cn]?=some (AO.cell (some (.ref 1))):=uAa (by omega) (fr' _ _ (by omega) (by omega) (by omega) g0);have a1:(H'.set ck (.cell (some (.int t))))[cne]?=some (AO.cell (some (.ref na))):=uAa (by omega) (fr' _ _ (by omega) (by omega) (by omega) g1);have a3:(H'.set ck (.cell (some (.int t))))[ck]?=some (AO.cell (some (.int t))):=set_same k3;have ad:(H'.set ck (.cell (some (.int t))))[cn+5]?=some (tsD (cn+5+2) .none 0 0):=uAa (by omega) (fr' _ _ (by omega) (by omega) (by omega) gd);have ai:(H'.set ck (.cell (some (.int t))))[cn+5+1]?=some (.inst 192 (cn+5)):=uAa (by omega) (fr' _ _ (by omega) (by omega) (by omega) gi);have an:(H'.set ck (.cell (some (.int t))))[1]?=some (.list nms):=uAa (by omega) (fr' _ _ (by omega) (by omega) (by omega) gn);have ana:(H'.set ck (.cell (some (.int t))))[na]?=some (.list (uEt fun k=>mk (d k))):=uAa (by omega) (fr' _ _ (by omega) (by omega) (by omega) gna);have as':=s.setO (v:=.cell (some (.int t))) k3 rfl;have afr:∀ i o,i<cn+10→i≠cn+5+2→i≠ck→H4[i]?=some o→(H'.set ck (.cell (some (.int t))))[i]?=some o:=fun i o b1 b2 b3 g=>uAa (Ne.symm b3) (fr' i o b1 b2 b3 g);have ale:cn+10≤(H'.set ck (.cell (some (.int t)))).length:=by rw [List.length_set];exact hle
  generalize H'.set ck (.cell (some (.int t)))=H5 at *;have hmk:∀ k,mk (d k)<64:=fun k=>uVv _ (hd k).2
  repeat fail "!si"
  refine uAt an (v:=nv t) (uB5 (uI3 ht6)) ?_
  repeat fail "!si"
  refine uK4 ?_
  repeat fail "!si"
  refine uAu rfl (by decide) rfl rfl ?_
  repeat fail "!si"
  refine uAy (xs:=nms) (nvB fun j=>(mk (d t)).testBit j) id (by decide) rfl ?_ ?_ ?_ ?_
  ·intro p L H6 x6;exact uBp (x6 _ _ an)
  ·intro v hv H6 x6;obtain ⟨j,hj,rfl⟩:=uEy hv
   repeat fail "!si"
   refine uAt (x6 _ _ ana) (uB5 (uIa _ ht6)) ?_
   repeat fail "!si"
   refine uDs (a:=a) (ns:=ns) (n:=n+12) hj (x6 _ _ an) ?_
   repeat fail "!si"
   refine uEs (a:=a) (ns:=ns) (n:=n+19) hj ?_
   repeat fail "!si"
   refine uM0 (a:=a) (ns:=ns) (n:=n+20) ?_
   repeat fail "!si"
   refine uT3 (a:=a) (ns:=ns) (n:=n+21) ?_
   repeat fail "!si"
   rw [uNw _ (hmk t) _ hj];refine uPd (b:=decide ((!(mk (d t)).testBit j)=false)) rfl ?_;refine ⟨?_,rfl,Ext.refl _⟩;show _=(mk (d t)).testBit j;cases (mk (d t)).testBit j<;>rfl
  ·intro v hv hc H6 x6
   repeat fail "!si"
   exact ⟨rfl,rfl,Ext.refl _⟩
  intro H6 x6 e6;have hev:(List.range 6).filter (fun j=>(mk (d t)).testBit j)=eR d t:=List.filter_congr fun j _=>by rw [uHp]
  rw [uDv,hev] at e6;refine ⟨_,_,rfl,.inl e6,?_⟩
  repeat fail "!si"
  rw [List.append_nil];refine uXr (a:=a) (ns:=ns) (n:=n) ht6 (heo t) (x6 _ _ ai) (x6 _ _ ad) (by omega) (by omega) (as'.ext x6) (Nat.le_trans ale x6.le) (fun j hj=>?_) (fun j=>?_) ?_
  ·have hj':=fun p=>hj ((hm j).mpr p);have hj1:¬ j<t:=fun p=>hj' (.inl p);refine ⟨by unfold npN;rw [if_neg hj1],?_⟩;unfold scN;rw [List.filter_eq_nil_iff];intro k hk p;exact hj' (.inr ⟨k,List.mem_range.mp hk,List.contains_iff_mem.mp p⟩)
  ·unfold scN;have:=List.length_filter_le (fun k=>(eR d k).contains j) (List.range t);rw [List.length_range] at this;omega
  intro H7 ord7 ia7 la7 s7 fr7 m7 hle7
  repeat fail "!si"
  refine ⟨ord7,ia7,la7,s7.congr fun j hj=>⟨uQ7 _ _ _,uQp _ _ _⟩,fun j=>?_,fun i o b1 b2 b3 g=>fr7 i o b1 b2 (x6 _ _ (afr i o b1 b2 b3 g)),⟨_,fr7 _ _ (by omega) (by omega) (x6 _ _ a3)⟩,(by have:=x6.le;show cn+10≤H7.length;omega),by fail "!lk",by fail "!lk",by fail "!lk"⟩;rw [m7,hm];constructor
  ·rintro ((p | ⟨k,p1,p2⟩) | p | p)
   ·exact .inl (by omega)
   ·exact .inr ⟨k,by omega,p2⟩
   ·exact .inl (by omega)
   ·exact .inr ⟨t,by omega,p⟩
  ·rintro (p | ⟨k,p1,p2⟩)
   ·rcases Nat.lt_or_ge j t with p'|p'
    ·exact .inl (.inl p')
    ·exact .inr (.inl (by omega))
   ·rcases Nat.lt_or_ge k t with p'|p'
    ·exact .inl (.inr ⟨k,p',p2⟩)
    ·rw [show k=t by omega] at p2;exact .inr (.inr p2)
 ·rintro ⟨L',H'⟩ ⟨ord,ia,la,s,hm,fr',⟨o,k3⟩,hle,l1',l2',l3'⟩;dsimp only at s fr' k3 hle l1' l2' l3'
  repeat fail "!si"
  exact ⟨rfl,ord,ia,la,s,fun k hk=>(hm k).mpr (.inl hk),fr',l1',l2',l3'⟩
 ·refine ⟨[],id,id,⟨uAh gt,uAp.nil,fun k hk=>by (cases hk),fun k hk=>by (cases hk),fun k hk=>by (cases hk),by omega,fun k hk=>by (cases hk)⟩,fun j=>⟨fun q=>by (cases q),fun q=>?_⟩,fun i o _ _ _ g=>uAh g,⟨_,uAh g3⟩,by rw [List.length_append,gl];omega,by fail "!lk",by fail "!lk",by fail "!lk"⟩;rcases q with q|⟨k,q,_⟩<;>omega
 rintro f ⟨L7,H7⟩ ⟨rfl,ord,ia,la,s,hord,fr7,m1,m2,m3⟩;dsimp only at s fr7 m1 m2 m3;have k0:=fr7 _ _ (by omega) (by omega) (by omega) g0;have k1:=fr7 _ _ (by omega) (by omega) (by omega) g1;have k2:=fr7 _ _ (by omega) (by omega) (by omega) g2;have k4:=fr7 _ _ (by omega) (by omega) (by omega) g4;have kr:=fr7 _ _ (by omega) (by omega) (by omega) gr;have kd:=fr7 _ _ (by omega) (by omega) (by omega) gd;have ki:=fr7 _ _ (by omega) (by omega) (by omega) gi;have hsc6:∀ j,uAp (scN (eR d) 6 j):=fun j=>hsc 6 j;have hsd:∀ j<6,∀ k<6,k∈scN (eR d) 6 j↔j∈eR d k:=fun j _ k hk=>by
  unfold scN;rw [List.mem_filter,List.mem_range,List.contains_iff_mem];exact ⟨fun p=>p.2,fun p=>⟨hk,p⟩⟩
 have rest:∀ (fl:Bool) (L8:List (Str×AV)) (H8:List AO) (rl:Nat),L8.lookup (sn "sorter")=some (.ref (cn+5+1))→L8.lookup (sn "rounds")=some (.ref (cn+5+3))→L8.lookup (sn "ring")=some (.bool fl)→uCl (cn+5) H7 H8→H8[cn+5]?=some (tsD (cn+5+2) (.ref rl) 0 0)→H7.length≤rl→
   H8[rl]?=some (.list (nvs (ord.filter fun k=>decide (npN (eR d) 6 k=0))))→((fl=false∧∃ F,FinS (scN (eR d) 6) F∧∀ k<6,k∈F)∨(fl=true∧∃ C,RingS (scN (eR d) 6) C))→
   Ok (exB (PGs a ns) (run (PGs a ns) (n+32)) (rndF cn cne cd ck cr) ((uAd "_law_rounds" false (top 31)).body.drop 3)) ⟨L8,H8⟩ (retQ Q L):=by
  intro fl L8 H8 rl m1 m2 m3 x8 hsd8 hrl hrl8 hfl;have hl7:=uAe kr;refine uSc (n:=n+10) (e:=eR d) (H0:=H) (sc:=scN (eR d) 6) (ord:=ord) (ia:=ia) (la:=la) (b:=cn+10) (nd:=cn+5+2) (sd:=cn+5) (si:=cn+5+1) (ra:=cn+5+3) (rl:=rl) (na:=na) (fl:=fl) hd rfl hn hna hord (fun k hk=>?_) (fun k hk=>?_) hsc6 hsd (by omega) (by omega) (fun k hk=>?_) (by omega) (by omega) (by omega) (by omega) (by omega) (by omega) (by omega) (by omega) hfl ⟨?_,?_,hsd8,x8 _ _ (by omega) ki,⟨_,hrl8,s.ok.filter _,fun k=>?_⟩,⟨0,x8 _ _ (by omega) k2,by decide,fun j hj=>by rw [Nat.zero_testBit];rfl⟩,x8 _ _ (by omega) k0,x8 _ _ (by omega) k1,⟨_,x8 _ _ (by omega) k4⟩,⟨by omega,[],x8 _ _ (by omega) kr,rfl,fun t xs e=>by cases e⟩,m1,m2,m3⟩ fun H' i t x h1 h2 h3=>q H' i _ t x h1 h2 h3
  ·have:=uAe (s.succ k hk);omega
  ·have:=(s.low.2 k hk).2;omega
  ·have:=(s.low.2 k hk).1;omega
  ·intro i o g;have hi:=uAe g;exact x8 _ _ (by omega) (fr7 _ _ (by omega) (by omega) (by omega) (gx _ _ g))
  ·refine (s.extxI x8 kd hsd8).congr fun k hk=>⟨?_,rfl⟩
   rw [show (kst (eR d) 0).2=[] from rfl];unfold npN npT;rw [if_pos (s.ok.2 k hk),uVl,if_neg (by intro p;cases p)]
  ·rw [List.mem_filter,decide_eq_true_eq,uC9,show (kst (eR d) 0).2=[] from rfl];constructor
   ·rintro ⟨p1,p2⟩;have hk6:=s.ok.2 k p1;unfold npN at p2;rw [if_pos hk6] at p2;refine ⟨hk6,(by intro p;cases p),fun j hj=>?_⟩;have:(eR d k).length=0:=by omega
    rw [List.eq_nil_of_length_eq_zero this] at hj;cases hj
   ·rintro ⟨p1,p2,p3⟩;refine ⟨hord k p1,?_⟩;unfold npN;rw [if_pos p1];generalize h:eR d k=zz;induction zz using List.casesOn with
    | nil=>rfl
    | cons j r=>
     have:=p3 j (by rw [h];exact .head _);cases this
 have hw:Wp ((run (PGs a ns) (n+30)).call (fr 147) [.ref (cn+5+1)]) ⟨L7,H7⟩ (fun v σ=>σ.L=L7∧∃ rl,uCl (cn+5) H7 σ.H∧σ.H[cn+5]?=some (tsD (cn+5+2) (.ref rl) 0 0)∧H7.length≤rl∧σ.H[rl]?=some (.list (nvs (ord.filter fun k=>decide (npN (eR d) 6 k=0))))∧∃ F,FinS (scN (eR d) 6) F∧∀ k<6,k∈F) .cycL
   (fun σ=>σ.L=L7∧∃ rl,uCl (cn+5) H7 σ.H∧σ.H[cn+5]?=some (tsD (cn+5+2) (.ref rl) 0 0)∧H7.length≤rl∧σ.H[rl]?=some (.list (nvs (ord.filter fun k=>decide (npN (eR d) 6 k=0))))∧∃ C,RingS (scN (eR d) 6) C):=
  uLu (n:=n+10) ki kd s hord hsc6 (fun H' rl x1 x2 x3 x4 x5=>⟨rfl,rl,x1,x2,x3,x4,x5⟩) (fun H' rl x1 x2 x3 x4 x5=>⟨rfl,rl,x1,x2,x3,x4,x5⟩)
 repeat fail "!si"
 rcases hw with hw|hw
 ·refine uM1 rfl ?_
  repeat fail "!si"
  refine uAc hw ?_;rintro v ⟨L8,H8⟩ ⟨rfl,rl,x1,x2,x3,x4,x5⟩;exact uWh (fz (by assumption) (uSt (rest false L8 H8 rl m1 m2 m3 x1 x2 x3 x4 (.inl ⟨rfl,x5⟩))))
 ·refine uMt (x:=.cycL) rfl ⟨rfl,rfl⟩ ?_;refine uZ0 (uKk (uXu rfl (uYe rfl ?_)))
  repeat fail "!si"
  refine uI0 rfl (uUh hw ?_);rintro ⟨L8,H8⟩ hz;refine Classical.byContradiction fun hn=>?_;obtain ⟨rfl,rl,x1,x2,x3,x4,x5⟩:=hz;refine hn ?_;clear hn;refine uZ6 (uAx (uZb rfl rfl (uNm (uSm (uSp (uHv rfl (uWh ?_)))))));exact rest true _ H8 rl (by fail "!lk") (by fail "!lk") (by fail "!lk") x1 x2 x3 x4 (.inr ⟨rfl,x5⟩)
end
theorem uG0.get{R:AV→AV→Prop}{xs ys:List AV}(h:uG0 R xs ys):∀ {t:Nat} {x:AV},xs[t]?=some x→∃ y,ys[t]?=some y∧R x y:=by
 induction h with
 | nil=>intro t x e;simp at e
 | cons r _ ih=>
  intro t x e;induction t using Nat.casesOn with
  | zero=>cases e;exact ⟨_,rfl,r⟩
  | succ t=>exact ih e
inductive RulR(acc:Nat)(v y:AV)(H:List AO):Prop
 | mk (i:Nat) (p1 p2:List Nat):y=.ref i→i≠acc→p1∈uHa→p2∈uHa→H[i]?=some (.tup [.str p1 none,.str p2 none])→RulR acc v y H
theorem uRb{acc:Nat}{H:List AO}{xs ys:List AV}(h:uG0 (fun v y=>RulR acc v y H) xs ys) : ∃ rules:List (List Nat×List Nat),ys.length=rules.length∧(∀ r∈rules,r.1∈uHa∧r.2∈uHa)∧∀ (t:Nat) pq,rules[t]?=some pq→At0 H ys t (.tup [.str pq.1 none,.str pq.2 none]):=by
 induction h with
 | nil=>exact ⟨[],rfl,(fun r hr=>by cases hr),(fun t pq e=>by simp at e)⟩
 | cons r _ ih=>
  obtain ⟨rules,h1,h2,h3⟩:=ih;obtain ⟨i,p1,p2,rfl,_,hp1,hp2,hi⟩:=r;refine ⟨(p1,p2)::rules,by simp [h1],fun r hr=>?_,fun t pq e=>?_⟩
  ·rcases List.mem_cons.mp hr with rfl|hr
   ·exact ⟨hp1,hp2⟩
   ·exact h2 r hr
  ·induction t using Nat.casesOn with
   | zero=>cases e;exact ⟨i,rfl,hi⟩
   | succ t=>obtain ⟨i,a,b⟩:=h3 t pq e;exact ⟨i,a,b⟩
theorem uS5{f:AV→AV→Option Bool}{xs ys:List AV}(h:xs.length=ys.length)(q:∀ (t:Nat) x y,xs[t]?=some x→ys[t]?=some y→f x y=some true):goEq f xs ys=some true:=by
 induction xs generalizing ys with
 | nil=>
  induction ys using List.casesOn with
  | nil=>rfl
  | cons=>cases h
 | cons x xs ih=>
  induction ys using List.casesOn with
  | nil=>cases h
  | cons y ys=>
  show (f x y).bind _=_;rw [q 0 x y rfl rfl];exact congrArg (Option.map _) (ih (Nat.succ.inj h) fun t a b h1 h2=>q (t+1) a b h1 h2)
theorem uSn{H:List AO}{n i j:Nat}{xs ys:List AV}(h1:H[i]?=some (.list xs))(h2:H[j]?=some (.list ys))(hl:xs.length=ys.length)(h:∀ (t:Nat) x y,xs[t]?=some x→ys[t]?=some y→eqA n H x y=some true):eqA (n+1) H (.ref i) (.ref j)=some true:=by
 show eqO (eqA n H) H[i]? H[j]?=_;rw [h1,h2];exact (if_pos hl).trans (uS5 hl h)
theorem uQs{H:List AO}{n i j:Nat}{x1 x2 y1 y2:AV}(h1:H[i]?=some (.tup [x1,x2]))(h2:H[j]?=some (.tup [y1,y2]))(h:eqA n H x1 y1=some true)(h':eqA n H x2 y2=some true):eqA (n+1) H (.ref i) (.ref j)=some true:=by
 show eqO (eqA n H) H[i]? H[j]?=_;rw [h1,h2];show (eqA n H x1 y1).bind (fun a=>((eqA n H x2 y2).bind fun c=>some (c&&true)).map fun b=>a&&b)=_;rw [h,h'];rfl
theorem uNo{H:List AO}{n:Nat}{x:Int}:eqA n H (.int x) (.int x)=some true:=by
 cases n<;>exact congrArg some (decide_eq_true rfl)
theorem uUk{H:List AO}{n:Nat}{x:Bool}:eqA n H (.bool x) (.bool x)=some true:=by
 cases n<;>exact congrArg some (decide_eq_true rfl)
theorem uVq{H:List AO}{n i j:Nat}{f:Nat→Nat}(h1:H[i]?=some (.list (uEt f)))(h2:H[j]?=some (.list (uEt f))):eqA (n+1) H (.ref i) (.ref j)=some true:=by
 refine uIl h1 h2 fun x hx=>?_;unfold uEt at hx;obtain ⟨k,hk,rfl⟩:=List.mem_map.mp hx;exact uNo
theorem uN0{H:List AO}{n i j:Nat}{rs:List (List Nat)}(hr:∀ X∈rs,∀ k∈X,k<6)(h1:uCc H i (rs.map nvs))(h2:uCc H j (rs.map nvs)):eqA (n+3) H (.ref i) (.ref j)=some true:=by
 obtain ⟨vs,a1,a2,a3⟩:=h1;obtain ⟨ws,b1,b2,b3⟩:=h2;refine uSn a1 b1 (by rw [a2,b2]) fun t x y hx hy=>?_;have ht:t<rs.length:=by
  rw [List.length_map] at a2;rw [← a2];rcases Nat.lt_or_ge t vs.length with q|q
  ·exact q
  ·rw [List.getElem?_eq_none q] at hx;cases hx
 have e:(rs.map nvs)[t]?=some (nvs rs[t]):=by rw [List.getElem?_map,List.getElem?_eq_getElem ht];rfl
 obtain ⟨i',c1,c2⟩:=a3 t _ e;obtain ⟨j',d1,d2⟩:=b3 t _ e;rw [c1] at hx;cases hx;rw [d1] at hy;cases hy;exact uM5 (hr _ (List.getElem_mem ht)) c2 d2
theorem uVp{d:Nat→List Nat}:∀ t,∀ X∈(kst d t).1,∀ k∈X,k<6:=by
 intro zz;induction zz with
 | zero=>
  intro X h _ _;cases h
 | succ t ih=>
  intro X h k hk;rcases List.mem_append.mp h with h|h
  ·exact ih X h k hk
  ·rw [List.mem_singleton.mp h] at hk;exact (uBu _ _).2 k hk
theorem uP1(rs:List (List Nat)):(rs.map nvs).flatten=nvs rs.flatten:=by
 unfold nvs;rw [List.map_flatten]
noncomputable def one(T:List Nat)(k:Nat):Nat:=if k∈T then 1 else 0
theorem uIy{k:Nat}:∀ {T:List Nat},T.Nodup→(nvs T).countP (nvB fun j=>decide (j=k))=one T k:=by
 intro zz;induction zz with
 | nil=>
  intro _;exact rfl
 | cons j T ih=>
  intro h;have hn:=List.nodup_cons.mp h;show (nv j::nvs T).countP _=_;rw [List.countP_cons,ih hn.2];show one T k+(if decide (j=k)=true then 1 else 0)=one (j::T) k;unfold one;by_cases e:j=k
  ·subst e;simp [hn.1]
  ·have:¬ k=j:=fun q=>e q.symm;simp [e,this]
inductive CntR(acc:Nat)(T:List Nat)(v y:AV)(H:List AO):Prop
 | mk (i k:Nat):v=nv k→y=.ref i→i≠acc→k<6→H[i]?=some (.list [.int (one T k:Nat),.int (2*one T k:Nat)])→CntR acc T v y H
theorem count2{T:List Nat}(h:T.Nodup)(k:Nat):(nvs (T++T)).countP (nvB fun j=>decide (j=k))=2*one T k:=by
 unfold nvs;rw [List.map_append,List.countP_append];have:=uIy (k:=k) h;unfold nvs at this;omega
theorem uU2{acc acc' n i j:Nat}{T:List Nat}{H:List AO}{ys zs:List AV}(h1:uG0 (fun v y=>CntR acc T v y H) nms ys)(h2:uG0 (fun v y=>CntR acc' T v y H) nms zs)(hi:H[i]?=some (.list ys))(hj:H[j]?=some (.list zs)):eqA (n+2) H (.ref i) (.ref j)=some true:=by
 refine uSn hi hj (by rw [h1.len,h2.len]) fun t y z hy hz=>?_;have ht:t<nms.length:=by
  rw [← h1.len];rcases Nat.lt_or_ge t ys.length with q|q
  ·exact q
  ·rw [List.getElem?_eq_none q] at hy;cases hy
 obtain ⟨y',a1,i',k,a2,rfl,_,hk,a5⟩:=h1.get (List.getElem?_eq_getElem ht);obtain ⟨z',b1,j',k',b2,rfl,_,hk',b5⟩:=h2.get (List.getElem?_eq_getElem ht);rw [a1] at hy;cases hy;rw [b1] at hz;cases hz;have hkk:k=k':=by
  rw [a2] at b2;injection b2 with b2;exact uDl k hk k' hk' b2
 subst hkk;refine uIl a5 b5 fun x hx=>?_;simp at hx;rcases hx with rfl|rfl<;>exact uNo
section
variable {a:Addr}{ns:List Int}{n:Nat}{L:List (Str×AV)}{H:List AO}{Q:AV→St→Prop}
theorem uYv{lo hi:Option Int}(q:Q (.ref H.length) ⟨L,H++[.list (cut (ns.map AV.int) lo hi)]⟩):Ok (uBh (PGs a ns) (.st (.ref a)) lo hi) ⟨L,H⟩ Q:=
 ⟨_,_,by unfold uBh;exact if_pos rfl,q⟩
theorem uKw{i k:Nat}{T:List Nat}(hT:∀ j∈T,j<6)(hk:k<6)(h:H[i]?=some (.list (nvs T)))(z:T.length<lim)(q:Q (.int ((nvs T).countP (nvB fun j=>decide (j=k)))) ⟨L,H⟩) :
  Ok ((run (PGs a ns) (n+12)).call (fr 245) [.ref i,nv k]) ⟨L,H⟩ Q:=by
 refine uL8 (nvB fun j=>decide (j=k)) h (by unfold nvs;rw [List.length_map];exact z) (fun x hx=>?_) q;unfold nvs at hx;obtain ⟨j,hj,rfl⟩:=List.mem_map.mp hx;exact ⟨uYs (hT j hj) hk,uPx 7 H (hT j hj) hk⟩
theorem cut3{xs:List AV}:(cut xs none (some 3)).length≤3:=by
 unfold cut bnd;simp;omega
end
set_option maxHeartbeats 4000000 in
theorem pure_law(a:Addr)(ns:List Int)(n:Nat):Ok (exB (PGs a ns) (run (PGs a ns) (n+40)) lawF (uFm.body.drop 1)) (lawSt a) fun fl _=>fl=.ret (.bool true):=by
 unfold lawSt;have hn:([AO.cell none,AO.list nms]:List AO)[1]?=some (.list nms):=rfl;have hc:([AO.cell none,AO.list nms]:List AO)[0]?=some (.cell none):=rfl;generalize [AO.cell none,AO.list nms]=H at *;refine uAx ?_
 repeat fail "!si"
 refine uAu rfl (by decide) rfl rfl ?_
 repeat fail "!si"
 refine uYv ?_
 repeat fail "!si"
 have hx3:=cut3 (xs:=ns.map AV.int);refine uJc (uAh (uAl _ _)) (uAl _ _) ?_ ?_
 ·rw [List.length_append];exact Nat.le_trans (by show _+3≤6;omega) (by decide:6≤lz)
 have hxs:∀ v∈cut (ns.map AV.int) none (some 3)++[AV.int 12826,AV.int 3363,AV.int 15885],∃ x,v=.int x:=by
  intro v hv;rcases List.mem_append.mp hv with hv|hv
  ·have:v∈ns.map AV.int:=by
    unfold cut at hv;exact List.mem_of_mem_take (List.mem_of_mem_drop hv)
   obtain ⟨x,_,rfl⟩:=List.mem_map.mp this;exact ⟨x,rfl⟩
  ·simp at hv;rcases hv with rfl|rfl|rfl<;>exact ⟨_,rfl⟩
 have hxl:(cut (ns.map AV.int) none (some 3)++[AV.int 12826,AV.int 3363,AV.int 15885]).length≤6:=by rw [List.length_append];show _+3≤6;omega
 have y1:Ext H (H++[AO.list (cut (ns.map AV.int) none (some 3))]++[AO.list [AV.int 12826,AV.int 3363,AV.int 15885]]++[AO.list (cut (ns.map AV.int) none (some 3)++[AV.int 12826,AV.int 3363,AV.int 15885])]):=by fail "!ex"
 have e1:(H++[AO.list (cut (ns.map AV.int) none (some 3))]++[AO.list [AV.int 12826,AV.int 3363,AV.int 15885]]++[AO.list (cut (ns.map AV.int) none (some 3)++[AV.int 12826,AV.int 3363,AV.int 15885])])[(H++[AO.list (cut (ns.map AV.int) none (some 3))]++[AO.list [AV.int 12826,AV.int 3363,AV.int 15885]]).length]?=some (.list (cut (ns.map AV.int) none (some 3)++[AV.int 12826,AV.int 3363,AV.int 15885])):=uAl _ _;generalize H++[AO.list (cut (ns.map AV.int) none (some 3))]++[AO.list [AV.int 12826,AV.int 3363,AV.int 15885]]++[AO.list (cut (ns.map AV.int) none (some 3)++[AV.int 12826,AV.int 3363,AV.int 15885])]=H1 at *;generalize (H++[AO.list (cut (ns.map AV.int) none (some 3))]++[AO.list [AV.int 12826,AV.int 3363,AV.int 15885]]).length=xl at *;generalize cut (ns.map AV.int) none (some 3)++[AV.int 12826,AV.int 3363,AV.int 15885]=xs at *
 repeat fail "!si"
 refine uIj (xs:=xs) (fun _=>true) (RulR H1.length) (Nat.lt_of_le_of_lt hxl (by decide)) rfl ?_ ?_ ?_ ?_ ?_
 ·rintro v y A B x ⟨i,p1,p2,q1,q2,q3,q4,q5⟩;exact ⟨i,p1,p2,q1,q2,q3,q4,x _ _ q2 q5⟩
 ·intro p L H' x;exact uBp (x _ _ e1)
 ·intro v hv H' x
  repeat fail "!si"
  exact ⟨rfl,rfl,Ext.refl _⟩
 ·intro v hv _ H' hl x;obtain ⟨z,rfl⟩:=hxs v hv
  repeat fail "!si"
  refine uVx (a:=a) (ns:=ns) (n:=n+19) ?_;intro H2 i p1 p2 x2 hi q1 q2 q3;exact ⟨⟨i,p1,p2,rfl,by omega,q1,q2,q3⟩,rfl,x2⟩
 intro H2 ys x2 e2 hal;rw [uBf] at hal;obtain ⟨rules,r1,r2,r3⟩:=uRb hal;have hrl:rules.length<lim:=by rw [← r1,hal.len];exact Nat.lt_of_le_of_lt hxl (by decide)
 have z2:=y1.trans x2;have hn2:=z2 _ _ hn;have hc2:=z2 _ _ hc;have hrs:uGc H2 H1.length rules:=⟨ys,e2,r1,r3⟩
 clear y1 e1 hn hc x2
 repeat fail "!si"
 refine uPr (a:=a) (ns:=ns) (n:=n+4) hn2 hrs r2 hrl ?_;intro H3 nd x3 _ e3;have hrow:(fun k=>rules.foldl (nRow k) 0)=fun k=>mk (rules.foldl (uH8 k) []):=funext fun k=>uXx k rules [];rw [hrow] at e3;have hrs3:uGc H3 H1.length rules:=by
  obtain ⟨vs,v1,v2,v3⟩:=hrs;refine ⟨vs,x3 _ _ v1,v2,fun t pq e=>?_⟩;obtain ⟨i,w1,w2⟩:=v3 t pq e;exact ⟨i,w1,x3 _ _ w2⟩
 repeat fail "!si"
 refine uW7 (a:=a) (ns:=ns) (n:=n+4) (x3 _ _ hn2) hrs3 r2 hrl ?_;intro H4 du t x4 _ hdu hkt;have hdo:∀ k,uAp (rules.foldl (uH8 k) []):=fun k=>uE6 k _ _ uAp.nil;generalize hd:(fun k=>rules.foldl (uH8 k) [])=d at *;replace hdo:∀ k,uAp (d k):=fun k=>by rw [← hd];exact hdo k
 obtain ⟨A,B,R,d1,d2,d3,d4⟩:=hdu;have n4:=x4 _ _ (x3 _ _ hn2);have c4:=x4 _ _ (x3 _ _ hc2);have e4:H4[nd]?=some (.list (uEt fun k=>mk (d k))):=by rw [← hd];exact x4 _ _ e3
 clear hrow hrs3 hrs r2 r3 e2 hal r1
 repeat fail "!si"
 refine uH9 (uAh d1) (v:=.ref A) (uB5 (k:=0) rfl) ?_
 repeat fail "!si"
 refine uGl (uVq (n:=7) (uAh e4) (uAh d2)) ?_;refine ⟨fun q=>by (cases q),fun _=>?_⟩
 repeat fail "!si"
 refine uOc (a:=a) (ns:=ns) (n:=n+5) hdo (uAh n4) (uAh e4) ?_;intro H5 to ra t5 x5 t1 t2 t3;have htt:t5=t:=uMw t3 hkt;subst htt;have y5:Ext H4 H5:=(Ext.app _ _).trans x5;have d1:=y5 _ _ d1;have d3:=y5 _ _ d3;have d4:=d4.ext y5;have n5:=y5 _ _ n4;have c5:=y5 _ _ c4;clear e4 n4 c4 x5 y5 d2;have hT:=uF4 (d:=d) t5;have ht6:=uOx hkt.1
 repeat fail "!si"
 refine uH9 d1 (v:=.ref B) (uB5 (k:=1) rfl) ?_
 repeat fail "!si"
 refine uGl (uQs (n:=7) t1 d3 (uN0 (n:=4) (uVp t5) t2 d4) uUk) ?_;refine ⟨fun q=>by (cases q),fun _=>?_⟩
 repeat fail "!si"
 refine uH9 t1 (v:=.ref ra) (uB5 (k:=0) rfl) ?_
 repeat fail "!si"
 have hfl:((kst d t5).1.map nvs).flatten=nvs (kst d t5).2:=by rw [uP1,uR1]
 have hnl:(nvs (kst d t5).2).length≤6:=by unfold nvs;rw [List.length_map];exact hT.len
 refine uOq (a:=a) (ns:=ns) (n:=n+19) t2 (by rw [hfl];exact Nat.le_trans hnl (by decide)) (by rw [List.length_map,uE3];exact Nat.lt_of_le_of_lt ht6 (by decide)) ?_;intro H6 ro x6 e6;rw [hfl] at e6;have n6:=x6 _ _ n5;have c6:=x6 _ _ c5;generalize hTT:(kst d t5).2=T at *;clear d1 d3 d4 n5 c5 t1 t2
 repeat fail "!si"
 refine uAu rfl (by decide) rfl rfl ?_
 repeat fail "!si"
 have c7:(H6.set 0 (AO.cell (some (AV.ref ro))))[0]?=some (.cell (some (.ref ro))):=set_same c6;have n7:(H6.set 0 (AO.cell (some (AV.ref ro))))[1]?=some (.list nms):=uAa (by decide) n6;have e7:(H6.set 0 (AO.cell (some (AV.ref ro))))[ro]?=some (.list (nvs T)):=uAa (uAi c6 e6 rfl) e6;generalize H6.set 0 (AO.cell (some (AV.ref ro)))=H7 at *;clear c6 n6 e6 x6;have hTl:T.length≤6:=hT.len;refine uIj (xs:=nms) (fun _=>true) (CntR H7.length T) (by decide) rfl ?_ ?_ ?_ ?_ ?_
 ·rintro v y A B x ⟨i,k,q1,q2,q3,q4,q5⟩;exact ⟨i,k,q1,q2,q3,q4,x _ _ q3 q5⟩
 ·intro p L H' x;exact uBp (x _ _ n7)
 ·intro v hv H' x
  repeat fail "!si"
  exact ⟨rfl,rfl,Ext.refl _⟩
 ·intro v hv _ H' hl x;obtain ⟨k,hk,rfl⟩:=uEy hv
  repeat fail "!si"
  refine uKw (a:=a) (ns:=ns) (n:=n+26) hT.2 hk (x _ _ e7) (Nat.lt_of_le_of_lt hTl (by decide)) ?_;rw [uIy hT.1]
  repeat fail "!si"
  refine uI1 (a:=a) (ns:=ns) (n:=n+25) (x _ _ e7) (x _ _ e7) (by rw [List.length_append];exact Nat.le_trans (by omega:_≤12) (by decide)) ?_;rw [show nvs T++nvs T=nvs (T++T) by unfold nvs;rw [List.map_append]]
  repeat fail "!si"
  refine uKw (a:=a) (ns:=ns) (n:=n+26) (T:=T++T) (fun j hj=>by rcases List.mem_append.mp hj with q|q<;>exact hT.2 j q) hk (uAl _ _) (by rw [List.length_append];exact Nat.lt_of_le_of_lt (by omega:_≤12) (by decide)) ?_;rw [count2 hT.1]
  repeat fail "!si"
  exact ⟨⟨_,k,rfl,rfl,by have:=x.le;simp;omega,hk,uAl _ _⟩,rfl,(Ext.app _ _).trans (Ext.app _ _)⟩
 intro H8 ys x8 e8 hal;rw [uBf] at hal;have c8:=x8 _ _ c7;have n8:=x8 _ _ n7;have e8':=x8 _ _ e7
 repeat fail "!si"
 refine uAu rfl (by decide) rfl rfl ?_
 repeat fail "!si"
 refine uIj (xs:=nms) (fun _=>true) (CntR H8.length T) (by decide) rfl ?_ ?_ ?_ ?_ ?_
 ·rintro v y A B x ⟨i,k,q1,q2,q3,q4,q5⟩;exact ⟨i,k,q1,q2,q3,q4,x _ _ q3 q5⟩
 ·intro p L H' x;exact uBp (x _ _ n8)
 ·intro v hv H' x
  repeat fail "!si"
  exact ⟨rfl,rfl,Ext.refl _⟩
 ·intro v hv _ H' hl x;obtain ⟨k,hk,rfl⟩:=uEy hv
  repeat fail "!si"
  refine uFd (x _ _ e8') (uKr hk hT.2) ?_;by_cases hkT:k∈T
  ·rw [decide_eq_true hkT];refine ⟨fun _=>?_,fun q=>by (cases q)⟩
   repeat fail "!si"
   refine ⟨⟨_,k,rfl,rfl,by omega,hk,?_⟩,rfl,Ext.app _ _⟩;rw [show one T k=1 by unfold one;rw [if_pos hkT]];exact uAl _ _
  ·rw [decide_eq_false hkT];refine ⟨fun q=>by (cases q),fun _=>?_⟩
   repeat fail "!si"
   refine ⟨⟨_,k,rfl,rfl,by omega,hk,?_⟩,rfl,Ext.app _ _⟩;rw [show one T k=0 by unfold one;rw [if_neg hkT]];exact uAl _ _
 intro H9 zs x9 e9 hal9;rw [uBf] at hal9
 repeat fail "!si"
 refine uN1 (uU2 (n:=6) (hal.mono fun v y h=>by obtain ⟨i,k,q1,q2,q3,q4,q5⟩:=h;exact ⟨i,k,q1,q2,q3,q4,x9 _ _ q5⟩) hal9 (x9 _ _ e8) e9) ?_
 repeat fail "!si"
 rfl
end Mine.Internal.Pu
end
end
section
set_option backward.match.sparseCases true
open PySem PySem.W PyProof.Rows PySem.Calls PySem.SeqAt
namespace Mine.Internal
noncomputable def PureLaw:Prop:=∀ (a:Addr) (ns:List Int),ns.length≤63→∃ σ',exB (PGs a ns) (run (PGs a ns) 40) lawF (uFm.body.drop 1) (lawSt a)=some (.ok (.ret (.bool true)),σ')
theorem uRf(P:Params):nsIn (KK P) mainGlobals (S "law")=some (some (.ref 294)):=by kernel_rfl
theorem ws:OpenLaw.wellSaid PySem.Challenge.rw_kt0075_01=true:=by rw [PySem.W.Fast.te9446332074065402090];kernel_rfl
theorem holds_of(hp:PureLaw):PySem.Challenge.rw_kt0075_01.Holds:=by
 refine holds_law ws fun said=>?_;refine holds_open (r:=PySem.Challenge.rw_kt0075_01.row) (q:=qv) (loose:=loo) (Xt:=Xt) (XP:=XL qv []) (Yf:=Hook.obs hk) (Ya:=Hook.val hk) (YP:=Hook.says hk) (N:=7000) left (Hook.of hk) (Hook.keeps hk) (fun s e=>xl_of s (Bool.and_eq_true_iff.mp e).1) XL.keeps (by rfl) (by rfl) (by rfl) (fun s e=>recFacts_of (Bool.and_eq_true_iff.mp e).2) (by rfl) said (by decide +kernel) ⟨rfl,rfl,rfl,rfl,rfl,by decide +kernel⟩ ?hw ?hc
 case hw=>w_witness2
 intro w s₀ s₁ mg mb G Y fa o pm cd doc dV kV ho hd hcd hD hmg hg args vals as hpre hlay hrd hwl hlo;have KX:(KK w.params).In s₁.heap:=Y;refine Ground.open G ?_;intro T B D TE TW;have hfa:mg (S "law")=some (.ref 294):=mg_of KX T.g (uRf w.params);have efa:fa=294:=by
  have h1:mg (S "law")=some (.ref fa):=hmg;rw [hfa] at h1;exact (Value.ref.inj (Option.some.inj h1)).symm
 subst efa;clear ho hd hcd hD hmg
 wrow_args hpre hlay hrd hwl hlo
 rename IntsAre _ _=>hI
 rename Heap.IsList _ _ _=>hLi
 rename ¬ ((63:Nat):Int)<_=>hc
 have hlen:=IntsAre.length hI;exact uNi (topRead_of T) KX hLi hI (by rw [hlen];exact Nat.le_trans (by lia:_≤63) (by decide)) (hp _ _ (by lia)) fun L h' tk m F=>GoodW.toG (goodW_bool F hg (fun cls=>rfl) (by wrow_post))
end Mine.Internal
end
namespace Mine.Internal
theorem pureLaw:PureLaw:=fun a ns _=>by
 obtain ⟨fl,σ',e,q⟩:=Pu.pure_law a ns 0;subst q;exact ⟨σ',e⟩
end Mine.Internal
theorem PySem.Challenge.cw_kt0075_01_holds : PySem.Challenge.rw_kt0075_01.Holds :=
 Mine.Internal.holds_of Mine.Internal.pureLaw
