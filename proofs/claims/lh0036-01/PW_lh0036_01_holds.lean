import PyProof.Rows.All
import Wide.All
import OpenK.AllK
import Wide.FinOn
import Lean
import PySem.Challenge.RW_lh0036_01
open PySem PySem.W PyProof.Rows PySem.Calls
set_option Elab.async false
set_option maxRecDepth 100000
set_option maxHeartbeats 8000000
set_option rowWalk.seconds 0
set_option linter.all false
set_option linter.unusedVariables false
section
local macro_rules | `(tactic| o_head (kHook $K $as $e)) => `(tactic| exact False.elim (by assumption))
theorem Mine.pre(hf:False):PySem.Challenge.rw_lh0036_01.row.Holds:=by k_head
end
namespace Mine
theorem oq3:∀{a0:Int}, -18446744073709551616<a0->a0<18446744073709551616->Int.natAbs a0<2 ^ 64:=fun h1 h2=>by omega
theorem oq4:∀{a0 a1 a2 a3:Nat},a0+a1<=1000000->a2<=a0->a3<=a1->¬((a2>PySem.shortFactorBits/\a3>PySem.shortFactorBits)/\(↑a2:Int)+(↑a3:Int)>(↑134217728:Int)):=fun h1 h2 h3=>by omega
theorem oq5:∀{a0 a1:Int},0*a0-a1=a1* -1:=@fun a0 a1=>by rw[Int.zero_mul,Int.zero_sub,Int.mul_neg,Int.mul_one]
theorem A3:∀{a0:Int},1<a0->0<=a0:=fun h1=>(Int.le_of_lt (Int.le_of_lt h1))
theorem JW:∀{a0:Int},1<a0->a0≠0:=fun h1=>(Int.ne_of_gt (Int.le_of_lt h1))
theorem jc:∀{a0:Int},1<a0->0<a0:=fun h1=>(Int.le_of_lt h1)
theorem aax:∀{a0 a1 a2 a3:Int},a0-a1=a2->a2<a3->a0-a1<a3:=fun h1 h2=>by rw[h1];exact h2
theorem aay:∀{a0 a1 a2 a3:Int},a0-a1-(a2-a3)=a0-a2-(a1-a3):=@fun a0 a1 a2 a3=>by rw[Int.sub_sub,Int.sub_sub,<-Int.add_sub_assoc,<-Int.add_sub_assoc,Int.add_comm a1 a2]
theorem aaz:∀{a0 a1 a2:Int},Int.natAbs (a0-a1)<=Int.natAbs a0+Int.natAbs a1->(↑(Int.natAbs a1):Int)=a2->(↑(Int.natAbs (a0-a1)):Int)<=(↑(Int.natAbs a0):Int)+a2:=fun h1 h2=>by rw[<-h2];exact Int.ofNat_le.mpr h1
theorem aaA:∀{a0:Int},0-1=a0->1= -a0:=fun h1=>by rw[<-h1]<;>rfl
theorem aaB:∀{a0 a1:Int},a0-1=a1->a0=1+a1:=fun h1=>by rw[<-h1,Int.add_comm,Int.sub_add_cancel]
def Sm(k:Nat)(x:Int):Prop:=x.natAbs<2 ^ k
theorem Sm.mono{i j:Nat}{x:Int}(h:Sm i x)(Jv:i<=j):Sm j x:=Nat.lt_of_lt_of_le h (Nat.pow_le_pow_right (by decide) Jv)
theorem Sm.mul{i j:Nat}{x y:Int}(hx:Sm i x)(hy:Sm j y):Sm (i+j) (x*y):=by
 unfold Sm at*
 rw[Int.natAbs_mul,Nat.pow_add]
 exact Nat.mul_lt_mul'' hx hy
theorem Sm.add{i j:Nat}{x y:Int}(hx:Sm i x)(hy:Sm j y):Sm (i+j+1) (x+y):=by
 have h1:=hx.mono (Nat.le_add_right i j)
 have h2:=hy.mono (Nat.le_add_left j i)
 unfold Sm at*
 rw[Nat.pow_succ]
 generalize 2 ^ (i+j)=t at*
 exact(Nat.mul_two _).symm▸Nat.lt_of_le_of_lt (Int.natAbs_add_le _ _) (Nat.add_lt_add h1 h2)
theorem Sm.neg{i:Nat}{x:Int}(hx:Sm i x):Sm i (-x):=by unfold Sm at *;rwa[Int.natAbs_neg]
theorem Sm.sub{i j:Nat}{x y:Int}(hx:Sm i x)(hy:Sm j y):Sm (i+j+1) (x-y):=by
 rw[Int.sub_eq_add_neg];exact hx.add hy.neg
theorem Sm.res{i:Nat}{x p:Int}(hp:Sm i p)(h0:0<=x)(h1:x<p):Sm i x:=by
 unfold Sm at*
 generalize 2 ^ i=t at*
 exact Nat.lt_of_le_of_lt (Int.ofNat_le.mp (by rw[Int.natAbs_of_nonneg h0,Int.natAbs_of_nonneg (Int.le_trans h0 (Int.le_of_lt h1))];exact Int.le_of_lt h1)) hp
theorem Sm.lit{x:Int}(h1: -18446744073709551616<x)(h2:x<18446744073709551616):Sm 64 x:=by unfold Sm;exact oq3 h1 h2
theorem Sm.fmod{i:Nat}{x p:Int}(hp:Sm i p)(h0:0<p):Sm i (x.fmod p):=
 hp.res (Int.fmod_nonneg_of_pos x h0) (Int.fmod_lt_of_pos x h0)
theorem Sm.bits{i:Nat}{x:Int}(hx:Sm i x):Builtin.Int.intBits x<=i:=by
 unfold Builtin.Int.intBits
 split
 ·exact Nat.zero_le _
 ·rename_i h
  have h0:x.natAbs≠0:=by
   intro e;apply h;simp[Int.natAbs_eq_zero.mp e]
  exact(Nat.log2_lt h0).mpr hx
theorem JX{i j:Nat}{a b:Int}(ha:Sm i a)(hb:Sm j b)(h:i+j<=1000000):IntMulOk a b:=by
 unfold IntMulOk Builtin.Int.intTooBig
 rw[bitsLine_eq]
 have h1:=ha.bits
 have h2:=hb.bits
 simp only[Bool.and_eq_true,decide_eq_true_eq]
 exact oq4 h h1 h2
noncomputable abbrev Led:=List (Addr×Obj)
noncomputable abbrev aj(vs:List Value)(n:Nat):Obj:={ cls:=.type "tuple",data:=.seq vs.toArray n}
noncomputable abbrev ay(vs:List Value)(n:Nat):Obj:=listOf vs.toArray n
inductive gi(D:Led)(x:Addr)(p v:Int):Prop
 |mk{dx h1 t1 u1 h2 t2 u2 n}(hx:(x,instObj 264 dx)∈D)
  (hd:(dx,dictOf [⟨h1,.str ("field_modulus") t1,.int p u1⟩,⟨h2,.str ("n") t2,.int v u2⟩] n)∈D):gi D x p v
inductive IsPair(D:Led)(x:Addr)(a b:Int):Prop
 |mk{t u n}(hx:(x,aj [.int a t,.int b u] n)∈D):IsPair D x a b
inductive bk(D:Led)(x:Addr)(p a b:Int):Prop
 |mk{dx l e ct mt h1 t1 u1 h2 t2 h3 t3 h4 t4 h5 t5 u5 n n1 n2 n3 n4 e1 e2 c1 c2 m1 m2}(hx:(x,instObj 418 dx)∈D)
  (hd:(dx,dictOf [⟨h1,.str ("field_modulus") t1,.int p u1⟩,⟨h2,.str ("mc_tuples") t2,.ref l⟩,⟨h3,.str ("coeffs") t3,.ref ct⟩,
   ⟨h4,.str ("modulus_coeffs") t4,.ref mt⟩,⟨h5,.str ("degree") t5,.int 2 u5⟩] n)∈D)
  (hl:(l,ay [.ref e] n1)∈D) (he:(e,aj [.int 0 e1,.int 1 e2] n2)∈D) (hc:(ct,aj [.int a c1,.int b c2] n3)∈D) (hm:(mt,aj [.int 1 m1,.int 0 m2] n4)∈D):bk D x p a b
section
variable{D D':Led}{x:Addr}{p a b:Int}
theorem gi.mono(h:gi D x p a)(k:∀q∈D,q∈D'):gi D' x p a:=let⟨h1,h2⟩:=h;⟨k _ h1,k _ h2⟩
theorem IsPair.mono(h:IsPair D x a b)(k:∀q∈D,q∈D'):IsPair D' x a b:=let⟨h1⟩:=h;⟨k _ h1⟩
theorem bk.mono(h:bk D x p a b)(k:∀q∈D,q∈D'):bk D' x p a b:=let⟨h1,h2,h3,h4,h5,h6⟩:=h;⟨k _ h1,k _ h2,k _ h3,k _ h4,k _ h5,k _ h6⟩
end
def fk(q v u:Int):Prop:=0<=u/\u<q/\(v%q=0->u=0)/\(v%q≠0->(v*u)%q=1)
structure fm(q a lm low hm high:Int):Prop where
 d1:q∣lm*a-low
 d2:q∣hm*a-high
 g:Int.gcd low high=1
 l1:1<=low
 l2:low<high
 l3:high<=q
 b:hm.natAbs*low+lm.natAbs*high<=q
theorem fm.start{q a:Int}(h0:0<a)(h1:a<q)(g:Int.gcd a q=1):fm q a 1 a 0 q:=by
 refine⟨by simp,⟨-1,oq5⟩,g,h0,h1,Int.le_refl _,by simp⟩
theorem fm.step{q a lm low hm high:Int}(I:fm q a lm low hm high)(h:1<low):fm q a (hm-lm*(high/low)) (high-low*(high/low)) lm low:=by
 obtain⟨⟨x,hx⟩,⟨y,hy⟩,g,l1,l2,l3,b⟩:=I
 have e:high-low*(high/low)=high%low:=by rw[Int.emod_def]
 have hr0:0<=high/low:=Int.ediv_nonneg (by exact Int.le_of_lt (Int.le_of_lt (Int.lt_trans h l2))) (by exact A3 h)
 have g':Int.gcd (high%low) low=1:=by rw[<-e,Int.gcd_sub_mul_left_left,Int.gcd_comm];exact g
 have Jw:=Int.emod_nonneg high (show low≠0 by exact JW h)
 have A4:=Int.emod_lt_of_pos high (show 0<low by exact jc h)
 refine⟨⟨y-(high/low)*x,?_⟩,⟨x,hx⟩,by rw[e];exact g',?_,by exact aax e A4,by exact Int.le_of_lt (Int.le_trans l2 l3),?_⟩
 ·rw[Int.mul_sub,Int.sub_mul,<-hy,show q*(high/low*x)=(high/low)*(q*x) from by rw[Int.mul_left_comm],<-hx]
  rw[Int.mul_sub]
  have:lm*(high/low)*a=high/low*(lm*a):=by rw[Int.mul_comm lm,Int.mul_assoc]
  rw[this,Int.mul_comm low]
  exact aay
 ·by_cases h0:high%low=0
  ·rw[h0,Int.gcd_zero_left] at g'
   exact absurd h (by rw[<-Int.natAbs_of_nonneg (Int.le_of_lt (Int.lt_trans (by decide) h)),g'];decide)
  ·exact e▸Int.lt_iff_le_and_ne.mpr ⟨Jw,Ne.symm h0⟩
 ·have hn:((hm-lm*(high/low)).natAbs:Int)<=hm.natAbs+lm.natAbs*(high/low):=by
   have h1:(hm-lm*(high/low)).natAbs<=hm.natAbs+(lm*(high/low)).natAbs:=Int.natAbs_sub_le _ _
   have h2:((lm*(high/low)).natAbs:Int)=lm.natAbs*(high/low):=by
    rw[Int.natAbs_mul,Int.natCast_mul,Int.natAbs_of_nonneg hr0]
   exact aaz h1 h2
  have jO:((hm-lm*(high/low)).natAbs:Int)*low<=(hm.natAbs+lm.natAbs*(high/low))*low:=Int.mul_le_mul_of_nonneg_right hn (by exact A3 h)
  have e2:(lm.natAbs:Int)*(high-low*(high/low))=lm.natAbs*high-lm.natAbs*(high/low)*low:=by
   rw[Int.mul_sub,Int.mul_assoc,Int.mul_comm low]
  have e3:((hm.natAbs:Int)+lm.natAbs*(high/low))*low=hm.natAbs*low+lm.natAbs*(high/low)*low:=Int.add_mul _ _ _
  exact Int.le_trans (Int.add_le_add_left jO _) (by rw[e2,e3,Int.add_left_comm,Int.sub_add_cancel];exact b)
theorem fm.small{q a lm low hm high:Int}(I:fm q a lm low hm high):lm.natAbs<=q.natAbs/\hm.natAbs<=q.natAbs:=by
 obtain⟨_,_,_,l1,l2,l3,b⟩:=I
 have h1:(hm.natAbs:Int)*1<=hm.natAbs*low:=Int.mul_le_mul_of_nonneg_left l1 (Int.natCast_nonneg _)
 have h2:(lm.natAbs:Int)*1<=lm.natAbs*high:=Int.mul_le_mul_of_nonneg_left (Int.le_of_lt (Int.lt_of_le_of_lt l1 l2)) (Int.natCast_nonneg _)
 have h3:0<=(hm.natAbs:Int)*low:=Int.mul_nonneg (Int.natCast_nonneg _) (Int.le_of_lt l1)
 have h4:0<=(lm.natAbs:Int)*high:=Int.mul_nonneg (Int.natCast_nonneg _) (Int.le_of_lt (Int.lt_trans l1 l2))
 exact⟨Int.ofNat_le.mp (Int.le_trans (Int.le_trans (Int.le_of_eq (Int.mul_one _).symm) (Int.le_trans h2 (Int.le_trans (Int.le_add_of_nonneg_left h3) b))) Int.le_natAbs),Int.ofNat_le.mp (Int.le_trans (Int.le_trans (Int.le_of_eq (Int.mul_one _).symm) (Int.le_trans h1 (Int.le_trans (Int.le_add_of_nonneg_right h4) b))) Int.le_natAbs)⟩
theorem fm.last{q v lm low hm high:Int}(hq:1<q)(I:fm q (v.fmod q) lm low hm high)(h:¬1<low):fk q v (lm.fmod q):=by
 obtain⟨⟨x,hx⟩,_,_,l1,l2,l3,_⟩:=I
 have hl:low=1:=by exact Int.le_antisymm (Int.not_lt.mp h) l1
 subst hl
 rw[Int.fmod_eq_emod_of_nonneg _ (A3 hq)] at*
 refine⟨Int.emod_nonneg _ (JW hq),Int.emod_lt_of_pos _ (jc hq),fun h0=>?_,fun _=>?_⟩
 ·rw[h0,Int.mul_zero] at hx
  exfalso
  have:q∣1:=⟨-x,by rw[Int.mul_neg];exact aaA hx⟩
  have:=Int.le_of_dvd (by decide) this
  exact absurd hq (Int.not_lt.mpr this)
 ·rw[Int.mul_emod,Int.emod_emod,<-Int.mul_emod]
  have e:lm*(v%q)=1+q*x:=by exact aaB hx
  have e2:(v*lm)%q=(lm*(v%q))%q:=by rw[Int.mul_emod lm,Int.emod_emod,<-Int.mul_emod,Int.mul_comm]
  rw[e2,e,Int.add_mul_emod_self_left]
  exact Int.emod_eq_of_lt (by decide) hq
theorem kB{q v:Int}(hq:1<q)(h:v.fmod q=0):fk q v 0:=by
 rw[Int.fmod_eq_emod_of_nonneg _ (A3 hq)] at h
 exact⟨Int.le_refl _,jc hq,fun _=>rfl,fun h'=>absurd h h'⟩
theorem pq:∀{a0:Nat},a0<=1000->a0<=16777216:=fun h1=>(Nat.le_trans h1 (Nat.le_add_left _ _))
noncomputable abbrev MM(w:World):Model:=model PySem.Challenge.pw_lh0036_01 w
noncomputable def dB(l:List (Str×Value)):Str->Option Value:=fun y=>l.lookup y
theorem aR{x:Str}{v:Value}{l:List (Str×Value)}:dB ((x,v)::l) x=some v:=by simp[dB]
theorem aW{x y:Str}{v u:Value}{l:List (Str×Value)}(mO:(x==y)=false)(h:dB l x=some v):dB ((y,u)::l) x=some v:=by
 unfold dB at *;rw[List.lookup_cons,mO];exact h
theorem jd{x:Str}{v:Value}{l:List (Str×Value)}:(fun y=>if y=x then some v else dB l y)=dB ((x,v)::l):=by
 funext y
 unfold dB
 rw[List.lookup_cons]
 by_cases h:y=x
 ·simp[h]
 ·have:(y==x)=false:=by simp[h]
  rw[if_neg h,this]
section
variable{w:World}{A:Around}{E:Value->Shared->Prop}{h:Heap}{gn:Array GenState}{dr:Drawn}{tk:Nat}{os:OsState}{env:Env}
def xF(w:World)(A:Around)(env:Env)(rest:List Stmt)(Q:Flow->Shared->Prop)(E:Value->Shared->Prop):Flow->Shared->Prop:=
 fun f s'=>match f with| .next=>wpAny (MM w) A (execs rest env) Q E s'|f=>Q f s'
def Jx(w:World)(A:Around)(env:Env)(b1 b2:List Stmt)(Q:Flow->Shared->Prop)(E:Value->Shared->Prop):Bool->Shared->Prop:=
 fun b s'=>if b then wpAny (MM w) A (execs b1 env) Q E s' else wpAny (MM w) A (execs b2 env) Q E s'
def Be(w:World)(A:Around)(env:Env)(b1 b2:Expr)(Q:Value->Shared->Prop)(E:Value->Shared->Prop):Bool->Shared->Prop:=
 fun b s'=>if b then wpAny (MM w) A (eval b1 env) Q E s' else wpAny (MM w) A (eval b2 env) Q E s'
def Bf(w:World)(A:Around)(env:Env)(rest:List Expr)(pos:Pos)(wh:Sem Value)(Q:Bool->Shared->Prop)(E:Value->Shared->Prop):Bool->Shared->Prop:=
 fun c s'=>if c then wpAny (MM w) A (isTrue (.BoolOp .And rest pos) env wh) Q E s' else Q false s'
def KOr(w:World)(A:Around)(env:Env)(rest:List Expr)(pos:Pos)(wh:Sem Value)(Q:Bool->Shared->Prop)(E:Value->Shared->Prop):Bool->Shared->Prop:=
 fun c s'=>if c then Q true s' else wpAny (MM w) A (isTrue (.BoolOp .Or rest pos) env wh) Q E s'
def pA(w:World)(A:Around)(env:Env)(rest:List Expr)(pos:Pos)(v:Value)(Q:Value->Shared->Prop)(E:Value->Shared->Prop):Bool->Shared->Prop:=
 fun c s'=>if c then wpAny (MM w) A (eval (.BoolOp .And rest pos) env) Q E s' else Q v s'
def xG(w:World)(A:Around)(env:Env)(rest:List Expr)(pos:Pos)(v:Value)(Q:Value->Shared->Prop)(E:Value->Shared->Prop):Bool->Shared->Prop:=
 fun c s'=>if c then Q v s' else wpAny (MM w) A (eval (.BoolOp .Or rest pos) env) Q E s'
section
variable{Q:Flow->Shared->Prop}{rest:List Stmt}{s:Shared}
theorem fu(k:Q .next s):wpAny (MM w) A (execs [] env) Q E s:=wpAny_execs_nil k
theorem bI{st}(k:wpAny (MM w) A (exec st env) (xF w A env rest Q E) E s):wpAny (MM w) A (execs (st::rest) env) Q E s:=wpAny_execs_cons k
theorem bZ(k:wpAny (MM w) A (execs rest env) Q E s):xF w A env rest Q E .next s:=k
theorem je{v}(k:Q (.ret v) s):xF w A env rest Q E (.ret v) s:=k
theorem JY(k:Q .brk s):xF w A env rest Q E .brk s:=k
theorem E7(k:Q .cont s):xF w A env rest Q E .cont s:=k
theorem pB{e pos}(k:wpAny (MM w) A (eval e env) (fun v=>Q (.ret v)) E s):wpAny (MM w) A (exec (.Return (some e) pos) env) Q E s:=wpAny_Return_some k
theorem E8{pos}(k:Q (.ret .none) s):wpAny (MM w) A (exec (.Return none pos) env) Q E s:=wpAny_Return_none k
theorem pC{test body orelse pos}(k:wpAny (MM w) A (isTrue test env (eval test env)) (Jx w A env body orelse Q E) E s):wpAny (MM w) A (exec (.If test body orelse pos) env) Q E s:=wpAny_If k
theorem E9{e pos}(k:wpAny (MM w) A (eval e env) (fun v s'=>match v with| .ref _=>False|_=>Q .next s') E s)
  (hi:interactive env=false) (hs:swapsWith e none pos.line env=pure false):wpAny (MM w) A (exec (.Expr e pos) env) Q E s:=wpAny_Expr k hi hs
theorem JZ{x pos' value pos}(hs:swapsWith value (some (.Name x pos')) pos.line env=pure false)
  (k:wpAny (MM w) A (eval value env) (fun v aC=>wpAny (MM w) A (storeName env x v) (fun _=>Q .next) E aC) E s):wpAny (MM w) A (exec (.Assign [.Name x pos'] value pos) env) Q E s:=wpAny_Assign_Name k hs
theorem iH{o attr pos' value pos}(hs:swapsWith value (some (.Attribute o attr pos')) pos.line env=pure false)
  (k:wpAny (MM w) A (eval value env) (fun v aC=>wpAny (MM w) A (eval o env) (fun ov bw=>wpAny (MM w) A (setAttr ov attr v) (fun _=>Q .next) E bw) E aC) E s):
  wpAny (MM w) A (exec (.Assign [.Attribute o attr pos'] value pos) env) Q E s:=plainObj_wpAny_Assign_Attribute k hs
theorem Fb{o i pos' value pos}(hs:swapsWith value (some (.Subscript o i pos')) pos.line env=pure false)
  (k:wpAny (MM w) A (eval value env) (fun v aC=>wpAny (MM w) A (eval o env) (fun ov bw=>wpAny (MM w) A (eval i env) (fun iv dJ=>wpAny (MM w) A (setItem ov iv v) (fun _=>Q .next) E dJ) E bw) E aC) E s):
  wpAny (MM w) A (exec (.Assign [.Subscript o i pos'] value pos) env) Q E s:=wpAny_Assign_Subscript k hs
theorem J0{x pos' op value pos}(k:wpAny (MM w) A (loadName env x) (fun old aC=>wpAny (MM w) A (eval value env) (fun v bw=>wpAny (MM w) A (inplaceOp op old v)
   (fun r dJ=>wpAny (MM w) A (storeName env x r) (fun _=>Q .next) E dJ) E bw) E aC) E s):wpAny (MM w) A (exec (.AugAssign (.Name x pos') op value pos) env) Q E s:=wpAny_AugAssign_Name k
theorem i_t{b1 b2}(k:wpAny (MM w) A (execs b1 env) Q E s):Jx w A env b1 b2 Q E true s:=k
theorem i_f{b1 b2}(k:wpAny (MM w) A (execs b2 env) Q E s):Jx w A env b1 b2 Q E false s:=k
theorem J1{b1 b2}{b:Bool}(e:b=false)(k:wpAny (MM w) A (execs b2 env) Q E s):Jx w A env b1 b2 Q E b s:=by subst e;exact k
end
section
variable{Q:Bool->Shared->Prop}{s:Shared}
theorem pF{l op r pos whole}(hm:behindInMarks op r=false)
  (k:wpAny (MM w) A (eval l env) (fun a aC=>wpAny (MM w) A (eval r env) (fun b bw=>wpAny (MM w) A (compareOp op a b) (fun c dJ=>wpAny (MM w) A (truthy c) Q E dJ) E bw) E aC) E s):
  wpAny (MM w) A (isTrue (.Compare l [op] [r] pos) env whole) Q E s:=wpAny_isTrue_Compare1 k hm
theorem DC{x pos whole}(k:wpAny (MM w) A (isTrue x env (eval x env)) (fun c s'=>Q (!c) s') E s):wpAny (MM w) A (isTrue (.UnaryOp .Not x pos) env whole) Q E s:=isTrue_not k
theorem Fc{pos whole}(k:Q true s):wpAny (MM w) A (isTrue (.BoolOp .And [] pos) env whole) Q E s:=isTrue_and_nil k
theorem J2{pos whole}(k:Q false s):wpAny (MM w) A (isTrue (.BoolOp .Or [] pos) env whole) Q E s:=isTrue_or_nil k
theorem J3{x rest pos whole}(k:wpAny (MM w) A (isTrue x env (eval x env)) (Bf w A env rest pos whole Q E) E s):wpAny (MM w) A (isTrue (.BoolOp .And (x::rest) pos) env whole) Q E s:=isTrue_and k
theorem aaC{x rest pos whole}(k:wpAny (MM w) A (isTrue x env (eval x env)) (KOr w A env rest pos whole Q E) E s):wpAny (MM w) A (isTrue (.BoolOp .Or (x::rest) pos) env whole) Q E s:=isTrue_or k
theorem fM{e:Expr}{whole:Sem Value}(he:isTrue e env whole=(do let v <-whole;standAt e.pos;holding [v] (truthy v)))
  (k:wpAny (MM w) A whole (fun v aC=>wpAny (MM w) A (truthy v) Q E aC) E s):wpAny (MM w) A (isTrue e env whole) Q E s:=isTrue_plain k he
theorem gj{b:Bool}(k:Q b s):wpAny (MM w) A (truthy (.bool b)) Q E s:=wpAny_truthy_bool k
theorem Fe(k:Q false s):wpAny (MM w) A (truthy .none) Q E s:=truthy_none k
theorem xH{a:Int}{t:Tok}(k:Q (a !=0) s):wpAny (MM w) A (truthy (.int a t)) Q E s:=truthy_int k
theorem J4{rest pos wh}(k:wpAny (MM w) A (isTrue (.BoolOp .And rest pos) env wh) Q E s):Bf w A env rest pos wh Q E true s:=k
theorem J5{rest pos wh}(k:Q false s):Bf w A env rest pos wh Q E false s:=k
theorem aaD{rest pos wh}(k:Q true s):KOr w A env rest pos wh Q E true s:=k
theorem aaE{rest pos wh}(k:wpAny (MM w) A (isTrue (.BoolOp .Or rest pos) env wh) Q E s):KOr w A env rest pos wh Q E false s:=k
end
section
variable{Q:Value->Shared->Prop}{s:Shared}
theorem e_t{b1 b2}(k:wpAny (MM w) A (eval b1 env) Q E s):Be w A env b1 b2 Q E true s:=k
theorem e_f{b1 b2}(k:wpAny (MM w) A (eval b2 env) Q E s):Be w A env b1 b2 Q E false s:=k
theorem DE{test body orelse pos}(k:wpAny (MM w) A (isTrue test env (eval test env)) (Be w A env body orelse Q E) E s):wpAny (MM w) A (eval (.IfExp test body orelse pos) env) Q E s:=IfExp_ k
theorem pG{l op r pos}(k:wpAny (MM w) A (eval l env) (fun a aC=>wpAny (MM w) A (eval r env) (fun b bw=>wpAny (MM w) A (binaryOp op a b) Q E bw) E aC) E s):wpAny (MM w) A (eval (.BinOp l op r pos) env) Q E s:=wpAny_BinOp k
theorem J6{l op r pos}(hm:behindInMarks op r=false)
  (k:wpAny (MM w) A (eval l env) (fun a aC=>wpAny (MM w) A (eval r env) (fun b bw=>wpAny (MM w) A (compareOp op a b) Q E bw) E aC) E s):wpAny (MM w) A (eval (.Compare l [op] [r] pos) env) Q E s:=wpAny_Compare1 k hm
theorem aaF{op x pos}(k:wpAny (MM w) A (eval x env) (fun v aC=>wpAny (MM w) A (unaryOp op v) Q E aC) E s):wpAny (MM w) A (eval (.UnaryOp op x pos) env) Q E s:=UnaryOp_ k
theorem v_sub{value slice pos}(k:wpAny (MM w) A (eval value env) (fun o aC=>wpAny (MM w) A (eval slice env) (fun i bw=>wpAny (MM w) A (subscriptTail value slice o i) Q E bw) E aC) E s):wpAny (MM w) A (eval (.Subscript value slice pos) env) Q E s:=Subscript_ k
theorem DF{elts k pos}(c:wpAny (MM w) A (spliced (backTo pos (starEach elts env))) (fun vs aC=>wpAny (MM w) A (newTuple vs) Q E aC) E s):wpAny (MM w) A (eval (.Tuple elts k pos) env) Q E s:=Tuple_ c
theorem J7{elts pos}(c:wpAny (MM w) A (spliced (backTo pos (starEach elts env))) (fun vs aC=>wpAny (MM w) A (newList vs) Q E aC) E s):wpAny (MM w) A (eval (.List elts pos) env) Q E s:=List_ c
theorem DH{i k pos}(c:Q (.int i tk) ⟨h,gn,dr,tk+1,os⟩):wpAny (MM w) A (eval (.Constant (.int i) k pos) env) Q E ⟨h,gn,dr,tk,os⟩:=wpAny_Constant_int c
theorem nQ{i k pos}(c:Q (.bool i) s):wpAny (MM w) A (eval (.Constant (.bool i) k pos) env) Q E s:=Constant_bool c
theorem xJ{k pos}(c:Q .none s):wpAny (MM w) A (eval (.Constant .none k pos) env) Q E s:=Constant_none c
theorem Ff{op e pos}(k:wpAny (MM w) A (eval e env) Q E s):wpAny (MM w) A (eval (.BoolOp op [e] pos) env) Q E s:=BoolOp_one k
theorem v_and{xK xM rest pos}(k:wpAny (MM w) A (eval xK env) (fun v aC=>wpAny (MM w) A (truthy v) (pA w A env (xM::rest) pos v Q E) E aC) E s):wpAny (MM w) A (eval (.BoolOp .And (xK::xM::rest) pos) env) Q E s:=BoolOp_and k
theorem v_or{xK xM rest pos}(k:wpAny (MM w) A (eval xK env) (fun v aC=>wpAny (MM w) A (truthy v) (xG w A env (xM::rest) pos v Q E) E aC) E s):wpAny (MM w) A (eval (.BoolOp .Or (xK::xM::rest) pos) env) Q E s:=BoolOp_or k
theorem cC{func args pos}(he:eval (.Call func args [] pos) env=(do callWith pos (<-eval func env) [] (backTo pos (starEach args env)) (backToKw pos (keywordEach [] env))))
  (k:wpAny (MM w) A (eval func env) (fun f aC=>wpAny (MM w) A (callWith pos f [] (backTo pos (starEach args env)) []) Q E aC) E s):wpAny (MM w) A (eval (.Call func args [] pos) env) Q E s:=Call_ k he
theorem Bg{o:Expr}{name:Str}{apos pos:Pos}{args:List Expr}{pl:Sem Bool}
  (he:eval (.Call (.Attribute o name apos) args [] pos) env=(do
   let ov <-eval o env
   standAt apos.atName
   let (f,first) <-holding [ov] (getMethod ov name pl)
   callWith pos f first (backTo pos (starEach args env)) []))
  (k:wpAny (MM w) A (eval o env) (fun ov aC=>wpAny (MM w) A (getMethod ov name pl) (fun fx bw=>wpAny (MM w) A (callWith pos fx.1 fx.2 (backTo pos (starEach args env)) []) Q E bw) E aC) E s):
  wpAny (MM w) A (eval (.Call (.Attribute o name apos) args [] pos) env) Q E s:=MethodCall_ k he
theorem kC{x attr:Str}{xp pos:Pos}(he:eval (.Attribute (.Name x xp) attr pos) env=(do
   let o <-eval (.Name x xp) env
   standAt pos.atName
   let r <-holding [o] (getAttr o attr true)
   letTemporaryGo (.Name x xp) o r
   pure r)) (k:wpAny (MM w) A (eval (.Name x xp) env) (fun o aC=>wpAny (MM w) A (getAttr o attr true) Q E aC) E s):wpAny (MM w) A (eval (.Attribute (.Name x xp) attr pos) env) Q E s:=Attribute_Name_ k he
theorem J9{value:Expr}{attr:Str}{pos:Pos}(he:eval (.Attribute value attr pos) env=(do
   let o <-eval value env
   standAt pos.atName
   let r <-holding [o] (getAttr o attr true)
   letTemporaryGo value o r
   pure r)) (k:wpAny (MM w) A (eval value env) (fun o aC=>wpAny (MM w) A (getAttr o attr true) Q E aC) E s):wpAny (MM w) A (eval (.Attribute value attr pos) env) Q E s:=Attribute_any_ k he
theorem Ka{a b:Int}{t u:Tok}(k:Q (.int (a+b) tk) ⟨h,gn,dr,tk+1,os⟩):wpAny (MM w) A (binaryOp .Add (.int a t) (.int b u)) Q E ⟨h,gn,dr,tk,os⟩:=add_int k
theorem Kc{a b:Int}{t u:Tok}(k:Q (.int (a-b) tk) ⟨h,gn,dr,tk+1,os⟩):wpAny (MM w) A (binaryOp .Sub (.int a t) (.int b u)) Q E ⟨h,gn,dr,tk,os⟩:=sub_int k
theorem Kd{a b:Int}{t u:Tok}(hm:IntMulOk a b)(k:Q (.int (a*b) tk) ⟨h,gn,dr,tk+1,os⟩):wpAny (MM w) A (binaryOp .Mult (.int a t) (.int b u)) Q E ⟨h,gn,dr,tk,os⟩:=mul_int k hm
theorem xN{a b:Int}{t u:Tok}(hb:b≠0)(k:Q (.int (a.fmod b) tk) ⟨h,gn,dr,tk+1,os⟩):wpAny (MM w) A (binaryOp .Mod (.int a t) (.int b u)) Q E ⟨h,gn,dr,tk,os⟩:=mod_int' hb k
theorem Fg{a b:Int}{t u:Tok}(k:Q (.int (a+b) tk) ⟨h,gn,dr,tk+1,os⟩):wpAny (MM w) A (inplaceOp .Add (.int a t) (.int b u)) Q E ⟨h,gn,dr,tk,os⟩:=iadd_int k
theorem Fi{a b:Int}{t u:Tok}(k:Q (.int (a-b) tk) ⟨h,gn,dr,tk+1,os⟩):wpAny (MM w) A (inplaceOp .Sub (.int a t) (.int b u)) Q E ⟨h,gn,dr,tk,os⟩:=isub_int k
theorem Ke{a:Int}{t:Tok}(k:Q (.int (-a) tk) ⟨h,gn,dr,tk+1,os⟩):wpAny (MM w) A (unaryOp .USub (.int a t)) Q E ⟨h,gn,dr,tk,os⟩:=neg_int k
theorem Kf{a b:Int}{t u:Tok}(k:Q (.int (Builtin.bitAnd a b) tk) ⟨h,gn,dr,tk+1,os⟩):wpAny (MM w) A (binaryOp .BitAnd (.int a t) (.int b u)) Q E ⟨h,gn,dr,tk,os⟩:=and_int k
theorem Kg{a n:Int}{t u:Tok}(hn:0<=n)(k:Q (.int (a.fdiv (2 ^ n.toNat)) tk) ⟨h,gn,dr,tk+1,os⟩):wpAny (MM w) A (binaryOp .RShift (.int a t) (.int n u)) Q E ⟨h,gn,dr,tk,os⟩:=rshift_int hn k
theorem Fj{a n:Int}{t u:Tok}(hn:0<=n)(k:Q (.int (a.fdiv (2 ^ n.toNat)) tk) ⟨h,gn,dr,tk+1,os⟩):wpAny (MM w) A (inplaceOp .RShift (.int a t) (.int n u)) Q E ⟨h,gn,dr,tk,os⟩:=irshift_int hn k
theorem aaG{a b:Int}{t u:Tok}(k:Q (.bool (decide (a<b))) s):wpAny (MM w) A (compareOp .Lt (.int a t) (.int b u)) Q E s:=lt_int k
theorem aaH{a b:Int}{t u:Tok}(k:Q (.bool (decide (b<a))) s):wpAny (MM w) A (compareOp .Gt (.int a t) (.int b u)) Q E s:=gt_int k
theorem aaI{a b:Int}{t u:Tok}(k:Q (.bool (decide (a<=b))) s):wpAny (MM w) A (compareOp .LtE (.int a t) (.int b u)) Q E s:=le_int k
theorem aaJ{a b:Int}{t u:Tok}(k:Q (.bool (decide (b<=a))) s):wpAny (MM w) A (compareOp .GtE (.int a t) (.int b u)) Q E s:=ge_int k
theorem Fl{a b:Int}{t u:Tok}(k:Q (.bool (a !=b)) s):wpAny (MM w) A (compareOp .NotEq (.int a t) (.int b u)) Q E s:=ne_int k
theorem Kh{v:Value}(k:Q (.bool (v==.none)) s):wpAny (MM w) A (compareOp .Is v .none) Q E s:=is_none k
theorem Fo{v:Value}(k:Q (.bool (!(v==.none))) s):wpAny (MM w) A (compareOp .IsNot v .none) Q E s:=isNot_none k
theorem Kl{v:Value}(k:wpAny (MM w) A (truthy v) (fun c s'=>Q (.bool (!c)) s') E s):wpAny (MM w) A (unaryOp .Not v) Q E s:=not_of k
end
section
variable{Q:List Value->Shared->Prop}{s:Shared}{pos:Pos}
theorem cT(k:Q [] s):wpAny (MM w) A (spliced (backTo pos (starEach [] env))) Q E s:=spliced_none k
theorem bx{e rest}(he:starEach (e::rest) env=(false,eval e env)::starEach rest env)
  (k:wpAny (MM w) A (eval e env) (fun v aC=>wpAny (MM w) A (spliced (backTo pos (starEach rest env))) (fun vs bw=>Q (v::vs) bw) E aC) E s):wpAny (MM w) A (spliced (backTo pos (starEach (e::rest) env))) Q E s:=spliced_more k he
end
end
section
variable{w:World}{p:Program}{loose:List Str}{aY:ExcName->Option Value}{mg mb:Str->Option Value}{A:Around}
 {cn:Str} {cs:Scope} {a:Addr} {aJ:Value} {cl:List (Str×Addr)} {agj:Heap} {L:Addr} {l:List (Str×Value)} {m:Str->Option Value} {news:Led} {E:Value->Shared->Prop}
 {h:Heap} {gn:Array GenState} {dr:Drawn} {tk:Nat} {os:OsState} {K:Frag}
theorem cK{x:Str}{pos:Pos}{v:Value}{Q:Value->Shared->Prop}(F:Fr agj L h (dB l))(hv:dB l x=some v)
  (hk:cs.kind=.function) (hx:(envX cn cs L a aJ cl).kindOf x=some .local) (hd:(x==("__debug__":Str))=false) (k:Q v ⟨h,gn,dr,tk,os⟩):
  wpAny (MM w) A (eval (.Name x pos) (envX cn cs L a aJ cl)) Q E ⟨h,gn,dr,tk,os⟩:=nameX_L (s:=⟨h,gn,dr,tk,os⟩) F hv k hk hx hd
theorem Fp{x:Str}{v:Value}{Q:Value->Shared->Prop}(F:Fr agj L h (dB l))(hv:dB l x=some v)
  (hk:cs.kind=.function) (hx:(envX cn cs L a aJ cl).kindOf x=some .local) (k:Q v ⟨h,gn,dr,tk,os⟩):
  wpAny (MM w) A (loadName (envX cn cs L a aJ cl) x) Q E ⟨h,gn,dr,tk,os⟩:=wpAny_loadName_local hk hx F.ns hv k
theorem rg{x:Str}{pos:Pos}{v:Value}{Q:Value->Shared->Prop}(F:Fr agj L h m)(X:K.In agj)(T:Top p loose aY mg mb agj)(e:nsIn K mainGlobals x=some (some v))
  (hk:cs.kind=.function) (hx:(envX cn cs L a aJ cl).kindOf x=some .globalImplicit) (hd:(x==("__debug__":Str))=false) (k:Q v ⟨h,gn,dr,tk,os⟩):
  wpAny (MM w) A (eval (.Name x pos) (envX cn cs L a aJ cl)) Q E ⟨h,gn,dr,tk,os⟩:=nameX_K (s:=⟨h,gn,dr,tk,os⟩) F X (topRead_of T) e k hk hx hd
theorem d9{x:Str}{pos:Pos}{v:Value}{Q:Value->Shared->Prop}(F:Fr agj L h m)(X:K.In agj)(T:Top p loose aY mg mb agj)(e:nsIn K mainGlobals x=some none)(hv:bootBuiltins x=some v)(hn:x≠"__name__")
  (hk:cs.kind=.function) (hx:(envX cn cs L a aJ cl).kindOf x=some .globalImplicit) (hd:(x==("__debug__":Str))=false) (k:Q v ⟨h,gn,dr,tk,os⟩):
  wpAny (MM w) A (eval (.Name x pos) (envX cn cs L a aJ cl)) Q E ⟨h,gn,dr,tk,os⟩:=nameX_B (s:=⟨h,gn,dr,tk,os⟩) F X (topRead_of T) e hv hn k hk hx hd
theorem iI{x:Str}{pos:Pos}{v:Value}{c:Addr}{o:Obj}{Q:Value->Shared->Prop}(N:News agj L h news)(hx:(envX cn cs L a aJ cl).kindOf x=some .cell)(hc:cl.lookup x=some c)(hm:(c,o)∈news)(hd:o.data=.cell (some v))
  (hk:cs.kind=.function) (hb:(x==("__debug__":Str))=false) (k:Q v ⟨h,gn,dr,tk,os⟩):
  wpAny (MM w) A (eval (.Name x pos) (envX cn cs L a aJ cl)) Q E ⟨h,gn,dr,tk,os⟩:=nameX_C (s:=⟨h,gn,dr,tk,os⟩) N hc hm hd k hk hx hb
theorem Km{x:Str}{v:Value}{Q:Unit->Shared->Prop}(F:Fr agj L h (dB l))(N:News agj L h news)(hk:cs.kind=.function)(hx:(envX cn cs L a aJ cl).kindOf x=some .local)
  (k:∀h',Fr agj L h' (dB ((x,v)::l))->News agj L h' news->Q () ⟨h',gn,dr,tk+1,os⟩):wpAny (MM w) A (storeName (envX cn cs L a aJ cl) x v) Q E ⟨h,gn,dr,tk,os⟩:=
 storeX_L (s:=⟨h,gn,dr,tk,os⟩) F N (fun h' F' N'=>k h' (jd▸F') N') hk hx
theorem Kn{vs:List Value}{Q:Value->Shared->Prop}(F:Fr agj L h m)(N:News agj L h news)(hz:vs.length<=1000)
  (k:∀t h',Fr agj L h' m->News agj L h' ((t,aj vs 0)::news)->@LT.lt Nat _ L t->(∀p∈news,p.1<t)->Q (.ref t) ⟨h',gn,dr,tk,os⟩):wpAny (MM w) A (newTuple vs) Q E ⟨h,gn,dr,tk,os⟩:=
 newTuple_N (s:=⟨h,gn,dr,tk,os⟩) F N (fun h' F' N'=>k _ h' F' N' F.ns.lt fun p hp=>Heap.lt_size (N p hp).1) (by rw[sizeLine_eq];exact pq hz)
theorem Ko{vs:List Value}{Q:Value->Shared->Prop}(F:Fr agj L h m)(N:News agj L h news)(hz:vs.length<=1000)
  (k:∀t h',Fr agj L h' m->News agj L h' ((t,ay vs 0)::news)->@LT.lt Nat _ L t->(∀p∈news,p.1<t)->Q (.ref t) ⟨h',gn,dr,tk,os⟩):wpAny (MM w) A (newList vs) Q E ⟨h,gn,dr,tk,os⟩:=
 newList_N (s:=⟨h,gn,dr,tk,os⟩) F N (fun h' F' N'=>k _ h' F' N' F.ns.lt fun p hp=>Heap.lt_size (N p hp).1) (by rw[sizeLine_eq];exact pq hz)
theorem xO{value slice:Expr}{t:Addr}{vs:List Value}{i:Int}{u:Tok}{n j:Nat}{x:Value}{Q:Value->Shared->Prop}(N:News agj L h news)(hm:(t,aj vs n)∈news)
  (Fq: -(2 ^ 63)<=i) (hhi:i<2 ^ 63) (hj:seqIndex? i vs.length=some j) (hx:vs[j]?=some x)
  (hs:subscripted slice false (.ref t) (.int i u)=operate [.ref t,.int i u] (getItem (.ref t) (.int i u))) (k:Q x ⟨h,gn,dr,tk,os⟩):
  wpAny (MM w) A (subscriptTail value slice (.ref t) (.int i u)) Q E ⟨h,gn,dr,tk,os⟩:=item_tupleT (N.isTup hm) Fq hhi hj hx k hs
theorem w_call{pos:Pos}{f:Value}{first:List Value}{e:Expr}{rest:List Expr}{env:Env}{Q:Value->Shared->Prop}{s:Shared}(X:K.In agj)(hk:keepIn K f=true)
  (he:starEach (e::rest) env=(false,eval e env)::starEach rest env) (kD:(backTo pos (starEach rest env)).any (·.1)=false)
  (k:wpAny (MM w) A (spliced (backTo pos (starEach (e::rest) env))) (fun vs aC=>K.In aC.heap/\wpAny (MM w) A (call f (first++vs)) Q E aC) E s):
  wpAny (MM w) A (callWith pos f first (backTo pos (starEach (e::rest) env)) []) Q E s:=callWith_K X hk k he kD
theorem Bh{pos:Pos}{f:Value}{first:List Value}{env:Env}{Q:Value->Shared->Prop}(X:K.In agj)(F:Fr agj L h m)(hk:keepIn K f=true)
  (k:wpAny (MM w) A (call f first) Q E ⟨h,gn,dr,tk,os⟩):wpAny (MM w) A (callWith pos f first (backTo pos (starEach [] env)) []) Q E ⟨h,gn,dr,tk,os⟩:=
 callWith_K0 (X.keeps F.keep) hk (by rw[List.append_nil];exact k)
theorem aaK{Q:Value->Shared->Prop}{f:Value}{vs:List Value}(X:K.In agj)(F:Fr agj L h m)(k:wpAny (MM w) A (call f vs) Q E ⟨h,gn,dr,tk,os⟩):
  K.In (Shared.mk h gn dr tk os).heap/\wpAny (MM w) A (call f vs) Q E ⟨h,gn,dr,tk,os⟩:=⟨X.keeps F.keep,k⟩
theorem gk{pos:Pos}{id:String}{first:List Value}{e:Expr}{rest:List Expr}{env:Env}{Q:Value->Shared->Prop}{s:Shared}
  (he:starEach (e::rest) env=(false,eval e env)::starEach rest env) (kD:(backTo pos (starEach rest env)).any (·.1)=false)
  (k:wpAny (MM w) A (spliced (backTo pos (starEach (e::rest) env))) (fun vs aC=>wpAny (MM w) A (call (.builtin id) (first++vs)) Q E aC) E s):
  wpAny (MM w) A (callWith pos (.builtin id) first (backTo pos (starEach (e::rest) env)) []) Q E s:=callWith_method1 k he kD
theorem Ft{pos:Pos}{id:String}{first:List Value}{env:Env}{Q:Value->Shared->Prop}{s:Shared}
  (k:wpAny (MM w) A (call (.builtin id) first) Q E s):wpAny (MM w) A (callWith pos (.builtin id) first (backTo pos (starEach [] env)) []) Q E s:=callWith_method0 k
theorem jf{pos:Pos}{T:String}{e:Expr}{rest:List Expr}{env:Env}{Q:Value->Shared->Prop}{s:Shared}
  (he:starEach (e::rest) env=(false,eval e env)::starEach rest env) (kD:(backTo pos (starEach rest env)).any (·.1)=false)
  (k:wpAny (MM w) A (spliced (backTo pos (starEach (e::rest) env))) (fun vs aC=>wpAny (MM w) A (call (.type T) vs) Q E aC) E s):
  wpAny (MM w) A (callWith pos (.type T) [] (backTo pos (starEach (e::rest) env)) []) Q E s:=Pv.callWith_type1 k he kD
end
section
variable{w:World}{p:Program}{loose:List Str}{aY:ExcName->Option Value}{mg mb:Str->Option Value}
 {dp un:Nat} {gd:Option (List Code)} {cn:Str} {cs:Scope} {a:Addr} {aJ:Value} {cl:List (Str×Addr)} {outer:List Env} {A₀:Around} {base agj:Heap} {L:Addr} {m:Str->Option Value} {news:Led} {Q E:Value->Shared->Prop}
 {h:Heap} {gn:Array GenState} {dr:Drawn} {tk:Nat} {os:OsState} {K:Frag}
def Back(Q:Value->Shared->Prop)(E:Value->Shared->Prop)(r:Result)(s':Shared):Prop:=match r with| .ok (.ret v)=>Q v s'| .ok _=>False| .error e=>E e s'
def BQ(agj:Heap)(L:Addr)(m:Str->Option Value)(g:Heap)(Q:Value->Shared->Prop)(E:Value->Shared->Prop):Flow->Shared->Prop:=
 fun fl s'=>LeaveK agj L m g (Back Q E) (match fl with| .ret v=>v|_=>.none) s'
def BE(w:World)(A:Around)(env:Env)(E:Value->Shared->Prop):Value->Shared->Prop:=
 fun e s'=>wpAny (MM w) A (leaving env e) (fun _ ri=>E e ri) (fun e' ri=>E e' ri) s'
theorem tL{g:Heap}{L':Addr}{m':Str->Option Value}(FG:Fr agj L g m)(F':Fr g L' h m'):L<L':=Nat.lt_of_lt_of_le FG.ns.lt F'.above
theorem enter{name qual:Str}{params:Arguments}{body:List Stmt}{scope:Scope}{dV kV doc pm bu ct oc:Value}{an od:Option Addr}{nR:Array (Option Value)}{f:Addr}{args:List Value}(rb:List (Str×Value))
  (B:Below A₀ base outer agj) (F:Fr agj L h m) (X:K.In agj) (N:News agj L h news) (T:Top p loose aY mg mb agj) (hk:cs.kind=.function)
  (ho:K.lookup f=some ⟨oc,od,.func (fnOf name qual params body scope dV kV doc pm an bu ct),nR⟩) (hcd:codeIn K bu qual=true) (cg:dp<recursionLimit)
  (dG:BindsTo ⟨h,gn,dr,tk,os⟩ (fnOf name qual params body scope dV kV doc pm an bu ct) ⟨args,[]⟩ rb.reverse) (nS:(rb.reverse.all fun x=>decide (scope.names.lookup x.1=some .local))=true)
  (jy:scope.isCoroutine=false) (fy:scope.isGenerator=false) (mD:scope.kind=.function)
  (cL:∀x∈scope.names,x.2≠.cell)
  (k:∀g L' aq tk,Fr g L' aq (dB rb)->News g L' aq news->Below (ktrTop dp un gd cn cs L a aJ cl outer) base (envX cn cs L a aJ cl::outer) g->K.In g->Top p loose aY mg mb g->(∀p∈news,p.1<L')->@LT.lt Nat _ L L'->
   wpAny (MM w) (ktrTop (dp+1) (un+3) gd qual scope L' f bu [] (envX cn cs L a aJ cl::outer)) (execs body (envX qual scope L' f bu [])) (BQ agj L m g Q E)
    (BE w (ktrTop (dp+1) (un+3) gd qual scope L' f bu [] (envX cn cs L a aJ cl::outer)) (envX qual scope L' f bu []) E) ⟨aq,gn,dr,tk,os⟩):
  wpAny (MM w) (ktrTop dp un gd cn cs L a aJ cl outer) (call (.ref f) args) Q E ⟨h,gn,dr,tk,os⟩:=by
 refine wpAny_call (codeAny_mono (callX_plain (A:=ktrTop dp un gd cn cs L a aJ cl outer) (s:=⟨h,gn,dr,tk,os⟩) (cl:=[]) (R:=Back Q E) B F N T.nolimit rfl rfl hk ((X.keeps F.keep) _ _ ho) rfl (codeRec_of (X.keeps F.keep) hcd) cg dG (locs nS) (fun g L' aq FG F' N' B' st lt=>?_) cL jy fy mD) fun r s' z=>?_)
 ·rw[List.reverse_reverse] at F'
  exact k g L' aq _ F' N' B' (X.keeps st) (T.keeps st) lt (tL FG F')
 ·exact z
end
section
variable{w:World}{p:Program}{loose:List Str}{aY:ExcName->Option Value}{mg mb:Str->Option Value}
 {dp un:Nat} {gd:Option (List Code)} {cn:Str} {cs:Scope} {a:Addr} {aJ:Value} {cl:List (Str×Addr)} {outer:List Env} {A₀:Around} {base agj:Heap} {L:Addr} {m:Str->Option Value} {nw led:Led} {d:Nat} {Q E:Value->Shared->Prop}
 {h:Heap} {gn:Array GenState} {dr:Drawn} {tk:Nat} {os:OsState}
theorem kE{v:Int}{t:Tok}(F:Fr agj L h m)(X:(Mine.pre.heap_1 w.params).In agj)(N:News agj L h news)(k:∀tk,Q (.bool false) ⟨h,gn,dr,tk,os⟩):
  wpAny (MM w) (ktrTop dp un gd cn cs L a aJ cl outer) (call (.builtin "isinstance") [.int v t,.ref 264]) Q E ⟨h,gn,dr,tk,os⟩:=by
 walk1
 exact k _
theorem gq{v:Int}{t:Tok}(F:Fr agj L h m)(X:(Mine.pre.heap_1 w.params).In agj)(N:News agj L h news)(k:∀tk,Q (.bool true) ⟨h,gn,dr,tk,os⟩):
  wpAny (MM w) (ktrTop dp un gd cn cs L a aJ cl outer) (call (.builtin "isinstance") [.int v t,.type "int"]) Q E ⟨h,gn,dr,tk,os⟩:=by
 walk1
 exact k _
theorem we{x:Addr}{q v:Int}(F:Fr agj L h m)(X:(Mine.pre.heap_1 w.params).In agj)(N:News agj L h news)(hx:gi news x q v)(k:∀tk,Q (.bool true) ⟨h,gn,dr,tk,os⟩):
  wpAny (MM w) (ktrTop dp un gd cn cs L a aJ cl outer) (call (.builtin "isinstance") [.ref x,.ref 264]) Q E ⟨h,gn,dr,tk,os⟩:=by
 obtain⟨fz,cI⟩:=hx
 walk1
 exact k _
theorem pH{x:Addr}{q a0 a1:Int}(F:Fr agj L h m)(X:(Mine.pre.heap_1 w.params).In agj)(N:News agj L h news)(hx:bk news x q a0 a1)(k:∀tk,Q (.bool true) ⟨h,gn,dr,tk,os⟩):
  wpAny (MM w) (ktrTop dp un gd cn cs L a aJ cl outer) (call (.builtin "isinstance") [.ref x,.ref 418]) Q E ⟨h,gn,dr,tk,os⟩:=by
 obtain⟨fz,cI,kF,kH,jZ,jg⟩:=hx
 walk1
 exact k _
theorem jK{x:Addr}{q a0 a1:Int}(F:Fr agj L h m)(X:(Mine.pre.heap_1 w.params).In agj)(N:News agj L h news)(hx:bk news x q a0 a1)(k:∀tk,Q (.bool true) ⟨h,gn,dr,tk,os⟩):
  wpAny (MM w) (ktrTop dp un gd cn cs L a aJ cl outer) (call (.builtin "isinstance") [.ref x,.ref 389]) Q E ⟨h,gn,dr,tk,os⟩:=by
 obtain⟨fz,cI,kF,kH,jZ,jg⟩:=hx
 walk1
 exact k _
theorem pJ{x:Addr}{q a0 a1:Int}(F:Fr agj L h m)(X:(Mine.pre.heap_1 w.params).In agj)(N:News agj L h news)(hx:bk news x q a0 a1)(k:∀tk,Q (.bool false) ⟨h,gn,dr,tk,os⟩):
  wpAny (MM w) (ktrTop dp un gd cn cs L a aJ cl outer) (call (.builtin "isinstance") [.ref x,.type "int"]) Q E ⟨h,gn,dr,tk,os⟩:=by
 obtain⟨fz,cI,kF,kH,jZ,jg⟩:=hx
 walk1
 exact k _
theorem Bj{x:Addr}{vs:List Value}{n:Nat}(F:Fr agj L h m)(X:(Mine.pre.heap_1 w.params).In agj)(N:News agj L h news)(hx:(x,aj vs n)∈news)(k:∀tk,Q (.bool true) ⟨h,gn,dr,tk,os⟩):
  wpAny (MM w) (ktrTop dp un gd cn cs L a aJ cl outer) (call (.builtin "isinstance") [.ref x,.type "tuple"]) Q E ⟨h,gn,dr,tk,os⟩:=by
 walk1
 exact k _
theorem xP{x:Addr}{q v:Int}{ex:Bool}(F:Fr agj L h m)(X:(Mine.pre.heap_1 w.params).In agj)(N:News agj L h news)(hx:gi news x q v)(k:∀t,Q (.int q t) ⟨h,gn,dr,tk+1,os⟩):
  wpAny (MM w) (ktrTop dp un gd cn cs L a aJ cl outer) (getAttr (.ref x) ("field_modulus") ex) Q E ⟨h,gn,dr,tk,os⟩:=by
 obtain⟨fz,cI⟩:=hx
 walk1
 exact k _
theorem Bk{x:Addr}{q v:Int}{ex:Bool}(F:Fr agj L h m)(X:(Mine.pre.heap_1 w.params).In agj)(N:News agj L h news)(hx:gi news x q v)(k:∀t,Q (.int v t) ⟨h,gn,dr,tk+1,os⟩):
  wpAny (MM w) (ktrTop dp un gd cn cs L a aJ cl outer) (getAttr (.ref x) ("n") ex) Q E ⟨h,gn,dr,tk,os⟩:=by
 obtain⟨fz,cI⟩:=hx
 walk1
 exact k _
theorem wg{x:Addr}{q a0 a1:Int}{ex:Bool}(F:Fr agj L h m)(X:(Mine.pre.heap_1 w.params).In agj)(N:News agj L h news)(hx:bk news x q a0 a1)(k:∀t,Q (.int q t) ⟨h,gn,dr,tk+1,os⟩):
  wpAny (MM w) (ktrTop dp un gd cn cs L a aJ cl outer) (getAttr (.ref x) ("field_modulus") ex) Q E ⟨h,gn,dr,tk,os⟩:=by
 obtain⟨fz,cI,kF,kH,jZ,jg⟩:=hx
 walk1
 exact k _
theorem wj{x:Addr}{q a0 a1:Int}{ex:Bool}(F:Fr agj L h m)(X:(Mine.pre.heap_1 w.params).In agj)(N:News agj L h news)(hx:bk news x q a0 a1)(k:∀t,Q (.int 2 t) ⟨h,gn,dr,tk+1,os⟩):
  wpAny (MM w) (ktrTop dp un gd cn cs L a aJ cl outer) (getAttr (.ref x) ("degree") ex) Q E ⟨h,gn,dr,tk,os⟩:=by
 obtain⟨fz,cI,kF,kH,jZ,jg⟩:=hx
 walk1
 exact k _
theorem rj{x:Addr}{q v:Int}{pl:Sem Bool}{Qm:Value×List Value->Shared->Prop}(F:Fr agj L h m)(X:(Mine.pre.heap_1 w.params).In agj)(N:News agj L h news)(hx:gi news x q v)(k:Qm (.ref 247,[.ref x]) ⟨h,gn,dr,tk,os⟩):
  wpAny (MM w) (ktrTop dp un gd cn cs L a aJ cl outer) (getMethod (.ref x) ("made") pl) Qm E ⟨h,gn,dr,tk,os⟩:=by
 obtain⟨fz,cI⟩:=hx
 walk1
 exact k
theorem wm{x:Addr}{q v:Int}{pl:Sem Bool}{Qm:Value×List Value->Shared->Prop}(F:Fr agj L h m)(X:(Mine.pre.heap_1 w.params).In agj)(N:News agj L h news)(hx:gi news x q v)(k:Qm (.ref 254,[.ref x]) ⟨h,gn,dr,tk,os⟩):
  wpAny (MM w) (ktrTop dp un gd cn cs L a aJ cl outer) (getMethod (.ref x) ("one") pl) Qm E ⟨h,gn,dr,tk,os⟩:=by
 obtain⟨fz,cI⟩:=hx
 walk1
 exact k
theorem rm{x:Addr}{q v:Int}{pl:Sem Bool}{Qm:Value×List Value->Shared->Prop}(F:Fr agj L h m)(X:(Mine.pre.heap_1 w.params).In agj)(N:News agj L h news)(hx:gi news x q v)(k:Qm (.ref 261,[.ref x]) ⟨h,gn,dr,tk,os⟩):
  wpAny (MM w) (ktrTop dp un gd cn cs L a aJ cl outer) (getMethod (.ref x) ("zero") pl) Qm E ⟨h,gn,dr,tk,os⟩:=by
 obtain⟨fz,cI⟩:=hx
 walk1
 exact k
theorem pK{x:Addr}{q a0 a1:Int}{pl:Sem Bool}{Qm:Value×List Value->Shared->Prop}(F:Fr agj L h m)(X:(Mine.pre.heap_1 w.params).In agj)(N:News agj L h news)(hx:bk news x q a0 a1)(k:Qm (.ref 407,[.ref x]) ⟨h,gn,dr,tk,os⟩):
  wpAny (MM w) (ktrTop dp un gd cn cs L a aJ cl outer) (getMethod (.ref x) ("made") pl) Qm E ⟨h,gn,dr,tk,os⟩:=by
 obtain⟨fz,cI,kF,kH,jZ,jg⟩:=hx
 walk1
 exact k
theorem rq{x:Addr}{q a0 a1:Int}{pl:Sem Bool}{Qm:Value×List Value->Shared->Prop}(F:Fr agj L h m)(X:(Mine.pre.heap_1 w.params).In agj)(N:News agj L h news)(hx:bk news x q a0 a1)(k:Qm (.ref 379,[.ref x]) ⟨h,gn,dr,tk,os⟩):
  wpAny (MM w) (ktrTop dp un gd cn cs L a aJ cl outer) (getMethod (.ref x) ("one") pl) Qm E ⟨h,gn,dr,tk,os⟩:=by
 obtain⟨fz,cI,kF,kH,jZ,jg⟩:=hx
 walk1
 exact k
theorem pL{x:Addr}{q a0 a1:Int}{pl:Sem Bool}{Qm:Value×List Value->Shared->Prop}(F:Fr agj L h m)(X:(Mine.pre.heap_1 w.params).In agj)(N:News agj L h news)(hx:bk news x q a0 a1)(k:Qm (.ref 386,[.ref x]) ⟨h,gn,dr,tk,os⟩):
  wpAny (MM w) (ktrTop dp un gd cn cs L a aJ cl outer) (getMethod (.ref x) ("zero") pl) Qm E ⟨h,gn,dr,tk,os⟩:=by
 obtain⟨fz,cI,kF,kH,jZ,jg⟩:=hx
 walk1
 exact k
theorem ru{x:Addr}{q a0 a1:Int}{pl:Sem Bool}{Qm:Value×List Value->Shared->Prop}(F:Fr agj L h m)(X:(Mine.pre.heap_1 w.params).In agj)(N:News agj L h news)(hx:bk news x q a0 a1)(k:Qm (.ref 338,[.ref x]) ⟨h,gn,dr,tk,os⟩):
  wpAny (MM w) (ktrTop dp un gd cn cs L a aJ cl outer) (getMethod (.ref x) ("inv") pl) Qm E ⟨h,gn,dr,tk,os⟩:=by
 obtain⟨fz,cI,kF,kH,jZ,jg⟩:=hx
 walk1
 exact k
theorem cV{x:Addr}{q a0 a1:Int}{pl:Sem Bool}{Qm:Value×List Value->Shared->Prop}(F:Fr agj L h m)(X:(Mine.pre.heap_1 w.params).In agj)(N:News agj L h news)(hx:bk news x q a0 a1)(k:Qm (.ref 333,[.ref x]) ⟨h,gn,dr,tk,os⟩):
  wpAny (MM w) (ktrTop dp un gd cn cs L a aJ cl outer) (getMethod (.ref x) ("optimized_poly_rounded_div") pl) Qm E ⟨h,gn,dr,tk,os⟩:=by
 obtain⟨fz,cI,kF,kH,jZ,jg⟩:=hx
 walk1
 exact k
theorem rA{x y:Addr}{q q2 a0 a1 b0 b1:Int}(F:Fr agj L h m)(X:(Mine.pre.heap_1 w.params).In agj)(N:News agj L h news)(hx:bk news x q a0 a1)(hy:bk news y q2 b0 b1)(k:wpAny (MM w) (ktrTop dp un gd cn cs L a aJ cl outer) (call (.ref 292) [.ref x,.ref y]) (PySem.W.CmpBack Q) E ⟨h,gn,dr,tk,os⟩):
  wpAny (MM w) (ktrTop dp un gd cn cs L a aJ cl outer) (binaryOp .Add (.ref x) (.ref y)) Q E ⟨h,gn,dr,tk,os⟩:=by
 obtain⟨fz,cI,kF,kH,jZ,jg⟩:=hx
 obtain⟨o8,jz,Fw,Kp,Kq,Kr⟩:=hy
 refine' binop_K (s:=⟨h,gn,dr,tk,os⟩) F X (InstAt.of_news N fz cI) (InstAt.type (InstAt.of_news N o8 jz)) ?k5 ?k6 ?k7 k
 (case k5=>k_dflt k_is)
 (case k6=>k_dflt k_is)
 (case k7=>k_dflt k_is)
theorem rB{x y:Addr}{q q2 a0 a1 b0 b1:Int}(F:Fr agj L h m)(X:(Mine.pre.heap_1 w.params).In agj)(N:News agj L h news)(hx:bk news x q a0 a1)(hy:bk news y q2 b0 b1)(k:wpAny (MM w) (ktrTop dp un gd cn cs L a aJ cl outer) (call (.ref 297) [.ref x,.ref y]) (PySem.W.CmpBack Q) E ⟨h,gn,dr,tk,os⟩):
  wpAny (MM w) (ktrTop dp un gd cn cs L a aJ cl outer) (binaryOp .Sub (.ref x) (.ref y)) Q E ⟨h,gn,dr,tk,os⟩:=by
 obtain⟨fz,cI,kF,kH,jZ,jg⟩:=hx
 obtain⟨o8,jz,Fw,Kp,Kq,Kr⟩:=hy
 refine' binop_K (s:=⟨h,gn,dr,tk,os⟩) F X (InstAt.of_news N fz cI) (InstAt.type (InstAt.of_news N o8 jz)) ?k5 ?k6 ?k7 k
 (case k5=>k_dflt k_is)
 (case k6=>k_dflt k_is)
 (case k7=>k_dflt k_is)
theorem pM{x y:Addr}{q q2 a0 a1 b0 b1:Int}(F:Fr agj L h m)(X:(Mine.pre.heap_1 w.params).In agj)(N:News agj L h news)(hx:bk news x q a0 a1)(hy:bk news y q2 b0 b1)(k:wpAny (MM w) (ktrTop dp un gd cn cs L a aJ cl outer) (call (.ref 309) [.ref x,.ref y]) (PySem.W.CmpBack Q) E ⟨h,gn,dr,tk,os⟩):
  wpAny (MM w) (ktrTop dp un gd cn cs L a aJ cl outer) (binaryOp .Mult (.ref x) (.ref y)) Q E ⟨h,gn,dr,tk,os⟩:=by
 obtain⟨fz,cI,kF,kH,jZ,jg⟩:=hx
 obtain⟨o8,jz,Fw,Kp,Kq,Kr⟩:=hy
 refine' binop_K (s:=⟨h,gn,dr,tk,os⟩) F X (InstAt.of_news N fz cI) (InstAt.type (InstAt.of_news N o8 jz)) ?k5 ?k6 ?k7 k
 (case k5=>k_dflt k_is)
 (case k6=>k_dflt k_is)
 (case k7=>k_dflt k_is)
theorem rC{x y:Addr}{q q2 a0 a1 b0 b1:Int}(F:Fr agj L h m)(X:(Mine.pre.heap_1 w.params).In agj)(N:News agj L h news)(hx:bk news x q a0 a1)(hy:bk news y q2 b0 b1)(k:wpAny (MM w) (ktrTop dp un gd cn cs L a aJ cl outer) (call (.ref 321) [.ref x,.ref y]) (PySem.W.CmpBack Q) E ⟨h,gn,dr,tk,os⟩):
  wpAny (MM w) (ktrTop dp un gd cn cs L a aJ cl outer) (binaryOp .Div (.ref x) (.ref y)) Q E ⟨h,gn,dr,tk,os⟩:=by
 obtain⟨fz,cI,kF,kH,jZ,jg⟩:=hx
 obtain⟨o8,jz,Fw,Kp,Kq,Kr⟩:=hy
 refine' binop_K (s:=⟨h,gn,dr,tk,os⟩) F X (InstAt.of_news N fz cI) (InstAt.type (InstAt.of_news N o8 jz)) ?k5 ?k6 ?k7 k
 (case k5=>k_dflt k_is)
 (case k6=>k_dflt k_is)
 (case k7=>k_dflt k_is)
theorem nU{x:Addr}{q a0 a1:Int}{i:Int}{u:Tok}(F:Fr agj L h m)(X:(Mine.pre.heap_1 w.params).In agj)(N:News agj L h news)(hx:bk news x q a0 a1)(k:wpAny (MM w) (ktrTop dp un gd cn cs L a aJ cl outer) (call (.ref 309) [.ref x,.int i u]) (PySem.W.CmpBack Q) E ⟨h,gn,dr,tk,os⟩):
  wpAny (MM w) (ktrTop dp un gd cn cs L a aJ cl outer) (binaryOp .Mult (.ref x) (.int i u)) Q E ⟨h,gn,dr,tk,os⟩:=by
 obtain⟨fz,cI,kF,kH,jZ,jg⟩:=hx
 walk1
 exact k
theorem pN{x:Addr}{q a0 a1:Int}{i:Int}{u:Tok}(F:Fr agj L h m)(X:(Mine.pre.heap_1 w.params).In agj)(N:News agj L h news)(hx:bk news x q a0 a1)(k:wpAny (MM w) (ktrTop dp un gd cn cs L a aJ cl outer) (call (.ref 321) [.ref x,.int i u]) (PySem.W.CmpBack Q) E ⟨h,gn,dr,tk,os⟩):
  wpAny (MM w) (ktrTop dp un gd cn cs L a aJ cl outer) (binaryOp .Div (.ref x) (.int i u)) Q E ⟨h,gn,dr,tk,os⟩:=by
 obtain⟨fz,cI,kF,kH,jZ,jg⟩:=hx
 walk1
 exact k
theorem pO{x:Addr}{q a0 a1:Int}{i:Int}{u:Tok}(F:Fr agj L h m)(X:(Mine.pre.heap_1 w.params).In agj)(N:News agj L h news)(hx:bk news x q a0 a1)(k:wpAny (MM w) (ktrTop dp un gd cn cs L a aJ cl outer) (call (.ref 328) [.ref x,.int i u]) (PySem.W.CmpBack Q) E ⟨h,gn,dr,tk,os⟩):
  wpAny (MM w) (ktrTop dp un gd cn cs L a aJ cl outer) (binaryOp .Pow (.ref x) (.int i u)) Q E ⟨h,gn,dr,tk,os⟩:=by
 obtain⟨fz,cI,kF,kH,jZ,jg⟩:=hx
 walk1
 exact k
theorem rD{x:Addr}{q a0 a1:Int}(F:Fr agj L h m)(X:(Mine.pre.heap_1 w.params).In agj)(N:News agj L h news)(hx:bk news x q a0 a1)(k:wpAny (MM w) (ktrTop dp un gd cn cs L a aJ cl outer) (call (.ref 364) [.ref x]) Q E ⟨h,gn,dr,tk,os⟩):
  wpAny (MM w) (ktrTop dp un gd cn cs L a aJ cl outer) (unaryOp .USub (.ref x)) Q E ⟨h,gn,dr,tk,os⟩:=by
 obtain⟨fz,cI,kF,kH,jZ,jg⟩:=hx
 walk1
 exact k
theorem wo{x y:Addr}{q q2 v u:Int}(F:Fr agj L h m)(X:(Mine.pre.heap_1 w.params).In agj)(N:News agj L h news)(hx:gi news x q v)(hy:gi news y q2 u)(k:wpAny (MM w) (ktrTop dp un gd cn cs L a aJ cl outer) (call (.ref 176) [.ref x,.ref y]) (PySem.W.CmpBack Q) E ⟨h,gn,dr,tk,os⟩):
  wpAny (MM w) (ktrTop dp un gd cn cs L a aJ cl outer) (binaryOp .Div (.ref x) (.ref y)) Q E ⟨h,gn,dr,tk,os⟩:=by
 obtain⟨fz,cI⟩:=hx
 obtain⟨o8,jz⟩:=hy
 refine' binop_K (s:=⟨h,gn,dr,tk,os⟩) F X (InstAt.of_news N fz cI) (InstAt.type (InstAt.of_news N o8 jz)) ?k5 ?k6 ?k7 k
 (case k5=>k_dflt k_is)
 (case k6=>k_dflt k_is)
 (case k7=>k_dflt k_is)
theorem xQ{x y:Addr}{q q2 v u:Int}(F:Fr agj L h m)(X:(Mine.pre.heap_1 w.params).In agj)(N:News agj L h news)(hx:gi news x q v)(hy:gi news y q2 u)(hu:un+10<cLine)(k:wpAny (MM w) (ktrTop dp un gd cn cs L a aJ cl outer) (call (.ref 197) [.ref x,.ref y]) (PySem.W.CmpBack Q) E ⟨h,gn,dr,tk,os⟩):
  wpAny (MM w) (ktrTop dp un gd cn cs L a aJ cl outer) (compareOp .Eq (.ref x) (.ref y)) Q E ⟨h,gn,dr,tk,os⟩:=by
 obtain⟨fz,cI⟩:=hx
 obtain⟨o8,jz⟩:=hy
 refine' cmp_ofEq (cmp_K (s:=⟨h,gn,dr,tk,os⟩) (show un<cLine by exact Nat.lt_of_le_of_lt (Nat.le_add_right _ _) hu) F X (InstAt.of_news N fz cI) (InstAt.type (InstAt.of_news N o8 jz)) ?k5 ?k6 ?k7 k)
 (case k5=>k_dflt k_is)
 (case k6=>k_dflt k_is)
 (case k7=>k_dflt k_is)
theorem wu{x y:Addr}{q q2 a0 a1 b0 b1:Int}(F:Fr agj L h m)(X:(Mine.pre.heap_1 w.params).In agj)(N:News agj L h news)(hx:bk news x q a0 a1)(hy:bk news y q2 b0 b1)(hu:un+10<cLine)(k:wpAny (MM w) (ktrTop dp un gd cn cs L a aJ cl outer) (call (.ref 352) [.ref x,.ref y]) (PySem.W.CmpBack Q) E ⟨h,gn,dr,tk,os⟩):
  wpAny (MM w) (ktrTop dp un gd cn cs L a aJ cl outer) (compareOp .Eq (.ref x) (.ref y)) Q E ⟨h,gn,dr,tk,os⟩:=by
 obtain⟨fz,cI,kF,kH,jZ,jg⟩:=hx
 obtain⟨o8,jz,Fw,Kp,Kq,Kr⟩:=hy
 refine' cmp_ofEq (cmp_K (s:=⟨h,gn,dr,tk,os⟩) (show un<cLine by exact Nat.lt_of_le_of_lt (Nat.le_add_right _ _) hu) F X (InstAt.of_news N fz cI) (InstAt.type (InstAt.of_news N o8 jz)) ?k5 ?k6 ?k7 k)
 (case k5=>k_dflt k_is)
 (case k6=>k_dflt k_is)
 (case k7=>k_dflt k_is)
end
section
variable{w:World}{p:Program}{loose:List Str}{aY:ExcName->Option Value}{mg mb:Str->Option Value}
 {dp un:Nat} {gd:Option (List Code)} {cn:Str} {cs:Scope} {a:Addr} {aJ:Value} {cl:List (Str×Addr)} {outer:List Env} {A₀:Around} {base agj:Heap} {L:Addr} {m:Str->Option Value} {news:Led} {Q E:Value->Shared->Prop}
 {h:Heap} {gn:Array GenState} {dr:Drawn} {tk:Nat} {os:OsState} {K:Frag} {A:Around}
theorem tM{prog:Program}{s:Shared}{R:Result->Shared->Prop}{C:Addr}{rest:List Value}{kw:List (Str×Value)}{fI:Addr}(F:Fr agj L s.heap m)(N:News agj L s.heap news)(X:K.In s.heap)(hm:makesIn K C=true)
  (hi:findIn K (.ref C) "__init__"=some (some (.ref fI))) (hf:typeIn K (.ref fI)=some (.type "function"))
  (k:∀x dx h',Fr agj L h' m->News agj L h' ((x,instObj C dx)::(dx,emptyDict)::news)->(∀p∈news,p.1<dx)->dx<x->L<dx->
   codeAny (model prog w) (A.under (.builtin "type.__call__" ⟨.ref C::rest,kw⟩)) (.call (.ref fI) ⟨.ref x::rest,kw⟩) (InitBack x R) { s with heap:=h'}):
  codeAny (model prog w) A (.call (.ref C) ⟨rest,kw⟩) R s:=by
 obtain⟨hh,g,d,t,os⟩:=s
 refine make_core (makes_of X hm) (looks_findIn X hi) (fun self=>bind_fn X self hf) (.inl rfl) (k _ hh.objs.size _ ((F.push _).push _) ?_ (fun p hp=>Heap.lt_size (N p hp).1) (Nat.lt_succ_self _) F.ns.lt)
 have:=(N.push F emptyDict).push (F.push _) (instObj C hh.objs.size)
 rwa[Heap.size_push] at this
def BI(agj:Heap)(L:Addr)(m:Str->Option Value)(g:Heap)(x:Addr)(Q:Value->Shared->Prop)(E:Value->Shared->Prop):Flow->Shared->Prop:=
 fun fl s'=>LeaveK agj L m g (InitBack x (Back Q E)) (match fl with| .ret v=>v|_=>.none) s'
theorem Fx{C fI:Addr}{name qual:Str}{params:Arguments}{body:List Stmt}{scope:Scope}{dV kV doc pm bu ct oc:Value}{an od:Option Addr}{nR:Array (Option Value)}{args:List Value}(rb:Addr->List (Str×Value))
  (B:Below A₀ base outer agj) (F:Fr agj L h m) (X:K.In agj) (N:News agj L h news) (T:Top p loose aY mg mb agj) (hk:cs.kind=.function)
  (hm:makesIn K C=true) (hi:findIn K (.ref C) "__init__"=some (some (.ref fI))) (hf:isFn K (.ref fI)=true)
  (ho:K.lookup fI=some ⟨oc,od,.func (fnOf name qual params body scope dV kV doc pm an bu ct),nR⟩) (hcd:codeIn K bu qual=true) (cg:dp+1<recursionLimit)
  (dG:∀x s,BindsTo s (fnOf name qual params body scope dV kV doc pm an bu ct) ⟨.ref x::args,[]⟩ (rb x).reverse) (nS:∀x,((rb x).reverse.all fun x=>decide (scope.names.lookup x.1=some .local))=true)
  (jy:scope.isCoroutine=false) (fy:scope.isGenerator=false) (mD:scope.kind=.function)
  (cL:∀x∈scope.names,x.2≠.cell)
  (k:∀x dx,(∀p∈news,p.1<dx)->@LT.lt Nat _ dx x->∀g L' aq tk,Fr g L' aq (dB (rb x))->News g L' aq ((x,instObj C dx)::(dx,dictOf [] 0)::news)->Below (ktrTop (dp+1) (un+1) gd cn cs L a aJ cl outer) base (envX cn cs L a aJ cl::outer) g->K.In g->Top p loose aY mg mb g->@LT.lt Nat _ x L'->@LT.lt Nat _ L dx->
   wpAny (MM w) (ktrTop (dp+2) (un+4) gd qual scope L' fI bu [] (envX cn cs L a aJ cl::outer)) (execs body (envX qual scope L' fI bu [])) (BI agj L m g x Q E)
    (BE w (ktrTop (dp+2) (un+4) gd qual scope L' fI bu [] (envX cn cs L a aJ cl::outer)) (envX qual scope L' fI bu []) E) ⟨aq,gn,dr,tk,os⟩):
  wpAny (MM w) (ktrTop dp un gd cn cs L a aJ cl outer) (call (.ref C) args) Q E ⟨h,gn,dr,tk,os⟩:=by
 refine wpAny_call (tM (s:=⟨h,gn,dr,tk,os⟩) F N (X.keeps F.keep) hm hi (beq_iff_eq.mp hf) fun x dx h' F N l1 l2 hL=>?_)
 refine codeAny_mono (callX_plain (A:=ktrTop (dp+1) (un+1) gd cn cs L a aJ cl outer) (s:=⟨h',gn,dr,tk,os⟩) (cl:=[]) (R:=InitBack x (Back Q E)) B F N T.nolimit rfl rfl hk ((X.keeps F.keep) _ _ ho) rfl (codeRec_of (X.keeps F.keep) hcd) cg (dG x _) (locs (nS x)) (fun g L' aq FG F' N' B' st lt=>?_) cL jy fy mD) fun r s' z=>?_
 ·rw[List.reverse_reverse] at F'
  exact k x dx l1 l2 g L' aq _ F' N' B' (X.keeps st) (T.keeps st) (lt (x,_) (.head _)) hL
 ·exact z
theorem xR{x dx C:Addr}{es:List DictEntry}{n:Nat}{name:Str}{v:Value}{attr:Option Value}{ex:Bool}(F:Fr agj L h m)(X:K.In agj)(N:News agj L h news)(h1:(x,instObj C dx)∈news)(h2:(dx,dictOf es n)∈news)
  (hg:plainGet K C name=true) (hh:hasDictIn K C=true) (ha:findIn K (.ref C) name=some attr) (hn:noGet K attr=true) (hl:getL name es=some (some v)) (hv:handedIn v=true) (k:Q v ⟨h,gn,dr,tk+1,os⟩):
  wpAny (MM w) A (getAttr (.ref x) name ex) Q E ⟨h,gn,dr,tk,os⟩:=get_own (s:=⟨h,gn,dr,tk,os⟩) F X (InstAt.of_news N h1 h2) hg hh ha hn hl hv k
theorem Ks{x dx C:Addr}{es DI:List DictEntry}{n n':Nat}{name:Str}{v:Value}{bK:Led}{Q:Unit->Shared->Prop}(F:Fr agj L h m)(X:(Mine.pre.heap_1 w.params).In agj)(N:News agj L h news)(h1:(x,instObj C dx)∈news)(h2:(dx,dictOf es n)∈news)
  (hs:findIn (Mine.pre.heap_1 w.params) (.ref C) "__setattr__"=some (some (.builtin "object.__setattr__"))) (hp:plainOver (Mine.pre.heap_1 w.params) C=true) (ht:takerIn (Mine.pre.heap_1 w.params) C name=some none) (hh:hasDictIn (Mine.pre.heap_1 w.params) C=true) (hl:(getL name es).isSome=true)
  (e:(putL name (PyData.keyHash w.params name) (.str name (tk+1)) v es,putN name es n)=(DI,n')) (U:Upd dx (dictOf es n) (dictOf DI n') news bK) (hz:DI.length<=1000)
  (k:∀h',Fr agj L h' m->News agj L h' bK->Q () ⟨h',gn,dr,tk+2,os⟩):wpAny (MM w) A (setAttr (.ref x) name v) Q E ⟨h,gn,dr,tk,os⟩:=
 PySem.W.set_dict (s:=⟨h,gn,dr,tk,os⟩) F X N (InstAt.of_news N h1 h2) rfl hs hp ht hh hl e U hz k
theorem xS{value slice:Expr}{t:Addr}{vs:List Value}{i:Int}{u:Tok}{n:Nat}{x:Value}(N:News agj L h news)(hm:(t,ay vs n)∈news)
  (h0:0<=i) (wz:i<2 ^ 63) (hx:vs[i.toNat]?=some x)
  (hs:subscripted slice false (.ref t) (.int i u)=operate [.ref t,.int i u] (getItem (.ref t) (.int i u))) (k:Q x ⟨h,gn,dr,tk,os⟩):
  wpAny (MM w) A (subscriptTail value slice (.ref t) (.int i u)) Q E ⟨h,gn,dr,tk,os⟩:=
 tail_any (N.isList hm).typeIs slot_list_getitem.lookup (wpAny_getItem_list (N.isList hm) h0 wz (by simpa using hx) k) hs
theorem ee{D:Led}:∀p∈D,p∈D:=fun _ h=>h
theorem aL{D led:Led}{q:Addr×Obj}(h:∀p∈D,p∈led):∀p∈D,p∈q::led:=fun p hp=>.tail _ (h p hp)
theorem aau{D led tl:Led}(h:∀p∈D,p∈led):∀p∈D,p∈tl++led:=fun p hp=>List.mem_append_right _ (h p hp)
theorem Ku{D led:Led}{q:Addr×Obj}(h1:q∈led)(h:∀p∈D,p∈led):∀p∈q::D,p∈led:=fun p hp=>by
 rcases List.mem_cons.mp hp with rfl|hp
 ·exact h1
 ·exact h p hp
theorem Kv{D led tl:Led}(h1:∀p∈tl,p∈led)(h:∀p∈D,p∈led):∀p∈tl++D,p∈led:=fun p hp=>(List.mem_append.mp hp).elim (h1 p) (h p)
theorem Kw{led tl:Led}:∀p∈tl,p∈tl++led:=fun _ hp=>List.mem_append_left _ hp
def Split(led news:Led)(d:Nat):Prop:=∀p∈led,p∈news\/@LE.le Nat _ d p.1
end
section
variable{w:World}{A:Around}{E:Value->Shared->Prop}{h:Heap}{gn:Array GenState}{dr:Drawn}{tk:Nat}{os:OsState}{env:Env}
theorem tN{Q:Flow->Shared->Prop}{b1 b2}{b:Bool}{s:Shared}(k1:b=true->wpAny (MM w) A (execs b1 env) Q E s)(k2:b=false->wpAny (MM w) A (execs b2 env) Q E s):Jx w A env b1 b2 Q E b s:=by
 cases b
 ·exact k2 rfl
 ·exact k1 rfl
theorem Fy{Q:Value->Shared->Prop}{a b:Int}{t u:Tok}(hb:b≠0)(k:Q (.int (a.fmod b) tk) ⟨h,gn,dr,tk+1,os⟩):wpAny (MM w) A (inplaceOp .Mod (.int a t) (.int b u)) Q E ⟨h,gn,dr,tk,os⟩:=imod_int hb k
theorem Fz{i:Nat}{x:Int}(hx:Sm i x)(hi:i<=8000):x.natAbs.log2<9000:=by
 by_cases h0:x.natAbs=0
 ·rw[h0];decide +kernel
 ·have:=(Nat.log2_lt h0).mpr hx
  exact Nat.lt_of_lt_of_le this (Nat.le_trans hi (by decide))
theorem FA{Q:Value->Shared->Prop}{i:Nat}{a b:Int}{t u:Tok}(hb:b≠0)(sb:Sm i b)(hi:i<=8000)(k:Q (.int (a.fdiv b) tk) ⟨h,gn,dr,tk+1,os⟩):wpAny (MM w) A (binaryOp .FloorDiv (.int a t) (.int b u)) Q E ⟨h,gn,dr,tk,os⟩:=
 floordiv_int hb k (Or.inl (PyProof.noPylong_of_log2 (Fz sb hi)))
theorem FD{elts k wA value pos}{Q:Flow->Shared->Prop}{s:Shared}(hs:swapsWithSole [.Tuple elts k wA] value pos.line env=pure false)(hw:swappedStores [.Tuple elts k wA] value env=pure none)
  (c:wpAny (MM w) A (eval value env) (fun v aC=>wpAny (MM w) A (assign (.Tuple elts k wA) env v) (fun _=>Q .next) E aC) E s):wpAny (MM w) A (exec (.Assign [.Tuple elts k wA] value pos) env) Q E s:=Assign_Tuple c hs hw
def Bl(w:World)(A:Around)(env:Env)(elts:List Expr)(vs:List Value)(Q:Unit->Shared->Prop)(E:Value->Shared->Prop)(s:Shared):Prop:=
 wpAny (MM w) A (assignInOrder ((assignEach elts env).map (·.2)) vs) Q E s
theorem kI{Q:Unit->Shared->Prop}{s:Shared}(c:Q () s):Bl w A env [] [] Q E s:=assignInOrder_nil c
theorem dX{x:Str}{xp:Pos}{v:Value}{elts:List Expr}{vs:List Value}{Q:Unit->Shared->Prop}{s:Shared}(c:wpAny (MM w) A (storeName env x v) (fun _ aC=>Bl w A env elts vs Q E aC) E s):Bl w A env (.Name x xp::elts) (v::vs) Q E s:=by
 have he:assignEach (.Name x xp::elts) env=(false,assign (.Name x xp) env)::assignEach elts env:=rfl
 unfold Bl
 rw[he,List.map_cons]
 exact assignInOrder_cons (t:=assign (.Name x xp) env) (assign_Name c)
end
section
variable{w:World}{A:Around}{E:Value->Shared->Prop}{agj h:Heap}{L:Addr}{m:Str->Option Value}{l:List (Str×Value)}{news:Led}{gn:Array GenState}{dr:Drawn}{tk:Nat}{os:OsState}{env:Env}
theorem Kx{elts:List Expr}{k}{pos:Pos}{t:Addr}{vs:List Value}{n:Nat}{Q:Unit->Shared->Prop}(F:Fr agj L h m)(N:News agj L h news)(hm:(t,aj vs n)∈news)(hh:A.handled=none)
  (hn:(assignEach elts env).length=vs.length) (hs:(assignEach elts env).findIdx? (·.1)=none)
  (c:∀h',Fr agj L h' m->News agj L h' news->Bl w A env elts vs Q E ⟨h',gn,dr,tk,os⟩):wpAny (MM w) A (assign (.Tuple elts k pos) env (.ref t)) Q E ⟨h,gn,dr,tk,os⟩:=
 unpackN_ (s:=⟨h,gn,dr,tk,os⟩) F N (N.isTup hm) hh (by rw[hn,List.size_toArray]) hs fun h' F' N'=>c h' F' N'
theorem Ky{elts:List Expr}{k}{pos:Pos}{t:Addr}{vs:List Value}{n:Nat}{Q:Unit->Shared->Prop}(F:Fr agj L h m)(N:News agj L h news)(hm:(t,ay vs n)∈news)(hh:A.handled=none)
  (hn:(assignEach elts env).length=vs.length) (hs:(assignEach elts env).findIdx? (·.1)=none)
  (c:∀h',Fr agj L h' m->News agj L h' news->Bl w A env elts vs Q E ⟨h',gn,dr,tk,os⟩):wpAny (MM w) A (assign (.Tuple elts k pos) env (.ref t)) Q E ⟨h,gn,dr,tk,os⟩:=
 kun_list (s:=⟨h,gn,dr,tk,os⟩) F N (N.isList hm) hh (by rw[hn,List.size_toArray]) hs fun h' F' N'=>c h' F' N'
theorem aaL{t:Addr}{vs:List Value}{n k:Nat}{Q:List Value->Shared->Prop}(F:Fr agj L h m)(N:News agj L h news)(hm:(t,aj vs n)∈news)(hh:A.handled=none)(hn:k=vs.length)
  (c:∀h',Fr agj L h' m->News agj L h' news->Q vs ⟨h',gn,dr,tk,os⟩):wpAny (MM w) A (unpackItems (.ref t) k none) Q E ⟨h,gn,dr,tk,os⟩:=
 unpackItemsN_ (s:=⟨h,gn,dr,tk,os⟩) F N (N.isTup hm) hh (by rw[hn,List.size_toArray]) fun h' F' N'=>c h' F' N'
end
noncomputable def mZ(names:List (Str×NameKind)):List (Str×Value)->List (Str×Value)->List (Str×Value)
 |[],l=>l
 |(n,v)::r,l=>mZ names r (if names.lookup n=some .local then(n,v)::l else l)
theorem jA{names:List (Str×NameKind)}:∀(binds l:List (Str×Value)),bindL (fun n=>names.lookup n) binds (dB l)=dB (mZ names binds l)
 |[],_=>rfl
 |(n,v)::r,l=>by
  unfold bindL mZ
  by_cases h:names.lookup n=some .local
  ·rw[if_pos h,if_pos h,jd];exact jA r _
  ·rw[if_neg h,if_neg h];exact jA r _
theorem nV:(fun _=>none:Str->Option Value)=dB []:=rfl
section
variable{w:World}{p:Program}{loose:List Str}{aY:ExcName->Option Value}{mg mb:Str->Option Value}
 {dp un:Nat} {gd:Option (List Code)} {cn:Str} {cs:Scope} {a:Addr} {aJ:Value} {cl:List (Str×Addr)} {outer:List Env} {A₀:Around} {base agj:Heap} {L:Addr} {m:Str->Option Value} {news:Led} {Q E:Value->Shared->Prop}
 {h:Heap} {gn:Array GenState} {dr:Drawn} {tk:Nat} {os:OsState} {K:Frag} {A:Around}
theorem Bm{C fI:Addr}{name qual:Str}{params:Arguments}{body:List Stmt}{scope:Scope}{dV kV doc pm bu ct oc:Value}{an od:Option Addr}{nR:Array (Option Value)}{args:List Value}(binds rb:Addr->List (Str×Value))
  (B:Below A₀ base outer agj) (F:Fr agj L h m) (X:K.In agj) (N:News agj L h news) (T:Top p loose aY mg mb agj) (hk:cs.kind=.function)
  (hm:makesIn K C=true) (hi:findIn K (.ref C) "__init__"=some (some (.ref fI))) (hf:isFn K (.ref fI)=true)
  (ho:K.lookup fI=some ⟨oc,od,.func (fnOf name qual params body scope dV kV doc pm an bu ct),nR⟩) (hcd:codeIn K bu qual=true) (cg:dp+1<recursionLimit)
  (dG:∀x s,BindsTo s (fnOf name qual params body scope dV kV doc pm an bu ct) ⟨.ref x::args,[]⟩ (binds x))
  (bz:∀x,((binds x).all fun y=>scope.names.lookup y.1==some .local||scope.names.lookup y.1==some .cell)=true)
  (xC:((cellsFrom 0 scope.names []).map (·.1)).Nodup) (Kz:∀x,mZ scope.names (binds x) []=rb x)
  (jy:scope.isCoroutine=false) (fy:scope.isGenerator=false) (mD:scope.kind=.function)
  (k:∀x dx,(∀p∈news,p.1<dx)->@LT.lt Nat _ dx x->∀g L' aq tk cells,Fr g L' aq (dB (rb x))->News g L' aq (cells++((x,instObj C dx)::(dx,dictOf [] 0)::news))->CellsAre (bindC (fun n=>scope.names.lookup n) (binds x) fun _=>none) (cellsFrom (L'+1) scope.names []) cells->
   Below (ktrTop (dp+1) (un+1) gd cn cs L a aJ cl outer) base (envX cn cs L a aJ cl::outer) g->K.In g->Top p loose aY mg mb g->@LT.lt Nat _ x L'->@LT.lt Nat _ L dx->
   wpAny (MM w) (ktrTop (dp+2) (un+4) gd qual scope L' fI bu (cellsFrom (L'+1) scope.names []) (envX cn cs L a aJ cl::outer)) (execs body (envX qual scope L' fI bu (cellsFrom (L'+1) scope.names []))) (BI agj L m g x Q E)
    (BE w (ktrTop (dp+2) (un+4) gd qual scope L' fI bu (cellsFrom (L'+1) scope.names []) (envX cn cs L a aJ cl::outer)) (envX qual scope L' fI bu (cellsFrom (L'+1) scope.names [])) E) ⟨aq,gn,dr,tk,os⟩):
  wpAny (MM w) (ktrTop dp un gd cn cs L a aJ cl outer) (call (.ref C) args) Q E ⟨h,gn,dr,tk,os⟩:=by
 refine wpAny_call (tM (s:=⟨h,gn,dr,tk,os⟩) F N (X.keeps F.keep) hm hi (beq_iff_eq.mp hf) fun x dx h' F N l1 l2 hL=>?_)
 refine codeAny_mono (callX_cells (A:=ktrTop (dp+1) (un+1) gd cn cs L a aJ cl outer) (s:=⟨h',gn,dr,tk,os⟩) (R:=InitBack x (Back Q E)) B F N T.nolimit rfl rfl hk ((X.keeps F.keep) _ _ ho) rfl (codeRec_of (X.keeps F.keep) hcd) cg (dG x _) (kindsX (bz x)) xC (fun g L' aq tk cells FG F' N' Y B' st lt=>?_) jy fy mD) fun r s' z=>?_
 ·have F'':Fr g L' aq (dB (rb x)):=by
   have e:=jA (names:=scope.names) (binds x) []
   rw[Kz] at e
   rw[<-e];exact F'
  exact k x dx l1 l2 g L' aq tk cells F'' N' Y B' (X.keeps st) (T.keeps st) (lt (x,_) (.head _)) hL
 ·exact z
theorem xT{C fI:Addr}{name qual:Str}{params:Arguments}{body:List Stmt}{scope:Scope}{dV kV doc pm bu ct oc:Value}{an od:Option Addr}{nR:Array (Option Value)}{args:List Value}(binds rb:Addr->List (Str×Value))(cx:Str)(cv:Addr->Option Value)
  (B:Below A₀ base outer agj) (F:Fr agj L h m) (X:K.In agj) (N:News agj L h news) (T:Top p loose aY mg mb agj) (hk:cs.kind=.function)
  (hm:makesIn K C=true) (hi:findIn K (.ref C) "__init__"=some (some (.ref fI))) (hf:isFn K (.ref fI)=true)
  (ho:K.lookup fI=some ⟨oc,od,.func (fnOf name qual params body scope dV kV doc pm an bu ct),nR⟩) (hcd:codeIn K bu qual=true) (cg:dp+1<recursionLimit)
  (dG:∀x s,BindsTo s (fnOf name qual params body scope dV kV doc pm an bu ct) ⟨.ref x::args,[]⟩ (binds x))
  (bz:∀x,((binds x).all fun y=>scope.names.lookup y.1==some .local||scope.names.lookup y.1==some .cell)=true)
  (hcx:∀n,cellsFrom n scope.names []=[(cx,n)]) (xU:∀x,bindC (fun n=>scope.names.lookup n) (binds x) (fun _=>none) cx=cv x) (xC:((cellsFrom 0 scope.names []).map (·.1)).Nodup) (Kz:∀x,mZ scope.names (binds x) []=rb x)
  (jy:scope.isCoroutine=false) (fy:scope.isGenerator=false) (mD:scope.kind=.function)
  (k:∀x dx,(∀p∈news,p.1<dx)->@LT.lt Nat _ dx x->∀g L' aq tk,Fr g L' aq (dB (rb x))->∀o,o.data=.cell (cv x)->News g L' aq ((L'+1,o)::(x,instObj C dx)::(dx,dictOf [] 0)::news)->
   Below (ktrTop (dp+1) (un+1) gd cn cs L a aJ cl outer) base (envX cn cs L a aJ cl::outer) g->K.In g->Top p loose aY mg mb g->@LT.lt Nat _ x L'->@LT.lt Nat _ L dx->
   wpAny (MM w) (ktrTop (dp+2) (un+4) gd qual scope L' fI bu [(cx,L'+1)] (envX cn cs L a aJ cl::outer)) (execs body (envX qual scope L' fI bu [(cx,L'+1)])) (BI agj L m g x Q E)
    (BE w (ktrTop (dp+2) (un+4) gd qual scope L' fI bu [(cx,L'+1)] (envX cn cs L a aJ cl::outer)) (envX qual scope L' fI bu [(cx,L'+1)]) E) ⟨aq,gn,dr,tk,os⟩):
  wpAny (MM w) (ktrTop dp un gd cn cs L a aJ cl outer) (call (.ref C) args) Q E ⟨h,gn,dr,tk,os⟩:=by
 refine Bm binds rb B F X N T hk hm hi hf ho hcd cg dG bz xC Kz jy fy mD fun x dx l1 l2 g L' aq tk cells F' N' Y B' X' T' lt hL=>?_
 rw[hcx] at Y⊢
 obtain⟨o,rfl,hd⟩:=CellsAre.one Y
 rw[xU] at hd
 exact k x dx l1 l2 g L' aq tk F' o hd N' B' X' T' lt hL
end
inductive Drop(d:Addr):Led->Led->Prop
 |base {r}:(∀p∈r,p.1≠d)->Drop d r r
 |here {o r r'}:Drop d r r'->Drop d ((d,o)::r) r'
 |tail {p r r'}:p.1≠d->Drop d r r'->Drop d (p::r) (p::r')
 |app {tl r r'}:(∀p∈tl,p.1≠d)->Drop d r r'->Drop d (tl++r) (tl++r')
theorem Drop.mem{d:Addr}{r r':Led}(D:Drop d r r'):∀p∈r',p∈r/\p.1≠d:=by
 induction D with
 |base h=>exact fun p hp=>⟨hp,h p hp⟩
 |here _ ih=>exact fun p hp=>⟨.tail _ (ih p hp).1,(ih p hp).2⟩
 |tail h _ ih=>
  intro p hp
  rcases List.mem_cons.mp hp with rfl|hp
  ·exact⟨.head _,h⟩
  ·exact⟨.tail _ (ih p hp).1,(ih p hp).2⟩
 |app h _ ih=>
  intro p hp
  rcases List.mem_append.mp hp with hp|hp
  ·exact⟨List.mem_append_left _ hp,h p hp⟩
  ·exact⟨List.mem_append_right _ (ih p hp).1,(ih p hp).2⟩
section
variable{agj h h':Heap}{L d:Addr}{m:Str->Option Value}{news bK:Led}
theorem gW(N:News agj L h news)(D:Drop d news bK)(hx:∀b o,b≠d->h.get? b=some o->h'.get? b=some o):News agj L h' bK:=
 fun p hp=>let⟨a,b⟩:=D.mem p hp;⟨hx _ _ b (N p a).1,(N p a).2⟩
theorem xV{chg:List Addr}(F:Fr agj L h m)(hc:∀d∈chg,d≠L/\agj.get? d=none)(hx:∀b o,b∉chg->h.get? b=some o->h'.get? b=some o):Fr agj L h' m:=by
 obtain⟨oL,a1,a2,KA,a3⟩:=F.ns
 refine⟨⟨oL,a1,a2,hx _ _ (fun hm=>(hc _ hm).1 rfl) KA,a3⟩,fun b x e=>hx _ _ (fun hm=>?_) (F.keep b x e),F.above⟩
 rw[(hc _ hm).2] at e;cases e
theorem bf{o o':Obj}{g:Obj->Led}(U:UpdF d o news g):(d,o)∈news/\∀p∈g o',p=(d,o')\/(p∈news/\p.1≠d):=by
 obtain⟨pre,post,rfl,hg,a,b⟩:=U.split
 rw[hg]
 refine⟨List.mem_append_right _ (.head _),fun p hp=>?_⟩
 rcases List.mem_append.mp hp with hp|hp
 ·exact .inr ⟨List.mem_append_left _ hp,a p hp⟩
 ·rcases List.mem_cons.mp hp with rfl|hp
  ·exact .inl rfl
  ·exact .inr ⟨List.mem_append_right _ (.tail _ hp),b p hp⟩
theorem xW{o:Obj}{tl:Led}{g:Obj->Led}(h:∀p∈tl,p.1≠d)(U:UpdF d o news g):UpdF d o (tl++news) (fun o'=>tl++g o'):=by
 induction tl with
 |nil=>exact U
 |cons q tl ih=>exact .tail (h q (.head _)) (ih fun p hp=>h p (.tail _ hp))
theorem cW{o o':Obj}{g:Obj->Led}(N:News agj L h news)(U:UpdF d o news g)(hx:∀b o,b≠d->h.get? b=some o->h'.get? b=some o)(ho:h'.get? d=some o'):News agj L h' (g o'):=fun p hp=>by
 obtain⟨a,b⟩:=bf U (o':=o')
 rcases b p hp with rfl|⟨q,z⟩
 ·exact⟨ho,(N _ a).2⟩
 ·exact⟨hx _ _ z (N p q).1,(N p q).2⟩
theorem cD{o:Obj}(F:Fr agj L h m)(N:News agj L h news)(hm:(d,o)∈news)(hx:∀b o,b≠d->h.get? b=some o->h'.get? b=some o):Fr agj L h' m:=
 xV F (chg:=[d]) (fun e he=>by rcases List.mem_cons.mp he with rfl|he;exact(N _ hm).2;cases he) fun b o hb e=>hx b o (fun q=>hb (q▸.head _)) e
end
def mF(C:Addr)(o:Obj)(l:List (Str×Value)):Prop:=∀h:Heap,h.get? C=some o->h.Ns C (dB l)
theorem mF.of{h:Heap}{C:Addr}{l:List (Str×Value)}(n:h.Ns C (dB l)):∃o,h.get? C=some o/\mF C o l:=by
 obtain⟨o,es,ep,ho,r⟩:=n
 exact⟨o,ho,fun h' e=>⟨o,es,ep,e,r⟩⟩
section
variable{w:World}{p:Program}{loose:List Str}{aY:ExcName->Option Value}{mg mb:Str->Option Value}{A:Around}
 {agj:Heap} {L C:Addr} {l:List (Str×Value)} {m:Str->Option Value} {news:Led} {E:Value->Shared->Prop}
 {h:Heap} {gn:Array GenState} {dr:Drawn} {tk:Nat} {os:OsState} {K:Frag} {scope:Scope} {bA:List (Str×Addr)} {env:Env}
theorem pP{x:Str}{pos:Pos}{v:Value}{o:Obj}{Q:Value->Shared->Prop}(N:News agj L h news)(hm:(C,o)∈news)(ho:mF C o l)(hv:dB l x=some v)
  (hk:(compEnvC scope bA C env).scope.kind=.function) (hx:(compEnvC scope bA C env).kindOf x=some .local) (hd:(x==("__debug__":Str))=false) (k:Q v ⟨h,gn,dr,tk,os⟩):
  wpAny (MM w) A (eval (.Name x pos) (compEnvC scope bA C env)) Q E ⟨h,gn,dr,tk,os⟩:=wpAny_Name (wpAny_loadName_local hk hx (ho h (N _ hm).1) hv k) hd
theorem FH{x:Str}{pos:Pos}{v:Value}{Q:Value->Shared->Prop}(F:Fr agj L h m)(X:K.In agj)(T:Top p loose aY mg mb agj)(e:nsIn K mainGlobals x=some (some v))(hg:(compEnvC scope bA C env).globals=mainGlobals)
  (hk:(compEnvC scope bA C env).scope.kind=.function) (hx:(compEnvC scope bA C env).kindOf x=some .globalImplicit) (hd:(x==("__debug__":Str))=false) (k:Q v ⟨h,gn,dr,tk,os⟩):
  wpAny (MM w) A (eval (.Name x pos) (compEnvC scope bA C env)) Q E ⟨h,gn,dr,tk,os⟩:=
 Name_function_global hk hx (loadGlobal_global (env:=compEnvC scope bA C env) (by rw[hg];exact(topRead_of T).g.keeps F.keep) (mg_of X (topRead_of T).g e) k) hd
theorem KD{x:Str}{pos:Pos}{v:Value}{Q:Value->Shared->Prop}(F:Fr agj L h m)(X:K.In agj)(T:Top p loose aY mg mb agj)(e:nsIn K mainGlobals x=some none)(hv:bootBuiltins x=some v)(hn:x≠"__name__")
  (hg:(compEnvC scope bA C env).globals=mainGlobals) (hb:(compEnvC scope bA C env).builtins=builtinsNs)
  (hk:(compEnvC scope bA C env).scope.kind=.function) (hx:(compEnvC scope bA C env).kindOf x=some .globalImplicit) (hd:(x==("__debug__":Str))=false) (k:Q v ⟨h,gn,dr,tk,os⟩):
  wpAny (MM w) A (eval (.Name x pos) (compEnvC scope bA C env)) Q E ⟨h,gn,dr,tk,os⟩:=
 Name_function_global hk hx (loadGlobal_builtin (env:=compEnvC scope bA C env) (by rw[hg];exact(topRead_of T).g.keeps F.keep) (mg_none_of X (topRead_of T).g e) (by rw[hb];exact(topRead_of T).b.keeps F.keep) (((topRead_of T).builtins x hn).trans hv) k) hd
theorem FI{x:Str}{pos:Pos}{v:Value}{c:Addr}{o:Obj}{Q:Value->Shared->Prop}(N:News agj L h news)(hx:(compEnvC scope bA C env).kindOf x=some .cell)(hc:bA.lookup x=some c)(hm:(c,o)∈news)(hd:o.data=.cell (some v))
  (hk:(compEnvC scope bA C env).scope.kind=.function) (hb:(x==("__debug__":Str))=false) (k:Q v ⟨h,gn,dr,tk,os⟩):
  wpAny (MM w) A (eval (.Name x pos) (compEnvC scope bA C env)) Q E ⟨h,gn,dr,tk,os⟩:=wpAny_Name (wpAny_loadName_cell hk hx hc ⟨o,N.get hm,hd⟩ k) hb
theorem aaM{x:Str}{v:Value}{o:Obj}{g:Obj->Led}{Q:Unit->Shared->Prop}(F:Fr agj L h m)(N:News agj L h news)(U:UpdF C o news g)(ho:mF C o l)
  (hk:(compEnvC scope bA C env).scope.kind=.function) (hx:(compEnvC scope bA C env).kindOf x=some .local)
  (k:∀h' o',Fr agj L h' m->News agj L h' (g o')->mF C o' ((x,v)::l)->Q () ⟨h',gn,dr,tk+1,os⟩):wpAny (MM w) A (storeName (compEnvC scope bA C env) x v) Q E ⟨h,gn,dr,tk,os⟩:=by
 have hm:=(bf U (o':=o)).1
 refine wpAny_storeName_local (s:=⟨h,gn,dr,tk,os⟩) hx (ho h (N _ hm).1) (fun h' hn hs=>?_) (by rw[hk];rfl)
 rw[jd] at hn
 obtain⟨o',wC,pQ⟩:=mF.of hn
 have iJ:∀b o,b≠C->h.get? b=some o->h'.get? b=some o:=fun b o hb e=>(hs.2 b hb).trans e
 exact k h' o' (cD F N hm iJ) (cW N U iJ wC) pQ
def cX(w:World)(I:Addr)(o:Obj):Prop:=∀(A:Around) (E:Value->Shared->Prop) (s:Shared) (Q:Value->Shared->Prop),s.heap.get? I=some o->Q (.ref I) s->wpAny (MM w) A (pyIter (.ref I)) Q E s
def KC(w:World)(A:Around)(E:Value->Shared->Prop)(env:Env)(elt target iter:Expr)(ifs:List Expr)(scope:Scope)(bA:List (Str×Addr))(pos:Pos)(use:Option (Value->Sem Unit))(Q:Value->Shared->Prop):Value->Shared->Prop:=
 fun it bw=>wpAny (MM w) A (newList []) (fun acc dJ=>wpAny (MM w) A (newFunctionEnv scope env.globals bA [] env.qual none .none (some env)) (fun bD pR=>
  codeAny (MM w) A (.compStart (.ListComp elt [⟨target,iter,ifs,0⟩] scope pos) 0 it acc { bD with scope:=relabel scope env}) (compPost (MM w) A E use Q acc bD.locals) pR) E dJ) E bw
def CL(w:World)(A:Around)(elt target iter:Expr)(ifs:List Expr)(scope:Scope)(pos:Pos)(bD:Env)(it acc:Value)(R:Result->Shared->Prop)(s:Shared):Prop:=
 codeAny (MM w) A (.compLoop (.ListComp elt [⟨target,iter,ifs,0⟩] scope pos) 0 it acc bD) R s
theorem xX{elt target iter:Expr}{ifs:List Expr}{pos:Pos}{s:Shared}{Q:Value->Shared->Prop}(iB:closureFor scope env=pure bA)(hs:∀x,foldedSetIterable iter env x=pure x)
  (bz:scope.kind=.function) (rE:∀x∈scope.names,x.2=.local->scope.names.lookup x.1=some .local)
  (k:wpAny (MM w) A (eval iter env) (fun xv aC=>wpAny (MM w) A (pyIter xv) (KC w A E env elt target iter ifs scope bA pos none Q) E aC) E s):
  wpAny (MM w) A (eval (.ListComp elt [⟨target,iter,ifs,0⟩] scope pos) env) Q E s:=by
 rw[eval_ListComp]
 exact wpAny_comprehension_free (use:=none) rfl hs iB bz rE k
theorem FJ{elt target iter:Expr}{ifs:List Expr}{y:Str}{py pos xY:Pos}{s:Shared}{Q:Flow->Shared->Prop}(iB:closureFor scope env=pure bA)
  (FN:swapsWith (.ListComp elt [⟨target,iter,ifs,0⟩] scope pos) (some (.Name y py)) xY.line env=pure true) (hs:∀x,foldedSetIterable iter env x=pure x)
  (bz:scope.kind=.function) (rE:∀x∈scope.names,x.2=.local->scope.names.lookup x.1=some .local)
  (k:wpAny (MM w) A (eval iter env) (fun xv aC=>wpAny (MM w) A (pyIter xv) (KC w A E env elt target iter ifs scope bA pos (some (assign (.Name y py) env)) (fun _=>Q .next)) E aC) E s):
  wpAny (MM w) A (exec (.Assign [.Name y py] (.ListComp elt [⟨target,iter,ifs,0⟩] scope pos) xY) env) Q E s:=by
 rw[exec_Assign_Name_used _ _ _ _ FN]
 refine wpAny_bind (wpAny_standAt (wpAny_bind ?_))
 show wpAny _ A (do let _ <-comprehension (.ListComp elt [⟨target,iter,ifs,0⟩] scope pos) scope env _ (newList []) false (eval iter env) (some (assign (.Name y py) env))) _ _ s
 exact wpAny_bind (wpAny_mono (wpAny_comprehension_free (use:=some (assign (.Name y py) env)) (Q:=fun _ s'=>Q .next s') rfl hs iB bz rE k) (fun _ s' hq=>wpAny_pure (wpAny_pure hq)) fun _ _ e=>e)
theorem xZ{elt target iter:Expr}{ifs:List Expr}{pos:Pos}{use:Option (Value->Sem Unit)}{Q:Value->Shared->Prop}{I:Addr}{oi:Obj}(F:Fr agj L h m)(N:News agj L h news)
  (hm:(I,oi)∈news) (hi:cX w I oi) (cL:∀y∈scope.names,y.2≠.cell) (bz:scope.kind=.function)
  (k:∀D C o h',Fr agj L h' m->News agj L h' ((C,o)::(D,ay [] 0)::news)->mF C o []->(∀p∈news,p.1<D)->@LT.lt Nat _ D C->@LT.lt Nat _ L D->
   CL w A elt target iter ifs scope pos (compEnvC scope bA C env) (.ref I) (.ref D) (compPost (MM w) A E use Q (.ref D) C) ⟨h',gn,dr,tk,os⟩):
  KC w A E env elt target iter ifs scope bA pos use Q (.ref I) ⟨h,gn,dr,tk,os⟩:=by
 unfold KC
 refine wpAny_newObj_type (wpAny_newFunctionEnv cL (by intro y hy;simp at hy) (fun aq rF rG=>?_) bz)
 dsimp only at rF rG⊢
 have F2:=F.push (ay [] 0)
 have N2:=N.push F (ay [] 0)
 change Heap.SameBut (h.push (ay [] 0)).objs.size ((h.push (ay [] 0)).push _) aq at rG
 change aq.Ns (h.push (ay [] 0)).objs.size (dB []) at rF
 have hz:(h.push (ay [] 0)).objs.size=h.objs.size+1:=Heap.size_push ..
 have F3:=F2.push { cls:=.type "dict",data:=.dict #[]}
 have N3:=N2.push F2 { cls:=.type "dict",data:=.dict #[]}
 have hx:∀b o,b≠(h.push (ay [] 0)).objs.size->((h.push (ay [] 0)).push { cls:=.type "dict",data:=.dict #[]}).get? b=some o->aq.get? b=some o:=fun b o hb e=>(rG.2 b hb).trans e
 obtain⟨o',wC,pQ⟩:=mF.of rF
 have ap:∀p∈((h.objs.size,ay [] 0)::news:Led),p.1≠(h.push (ay [] 0)).objs.size:=N2.apart
 have N4:News agj L aq (((h.push (ay [] 0)).objs.size,o')::(h.objs.size,ay [] 0)::news):=cW N3 (.head ap) hx wC
 have F4:Fr agj L aq m:=cD F3 N3 (.head _) hx
 have key:=k h.objs.size (h.push (ay [] 0)).objs.size o' aq F4 N4 pQ (fun p hp=>Heap.lt_size (N p hp).1) (by rw[hz];exact Nat.lt_succ_self _) F.ns.lt
 refine codeAny_compStart_list key (hi _ _ _ _ (N4 _ (.tail _ (.tail _ hm))).1 key)
end
section
variable{w:World}{A:Around}{agj:Heap}{L C:Addr}{m:Str->Option Value}{news bK:Led}{E:Value->Shared->Prop}{h:Heap}{gn:Array GenState}{dr:Drawn}{tk:Nat}{os:OsState}{env bD:Env}{s:Shared}
def rH(w:World)(A:Around)(E:Value->Shared->Prop)(acc:Value)(Nx:Shared->Prop):Value->Shared->Prop:=
 fun x s=>wpAny (MM w) A (call (.builtin "list.append") [acc,x]) (fun _ s'=>Nx s') E s
def pS(w:World)(A:Around)(E:Value->Shared->Prop)(bD:Env)(elt:Expr)(acc:Value)(Nx:Shared->Prop):Bool->Shared->Prop:=
 fun b s=>if b=true then wpAny (MM w) A (eval elt bD) (rH w A E acc Nx) E s else Nx s
def wD(w:World)(A:Around)(E:Value->Shared->Prop)(bD:Env)(elt:Expr)(ifs:List Expr)(acc:Value)(Nx:Shared->Prop):Unit->Shared->Prop:=
 fun _ s=>match ifs with|[]=>wpAny (MM w) A (eval elt bD) (rH w A E acc Nx) E s|c::_=>wpAny (MM w) A (isTrue c bD (eval c bD)) (pS w A E bD elt acc Nx) E s
def kJ(w:World)(A:Around)(E:Value->Shared->Prop)(elt target iter:Expr)(ifs:List Expr)(scope:Scope)(pos:Pos)(bD:Env)(it acc:Value)(R:Result->Shared->Prop):Option Value->Shared->Prop:=
 fun r s=>match r with
  |none=>R (.ok .next) s
  |some v=>wpAny (MM w) A (letOwnedTupleGo target it v) (fun _ s=>wpAny (MM w) A (assign target bD v) (wD w A E bD elt ifs acc (CL w A elt target iter ifs scope pos bD it acc R)) E s) E s
section
variable{elt target iter:Expr}{ifs:List Expr}{scope:Scope}{pos:Pos}{it acc:Value}{R:Result->Shared->Prop}
theorem FO{c:Expr}{Q:Bool->Shared->Prop}(k:wpAny (MM w) A (isTrue c bD (eval c bD)) Q E s):
  wpAny (MM w) A (forIn [c] true fun c r=>if r=true then do let ok <-isTrue c bD (eval c bD);pure (ForInStep.yield ok) else pure (ForInStep.yield r)) Q E s:=by
 simp only[List.forIn_cons,List.forIn_nil,if_true]
 exact wpAny_bind (wpAny_bind (wpAny_mono k (fun b s hb=>wpAny_pure (wpAny_pure hb)) fun _ _ e=>e))
theorem pT(k:∀E',wpAny (MM w) A (pyNext it) (kJ w A E' elt target iter [] scope pos bD it acc R) E' s):CL w A elt target iter [] scope pos bD it acc R s:=by
 refine codeAny_of_tree ?_
 show wpAny _ _ ((compTurn (.ListComp elt [⟨target,iter,[],0⟩] scope pos) 0 it acc bD).onRaise (fun x=>do noteFrame x bD;theTreesLotGoes x)) _ _ s
 refine wpAny_noted ?_
 rw[compTurn_list1]
 refine wpAny_bind (wpAny_standAt (wpAny_bind (wpAny_mono (k _) (fun r aC aq=>?_) fun _ _ h'=>h')))
 cases r with
 |none=>exact wpAny_pure aq
 |some v=>
  refine wpAny_bind (wpAny_mono aq (fun _ bw bE=>?_) fun _ _ h'=>h')
  exact wpAny_bind (wpAny_mono bE (fun _ bw bE=>wpAny_bind (wpAny_bind (wpAny_mono bE (fun x dJ bH=>wpAny_bind (wpAny_mono bH
   (fun _ pR ie=>wpAny_pure (wpAny_pure ⟨rfl,ie⟩)) fun _ _ h'=>h')) fun _ _ h'=>h'))) fun _ _ h'=>h')
theorem gr{c:Expr}(k:∀E',wpAny (MM w) A (pyNext it) (kJ w A E' elt target iter [c] scope pos bD it acc R) E' s):CL w A elt target iter [c] scope pos bD it acc R s:=by
 refine codeAny_of_tree ?_
 show wpAny _ _ ((compTurn (.ListComp elt [⟨target,iter,[c],0⟩] scope pos) 0 it acc bD).onRaise (fun x=>do noteFrame x bD;theTreesLotGoes x)) _ _ s
 refine wpAny_noted ?_
 rw[compTurn_list]
 refine wpAny_bind (wpAny_standAt (wpAny_bind (wpAny_mono (k _) (fun r aC aq=>?_) fun _ _ h'=>h')))
 cases r with
 |none=>exact wpAny_pure aq
 |some v=>
  refine wpAny_bind (wpAny_mono aq (fun _ bw bE=>?_) fun _ _ h'=>h')
  refine wpAny_bind (wpAny_mono bE (fun _ bw bE=>?_) fun _ _ h'=>h')
  refine wpAny_bind (wpAny_mono (FO bE) (fun b dJ bH=>?_) fun _ _ h'=>h')
  unfold pS at bH
  cases b with
  |true=>
   simp only[if_true] at bH⊢
   exact wpAny_bind (wpAny_bind (wpAny_mono bH (fun x dJ bH=>wpAny_bind (wpAny_mono bH
    (fun _ pR ie=>wpAny_pure (wpAny_pure ⟨rfl,ie⟩)) fun _ _ h'=>h')) fun _ _ h'=>h'))
  |false=>
   simp only[Bool.false_eq_true,if_false] at bH⊢
   exact wpAny_pure ⟨rfl,bH⟩
theorem tO(k:R (.ok .next) s):kJ w A E elt target iter ifs scope pos bD it acc R none s:=k
theorem Bo{x:Str}{xp:Pos}{v:Value}(k:wpAny (MM w) A (storeName bD x v) (wD w A E bD elt ifs acc (CL w A elt (.Name x xp) iter ifs scope pos bD it acc R)) E s):
  kJ w A E elt (.Name x xp) iter ifs scope pos bD it acc R (some v) s:=
 wpAny_of_eq (rfl:letOwnedTupleGo (.Name x xp) it v=pure ()) (wpAny_assign_Name k)
theorem rI{elts k' tp}{v:Value}(k:wpAny (MM w) A (letOwnedTupleGo (.Tuple elts k' tp) it v) (fun _ s=>wpAny (MM w) A (assign (.Tuple elts k' tp) bD v) (wD w A E bD elt ifs acc (CL w A elt (.Tuple elts k' tp) iter ifs scope pos bD it acc R)) E s) E s):
  kJ w A E elt (.Tuple elts k' tp) iter ifs scope pos bD it acc R (some v) s:=k
theorem aaN{Nx:Shared->Prop}(k:wpAny (MM w) A (eval elt bD) (rH w A E acc Nx) E s):wD w A E bD elt [] acc Nx () s:=k
theorem FP{Nx:Shared->Prop}{c:Expr}(k:wpAny (MM w) A (isTrue c bD (eval c bD)) (pS w A E bD elt acc Nx) E s):wD w A E bD elt [c] acc Nx () s:=k
theorem KG{Nx:Shared->Prop}(k:wpAny (MM w) A (eval elt bD) (rH w A E acc Nx) E s):pS w A E bD elt acc Nx true s:=k
theorem KH{Nx:Shared->Prop}(k:Nx s):pS w A E bD elt acc Nx false s:=k
theorem x8{D:Addr}{vs:List Value}{n:Nat}{x:Value}{g:Obj->Led}{Q:Value->Shared->Prop}(F:Fr agj L h m)(N:News agj L h news)(U:UpdF D (ay vs n) news g)(hz:vs.length<=1000)
  (k:∀h' n',Fr agj L h' m->News agj L h' (g (ay (vs++[x]) n'))->Q .none ⟨h',gn,dr,tk,os⟩):wpAny (MM w) A (call (.builtin "list.append") [.ref D,x]) Q E ⟨h,gn,dr,tk,os⟩:=by
 have hm:=(bf U (o':=ay vs n)).1
 have ho:=(N _ hm).1
 refine wpAny_call_entry slot_list_append ⟨_,ho,rfl⟩ entry_list_append ?_ (args_list_append _ _)
 show wpAny _ _ (updateSeq D (·.push x) >>=fun _=>ret .none) _ _ _
 refine wpAny_bind ?_
 refine wpAny_updateSeq ho rfl (wpAny_pure ⟨.none,rfl,?_⟩)
 have e:∃n',Obj.mapSeq (·.push x) (ay vs n)=ay (vs++[x]) n':=⟨_,by unfold Obj.mapSeq ay;simp;rfl⟩
 obtain⟨n',e⟩:=e
 exact k _ n' (cD F N hm fun b o hb e=>((Heap.SameBut.update ..).2 b hb).trans e) (cW N U (fun b o hb e=>((Heap.SameBut.update ..).2 b hb).trans e) (by rw[Heap.get?_update_self _ ho (by rw[e];rfl),e]))
theorem FQ{acc:Value}{Q:Value->Shared->Prop}{o:Obj}{l:List (Str×Value)}(F:Fr agj L h m)(N:News agj L h news)(hm:(C,o)∈news)(ho:mF C o l)(D:Drop C news bK)
  (k:∀h',Fr agj L h' m->News agj L h' bK->Q acc ⟨h',gn,dr,tk,os⟩):compPost (MM w) A E none Q acc C (.ok .next) ⟨h,gn,dr,tk,os⟩:=
 ⟨dB l,ho h (N _ hm).1,fun h' hs=>have hx:∀b o,b≠C->h.get? b=some o->h'.get? b=some o:=fun b o hb e=>(hs.2 b hb).trans e
  k h' (cD F N hm hx) (gW N D hx)⟩
theorem Bp{acc:Value}{y:Str}{py:Pos}{Q:Value->Shared->Prop}{o:Obj}{l lf:List (Str×Value)}{cn:Str}{cs:Scope}{a:Addr}{aJ:Value}{cl:List (Str×Addr)}(F:Fr agj L h (dB lf))(N:News agj L h news)(hm:(C,o)∈news)(ho:mF C o l)(D:Drop C news bK)
  (hk:cs.kind=.function) (hx:(envX cn cs L a aJ cl).kindOf y=some .local)
  (k:∀h',Fr agj L h' (dB ((y,acc)::lf))->News agj L h' bK->Q .none ⟨h',gn,dr,tk+1,os⟩):compPost (MM w) A E (some (assign (.Name y py) (envX cn cs L a aJ cl))) Q acc C (.ok .next) ⟨h,gn,dr,tk,os⟩:=by
 show wpAny (MM w) A (assign (.Name y py) (envX cn cs L a aJ cl) acc) _ E _
 refine wpAny_assign_Name (Km F N hk hx fun h' F' N'=>⟨dB l,ho h' (N' _ hm).1,fun h'' hs=>?_⟩)
 have hx:∀b o,b≠C->h'.get? b=some o->h''.get? b=some o:=fun b o hb e=>(hs.2 b hb).trans e
 exact k h'' (cD F' N' hm hx) (gW N' D hx)
end
def tP(w:World)(A:Around)(E:Value->Shared->Prop)(target:Expr)(body:List Stmt)(env:Env)(it:Value)(Q:Flow->Shared->Prop)(Nx:Shared->Prop):Option Value->Shared->Prop:=
 fun r s=>match r with
  |none=>Q .next s
  |some v=>wpAny (MM w) A (letOwnedTupleGo target it v) (fun _ s=>wpAny (MM w) A (assign target env v) (fun _ s=>wpAny (MM w) A (execs body env) (fun f s=>match f with| .next| .cont=>Nx s| .brk=>Q .next s| .ret v=>Q (.ret v) s) E s) E s) E s
def rJ(Q:Flow->Shared->Prop)(Nx:Shared->Prop):Flow->Shared->Prop:=fun f s=>match f with| .next| .cont=>Nx s| .brk=>Q .next s| .ret v=>Q (.ret v) s
def FL(w:World)(A:Around)(E:Value->Shared->Prop)(target:Expr)(body:List Stmt)(env:Env)(Q:Flow->Shared->Prop)(it:Value)(s:Shared):Prop:=
 codeAny (MM w) A (.forLoop target it body [] env) (fun r s'=>match r with| .ok f=>Q f s'| .error e=>cameBackBy (MM w) A env E e s') s
section
variable{target iter:Expr}{body:List Stmt}{pos:Pos}{it:Value}{Q:Flow->Shared->Prop}{Nx:Shared->Prop}
theorem DJ(hs:∀x,foldedSetIterable iter env x=pure x)(k:wpAny (MM w) A (eval iter env) (fun x aC=>wpAny (MM w) A (pyIter x) (FL w A E target body env Q) E aC) E s):
  wpAny (MM w) A (exec (.For target iter body [] pos) env) Q E s:=wpAny_For k hs
theorem jh{E':Value->Shared->Prop}(k:wpAny (MM w) A (pyNext it) (tP w A (BE w A env E') target body env it Q (FL w A (BE w A env E') target body env Q it)) (BE w A env E') s):FL w A (BE w A env E') target body env Q it s:=by
 have hE:PassesOwn (MM w) A env (BE w A env E'):=PassesOwn.leaving
 have k':=wpAny_mono k (fun _ _ x=>x) hE
 refine codeAny_of_tree ?_
 show wpAny _ _ ((forTurn target it body [] env).onRaise (fun x=>do noteFrame x env;theTreesLotGoes x)) _ _ s
 refine wpAny_noted ?_
 simp only[forTurn]
 refine wpAny_bind (wpAny_standAt (wpAny_bind (wpAny_onRaise (wpAny_mono k' (fun r aC aq=>?_) fun _ _ h'=>wpAny_standAt h'))))
 cases r with
 |none=>exact wpAny_pure ⟨rfl,codeAny_block (wpAny_execs_nil aq)⟩
 |some v=>
  refine wpAny_bind (wpAny_mono aq (fun _ bw bE=>?_) hE)
  refine wpAny_bind (wpAny_mono bE (fun _ bw bE=>?_) hE)
  refine wpAny_bind (wpAny_mono bE (fun f dJ bH=>?_) hE)
  cases f with
  |next=>exact wpAny_pure ⟨rfl,bH⟩
  |cont=>exact wpAny_pure ⟨rfl,bH⟩
  |brk=>exact wpAny_pure bH
  |ret v=>exact wpAny_pure bH
theorem tQ(k:Q .next s):tP w A E target body env it Q Nx none s:=k
theorem Bq{x:Str}{xp:Pos}{v:Value}(k:wpAny (MM w) A (storeName env x v) (fun _ s=>wpAny (MM w) A (execs body env) (rJ Q Nx) E s) E s):tP w A E (.Name x xp) body env it Q Nx (some v) s:=
 wpAny_of_eq (rfl:letOwnedTupleGo (.Name x xp) it v=pure ()) (wpAny_assign_Name k)
theorem rK{elts k' tp}{v:Value}(k:wpAny (MM w) A (letOwnedTupleGo (.Tuple elts k' tp) it v) (fun _ s=>wpAny (MM w) A (assign (.Tuple elts k' tp) env v) (fun _ s=>wpAny (MM w) A (execs body env) (rJ Q Nx) E s) E s) E s):
  tP w A E (.Tuple elts k' tp) body env it Q Nx (some v) s:=k
theorem nW(k:Nx s):rJ Q Nx .next s:=k
theorem Br(k:Nx s):rJ Q Nx .cont s:=k
theorem FU(k:Q .next s):rJ Q Nx .brk s:=k
theorem rL{v:Value}(k:Q (.ret v) s):rJ Q Nx (.ret v) s:=k
end
def bg(o:Obj)(t:Addr)(i:Nat):Prop:=o.cls=.type "tuple_iterator"/\o.data=.fields #[.ref t,.int i 0]
def jP(o:Obj)(t:Addr)(i:Nat):Prop:=o.cls=.type "list_iterator"/\o.data=.fields #[.ref t,.int i 0]
noncomputable abbrev rM(a b c:Int)(t u v:Tok):Obj:={ cls:=.type "range",dict:=none,data:=.fields #[.int a t,.int b u,.int c v],slots:=#[]}
noncomputable abbrev ji(x left step:Int):Obj:={ cls:=.type "range_iterator",dict:=none,data:=.fields #[rawInt x,rawInt left,rawInt step],slots:=#[]}
theorem bg.self{o:Obj}{t I:Addr}{i:Nat}(x:bg o t i):cX w I o:=fun _ _ _ _ e k=>wpAny_pyIter_tupleiter ⟨o,e,x.1,x.2⟩ k
theorem jP.self{o:Obj}{t I:Addr}{i:Nat}(x:jP o t i):cX w I o:=fun _ _ _ _ e k=>wpAny_pyIter_listiter ⟨o,e,x.1,x.2⟩ k
theorem x9{x left step:Int}{I:Addr}:cX w I (ji x left step):=fun _ _ _ _ e k=>wpAny_pyIter_rangeiter e k
theorem FW{t:Addr}{vs:List Value}{n:Nat}{Q:Value->Shared->Prop}(F:Fr agj L h m)(N:News agj L h news)(hm:(t,aj vs n)∈news)
  (k:∀I o h',Fr agj L h' m->News agj L h' ((I,o)::news)->bg o t 0->cX w I o->(∀p∈news,p.1<I)->@LT.lt Nat _ L I->Q (.ref I) ⟨h',gn,dr,tk,os⟩):wpAny (MM w) A (pyIter (.ref t)) Q E ⟨h,gn,dr,tk,os⟩:=
 wpAny_pyIter_tuple (s:=⟨h,gn,dr,tk,os⟩) (N.isTup hm) (k _ _ _ (F.push _) (N.push F _) ⟨rfl,rfl⟩ (bg.self ⟨rfl,rfl⟩) (fun p hp=>Heap.lt_size (N p hp).1) F.ns.lt)
theorem FY{t:Addr}{vs:List Value}{n:Nat}{Q:Value->Shared->Prop}(F:Fr agj L h m)(N:News agj L h news)(hm:(t,ay vs n)∈news)
  (k:∀I o h',Fr agj L h' m->News agj L h' ((I,o)::news)->jP o t 0->cX w I o->(∀p∈news,p.1<I)->@LT.lt Nat _ L I->Q (.ref I) ⟨h',gn,dr,tk,os⟩):wpAny (MM w) A (pyIter (.ref t)) Q E ⟨h,gn,dr,tk,os⟩:=
 wpAny_pyIter_list (s:=⟨h,gn,dr,tk,os⟩) (N.isList hm) (k _ _ _ (F.push _) (N.push F _) ⟨rfl,rfl⟩ (jP.self ⟨rfl,rfl⟩) (fun p hp=>Heap.lt_size (N p hp).1) F.ns.lt)
theorem FZ{t:Addr}{a b c:Int}{u v z:Tok}{Q:Value->Shared->Prop}(F:Fr agj L h m)(N:News agj L h news)(hm:(t,rM a b c u v z)∈news)(hs:Builtin.Range.small a b c=true)
  (k:∀I h',Fr agj L h' m->News agj L h' ((I,ji a (Builtin.Range.rangeSize a b c) c)::news)->(∀p∈news,p.1<I)->@LT.lt Nat _ L I->Q (.ref I) ⟨h',gn,dr,tk,os⟩):wpAny (MM w) A (pyIter (.ref t)) Q E ⟨h,gn,dr,tk,os⟩:=
 wpAny_pyIter_range (s:=⟨h,gn,dr,tk,os⟩) (N _ hm).1 hs (k _ _ (F.push _) (N.push F _) (fun p hp=>Heap.lt_size (N p hp).1) F.ns.lt)
theorem F0{I t:Addr}{o:Obj}{i:Nat}{vs:List Value}{n:Nat}{x:Value}{g:Obj->Led}{Q:Option Value->Shared->Prop}(F:Fr agj L h m)(N:News agj L h news)(U:UpdF I o news g)(hi:bg o t i)(hm:(t,aj vs n)∈news)(hx:vs[i]?=some x)
  (k:∀h' o',Fr agj L h' m->News agj L h' (g o')->bg o' t (i+1)->Q (some x) ⟨h',gn,dr,tk,os⟩):wpAny (MM w) A (pyNext (.ref I)) Q E ⟨h,gn,dr,tk,os⟩:=by
 have hI:=(bf U (o':=o)).1
 refine wpAny_pyNext_tuple_item (s:=⟨h,gn,dr,tk,os⟩) ⟨o,(N _ hI).1,hi.1,hi.2⟩ (N.isTup hm) (by simpa using hx) fun h' mG hs=>?_
 obtain⟨o',wC,hc,hd⟩:=mG
 have hx:∀b o,b≠I->h.get? b=some o->h'.get? b=some o:=fun b o hb e=>(hs.2 b hb).trans e
 exact k h' o' (cD F N hI hx) (cW N U hx wC) ⟨hc,hd⟩
theorem F6{I t:Addr}{o:Obj}{i:Nat}{vs:List Value}{n:Nat}{x:Value}{g:Obj->Led}{Q:Option Value->Shared->Prop}(F:Fr agj L h m)(N:News agj L h news)(U:UpdF I o news g)(hi:jP o t i)(hm:(t,ay vs n)∈news)(hx:vs[i]?=some x)
  (k:∀h' o',Fr agj L h' m->News agj L h' (g o')->jP o' t (i+1)->Q (some x) ⟨h',gn,dr,tk,os⟩):wpAny (MM w) A (pyNext (.ref I)) Q E ⟨h,gn,dr,tk,os⟩:=by
 have hI:=(bf U (o':=o)).1
 refine wpAny_pyNext_list_item (s:=⟨h,gn,dr,tk,os⟩) ⟨o,(N _ hI).1,hi.1,hi.2⟩ (N.isList hm) (by simpa using hx) fun h' mG hs=>?_
 obtain⟨o',wC,hc,hd⟩:=mG
 have hx:∀b o,b≠I->h.get? b=some o->h'.get? b=some o:=fun b o hb e=>(hs.2 b hb).trans e
 exact k h' o' (cD F N hI hx) (cW N U hx wC) ⟨hc,hd⟩
theorem F7{I:Addr}{x left step:Int}{g:Obj->Led}{Q:Option Value->Shared->Prop}(F:Fr agj L h m)(N:News agj L h news)(U:UpdF I (ji x left step) news g)(hl:0<left)
  (k:∀h',Fr agj L h' m->News agj L h' (g (ji (x+step) (left-1) step))->Q (some (.int x tk)) ⟨h',gn,dr,tk+1,os⟩):wpAny (MM w) A (pyNext (.ref I)) Q E ⟨h,gn,dr,tk,os⟩:=by
 have hI:=(bf U (o':=ji x left step)).1
 refine wpAny_pyNext_range_item (s:=⟨h,gn,dr,tk,os⟩) (N _ hI).1 hl fun h' mG hs=>?_
 have hx:∀b o,b≠I->h.get? b=some o->h'.get? b=some o:=fun b o hb e=>(hs.2 b hb).trans e
 exact k h' (cD F N hI hx) (cW N U hx mG)
theorem F8{I t:Addr}{o:Obj}{i:Nat}{vs:List Value}{n:Nat}{Q:Option Value->Shared->Prop}(F:Fr agj L h m)(N:News agj L h news)(hI:(I,o)∈news)(D:Drop I news bK)(hi:bg o t i)(hm:(t,aj vs n)∈news)(hh:A.handled=none)(hx:vs[i]?=none)
  (k:∀h',Fr agj L h' m->News agj L h' bK->Q none ⟨h',gn,dr,tk,os⟩):wpAny (MM w) A (pyNext (.ref I)) Q E ⟨h,gn,dr,tk,os⟩:=
 wpAny_pyNext_tuple_end (s:=⟨h,gn,dr,tk,os⟩) hh ⟨o,(N _ hI).1,hi.1,hi.2⟩ (N.isTup hm) (by simpa using hx) fun h' hs=>k h' (cD F N hI hs) (gW N D hs)
theorem F9{I t:Addr}{o:Obj}{i:Nat}{vs:List Value}{n:Nat}{Q:Option Value->Shared->Prop}(F:Fr agj L h m)(N:News agj L h news)(hI:(I,o)∈news)(D:Drop I news bK)(hi:jP o t i)(hm:(t,ay vs n)∈news)(hh:A.handled=none)(hx:vs[i]?=none)
  (k:∀h',Fr agj L h' m->News agj L h' bK->Q none ⟨h',gn,dr,tk,os⟩):wpAny (MM w) A (pyNext (.ref I)) Q E ⟨h,gn,dr,tk,os⟩:=
 wpAny_pyNext_list_end (s:=⟨h,gn,dr,tk,os⟩) hh ⟨o,(N _ hI).1,hi.1,hi.2⟩ (N.isList hm) (by simpa using hx) fun h' hs=>k h' (cD F N hI hs) (gW N D hs)
theorem Ga{I:Addr}{x left step:Int}{Q:Option Value->Shared->Prop}(F:Fr agj L h m)(N:News agj L h news)(hI:(I,ji x left step)∈news)(D:Drop I news bK)(hh:A.handled=none)(hl:left<=0)
  (k:∀h',Fr agj L h' m->News agj L h' bK->Q none ⟨h',gn,dr,tk,os⟩):wpAny (MM w) A (pyNext (.ref I)) Q E ⟨h,gn,dr,tk,os⟩:=
 wpAny_pyNext_range_end (s:=⟨h,gn,dr,tk,os⟩) hh (N _ hI).1 hl fun h' hs=>k h' (cD F N hI hs) (gW N D hs)
end
theorem aaO:∀{a0 a1:Nat},a0=2->a1<a0->a1=0\/a1=1:=fun h1 h2=>(Nat.lt_succ_iff_lt_or_eq.mp (Nat.lt_of_lt_of_le h2 (Nat.le_of_eq h1))).elim (fun k=>.inl (Nat.lt_one_iff.mp k)) .inr
theorem KI:∀{a0:Nat} {a1:Int},a0<=1000->a1<(↑a0:Int)->a1<2 ^ 63:=fun h1 h2=>Int.lt_of_lt_of_le h2 (Int.le_trans (Int.ofNat_le.mpr h1) (by decide))
open AutoSeq1 (wpAny_loadPart')
inductive jQ(ds:List Addr)(bG news:Led)(g:Led->Led):Prop
 |mk(pre post:Led)(e:news=pre++bG++post)(hg:∀b,g b=pre++b++post)(a:∀p∈pre,p.1∉ds)(b:∀p∈post,p.1∉ds)
theorem Bs{ds:List Addr}{bG news:Led}{g:Led->Led}{q:Addr×Obj}(hq:q.1∉ds)(U:jQ ds bG news g):jQ ds bG (q::news) (fun b=>q::g b):=by
 obtain⟨pre,post,rfl,hg,a,b⟩:=U
 exact⟨q::pre,post,rfl,fun x=>by rw[hg];rfl,fun p hp=>by rcases List.mem_cons.mp hp with rfl|hp;exact hq;exact a p hp,b⟩
theorem Gb{ds:List Addr}{bG news tl:Led}{g:Led->Led}(hq:∀p∈tl,p.1∉ds)(U:jQ ds bG news g):jQ ds bG (tl++news) (fun b=>tl++g b):=by
 obtain⟨pre,post,rfl,hg,a,b⟩:=U
 exact⟨tl++pre,post,by simp,fun x=>by rw[hg];simp,fun p hp=>by rcases List.mem_append.mp hp with hp|hp;exact hq p hp;exact a p hp,b⟩
theorem aaP{d1 d2:Addr}{o1 o2:Obj}{r:Led}(h:∀p∈r,p.1∉[d1,d2]):jQ [d1,d2] [(d1,o1),(d2,o2)] ((d1,o1)::(d2,o2)::r) (fun b=>b++r):=⟨[],r,rfl,fun _=>rfl,(fun _ hp=>nomatch hp),h⟩
theorem aaQ{d1 d2 d3 d4 d5:Addr}{o1 o2 o3 o4 o5:Obj}{r:Led}(h:∀p∈r,p.1∉[d1,d2,d4,d5]):
  jQ [d1,d2,d4,d5] [(d1,o1),(d2,o2),(d3,o3),(d4,o4),(d5,o5)] ((d1,o1)::(d2,o2)::(d3,o3)::(d4,o4)::(d5,o5)::r) (fun b=>b++r):=⟨[],r,rfl,fun _=>rfl,(fun _ hp=>nomatch hp),h⟩
theorem j0{agj h h':Heap}{L:Addr}{ds:List Addr}{bG jk news:Led}{g:Led->Led}(N:News agj L h news)(U:jQ ds bG news g)(hx:∀b o,b∉ds->h.get? b=some o->h'.get? b=some o)
  (hb:∀p∈jk,h'.get? p.1=some p.2/\∃o,(p.1,o)∈bG):News agj L h' (g jk):=by
 obtain⟨pre,post,rfl,hg,a,b⟩:=U
 rw[hg]
 intro p hp
 rcases List.mem_append.mp hp with hp|hp
 ·rcases List.mem_append.mp hp with hp|hp
  ·have:=N p (List.mem_append_left _ (List.mem_append_left _ hp));exact⟨hx _ _ (a p hp) this.1,this.2⟩
  ·obtain⟨x,o,ho⟩:=hb p hp
   exact⟨x,(N _ (List.mem_append_left _ (List.mem_append_right _ ho))).2⟩
 ·have:=N p (List.mem_append_right _ hp);exact⟨hx _ _ (b p hp) this.1,this.2⟩
theorem cF{ds:List Addr}{bG news:Led}{g:Led->Led}(U:jQ ds bG news g):∀p∈bG,p∈news:=by
 obtain⟨pre,post,rfl,hg,a,b⟩:=U
 exact fun p hp=>List.mem_append_left _ (List.mem_append_right _ hp)
theorem fN{agj h h':Heap}{L:Addr}{m:Str->Option Value}{ds:List Addr}{news:Led}(F:Fr agj L h m)(N:News agj L h news)(hm:∀d∈ds,∃o,(d,o)∈news)(hx:∀b o,b∉ds->h.get? b=some o->h'.get? b=some o):Fr agj L h' m:=
 xV F (fun d hd=>let⟨_,ho⟩:=hm d hd;(N _ ho).2) hx
theorem eO{agj h:Heap}{L a b:Addr}{news:Led}{o1 o2:Obj}(N:News agj L h news)(h1:(a,o1)∈news)(h2:(b,o2)∈news)(hc:o1.cls≠o2.cls):a≠b:=fun q=>by
 subst q
 have x1:=(N _ h1).1
 have x2:=(N _ h2).1
 rw[x1] at x2
 cases x2
 exact hc rfl
section
variable{prog:Program}{w:World}{A:Around}{E:Value->Shared->Prop}{s:Shared}
theorem iK{it t:Addr}{i:Nat}{items:Array Value}{x:Value}{Q:Value->Shared->Prop}(hit:s.heap.IsTupleIter it t i)(ht:s.heap.IsTuple t items)(hx:items[i]?=some x)
  (hQ:∀h',h'.IsTupleIter it t (i+1)->Heap.SameBut it s.heap h'->Q x { s with heap:=h'}):wpAny (model prog w) A (Builtin.SmallTypes.nextOf (.ref it)) Q E s:=by
 obtain⟨o,ho,hc,hd⟩:=id hit
 obtain⟨ol,hol,_,nl,wF⟩:=ht
 unfold Builtin.SmallTypes.nextOf
 refine wpAny_bind (wpAny_callSpecial?_slot (name:="__next__") hit.typeIs F.slot_tuple_iterator_next
  (wpAny_call_entry F.slot_tuple_iterator_next hit.typeIs F.entry_tuple_iterator_next ?_ (F.args_tuple_iterator_next_1 _)))
 show wpAny _ _ (field (.ref it) 0 >>=_) _ _ s
 refine wpAny_bind (wpAny_field ho hd (x:=.ref t) rfl ?_)
 show wpAny _ _ (if(Value.ref t==Value.none)=true then _ else _) _ _ s
 rw[if_neg (show ¬((Value.ref t==Value.none)=true) from Bool.false_ne_true)]
 show wpAny _ _ (field (.ref it) 1 >>=_) _ _ s
 refine wpAny_bind (wpAny_field ho hd (x:=.int i 0) rfl ?_)
 show wpAny _ _ (seqItems? (.ref t) >>=_) _ _ s
 refine wpAny_bind (wpAny_seqItems hol wF ?_)
 simp only[Int.toNat_natCast,hx]
 refine wpAny_bind (wpAny_setField ho hd (by simp) (wpAny_pure ⟨x,rfl,wpAny_pure (hQ _ ?_ (Heap.SameBut.update ..))⟩))
 exact⟨_,Heap.get?_update_self _ ho (Obj.isFreed_of_fields (Obj.data_mapFields hd _)),(Obj.cls_mapFields ..).trans hc,by
  rw[Obj.data_mapFields hd];simp[rawInt]⟩
theorem iC{it t:Addr}{i:Nat}{items:Array Value}{Q:Value->Shared->Prop}(hh:A.handled=none)(hit:s.heap.IsTupleIter it t i)(ht:s.heap.IsTuple t items)(hx:items[i]?=none)
  (hE:∀h' e,Heap.ExtBut it s.heap h'->(∃o,h'.get? e=some o/\o.cls=.type "StopIteration")->E (.ref e) { s with heap:=h'}):wpAny (model prog w) A (Builtin.SmallTypes.nextOf (.ref it)) Q E s:=by
 obtain⟨o,ho,hc,hd⟩:=id hit
 obtain⟨ol,hol,_,nl,wF⟩:=ht
 unfold Builtin.SmallTypes.nextOf
 refine wpAny_bind (wpAny_callSpecial?_slot (name:="__next__") hit.typeIs F.slot_tuple_iterator_next
  (wpAny_call_entry F.slot_tuple_iterator_next hit.typeIs F.entry_tuple_iterator_next ?_ (F.args_tuple_iterator_next_1 _)))
 show wpAny _ _ (field (.ref it) 0 >>=_) _ _ s
 refine wpAny_bind (wpAny_field ho hd (x:=.ref t) rfl ?_)
 show wpAny _ _ (if(Value.ref t==Value.none)=true then _ else _) _ _ s
 rw[if_neg (show ¬((Value.ref t==Value.none)=true) from Bool.false_ne_true)]
 show wpAny _ _ (field (.ref it) 1 >>=_) _ _ s
 refine wpAny_bind (wpAny_field ho hd (x:=.int i 0) rfl ?_)
 show wpAny _ _ (seqItems? (.ref t) >>=_) _ _ s
 refine wpAny_bind (wpAny_seqItems hol wF ?_)
 simp only[Int.toNat_natCast,hx]
 refine wpAny_bind (wpAny_rule (wpAny_bind (wpAny_setField ho hd (by simp) ?_)))
 show wpAny _ _ (newExc (.type "StopIteration") [] >>=_) _ _ _
 refine wpAny_bind ?_
 simp only[newExc,newTuple]
 refine wpAny_bind (wpAny_newObj_type ?_ (by size_fits))
 refine wpAny_bind (m:=firstArgMember _ _) (wpAny_of_eq (a:=Value.none) (by first|rfl|(simp only[firstArgMember];rfl)) ?_)
 refine wpAny_newObj_type ?_ (by size_fits)
 simp only[raiseNew]
 refine wpAny_bind (wpAny_handled ?_)
 first|rw[show A.in1.handled=none from hh]|rw[hh]
 refine wpAny_bind (wpAny_pure (wpAny_throw ?_))
 exact hE _ _ (((Heap.SameBut.update ..).extBut.push _).push _) ⟨_,Heap.get?_push_size _ rfl,rfl⟩
theorem gX(hh:A.handled=none)(it t:Addr)(mO:t≠it)(items:Array Value):
  Draws prog w A it [it,t] items.size (fun i v=>items[i]?=some v) (fun i h=>h.IsTupleIter it t i/\h.IsTuple t items) where
 live:=fun _ _ st=>let⟨o,ho,_⟩:=st.1;⟨o,ho⟩
 frame:=fun _ _ _ st hk=>⟨(let⟨o,ho,r⟩:=st.1;⟨o,hk it (by simp) o ho,r⟩),(let⟨o,ho,r⟩:=st.2;⟨o,hk t (by simp) o ho,r⟩)⟩
 item:=fun i s Q E hi st hQ=>by
  refine iK st.1 st.2 (x:=items[i]) (by simp[hi]) fun h' ya cM=>?_
  exact hQ _ h' s.toks (by simp[hi]) ⟨ya,st.2.extBut cM.extBut mO⟩ cM
 done:=fun s Q E st hE=>iC hh st.1 st.2 (by simp) hE
theorem KJ{M:Model}{A:Around}{x:Bool}{Q:Bool->Shared->Prop}{E:Value->Shared->Prop}{s:Shared}(h:∀b,Q b s):wpAny M A (pure x) Q E s:=wpAny_pure (h x)
theorem kK(l:Addr)(items:Array Value)(n:Nat):
  Meets (Builtin.«enumerate.__new__» ⟨[.type "enumerate",.ref l],[]⟩) (fun _ R s=>s.heap.get? l=some { cls:=.type "tuple",dict:=none,data:=.seq items n,slots:=#[]}/\
   R (.ok (.ret (.ref (s.heap.push { cls:=.type "tuple_iterator",data:=.fields #[.ref l,.int 0 0]}).objs.size)))
    { s with heap:=(s.heap.push { cls:=.type "tuple_iterator",data:=.fields #[.ref l,.int 0 0]}).push { cls:=.type "enumerate",data:=.fields #[.none,.bool false,.ref s.heap.objs.size,rawInt 0,.none,.none]}}):=
 .of_wp fun prog w A R s h=>by
  obtain⟨hp,g,d,tk,os⟩:=s;obtain⟨hl,h⟩:=h
  have Gf:=sub_enumerate
  have hL:Heap.IsTuple (Shared.heap ⟨hp,g,d,tk,os⟩) l items:=⟨_,hl,rfl,n,rfl⟩
  wp_walk using wpAny_loadPart' hl
  refine wpAny_stack_any fun st=>KJ fun b=>?_
  cases b
  ·wp_walk using wpAny_loadPart' hl,wpAny_pyIter_tuple hL
   exact⟨_,rfl,h⟩
  ·wp_walk using wpAny_loadPart' hl,wpAny_pyIter_tuple hL
   exact⟨_,rfl,h⟩
end
section
variable{w:World}{A:Around}{agj:Heap}{L C:Addr}{m:Str->Option Value}{news bK:Led}{E:Value->Shared->Prop}{h:Heap}{gn:Array GenState}{dr:Drawn}{tk:Nat}{os:OsState}
noncomputable abbrev aS(f0:Value)(it:Addr)(i:Int)(old:Value):Obj:={ cls:=.type "enumerate",dict:=none,data:=.fields #[f0,.bool false,.ref it,rawInt i,.none,old],slots:=#[]}
theorem gY{f0 old:Value}{I it:Addr}{i:Int}(hf:f0=.none):cX w I (aS f0 it i old):=fun _ _ _ _ e k=>by subst hf;exact wpAny_pyIter_enum e k
theorem Bt{t:Addr}{vs:List Value}{n:Nat}{Q:Value->Shared->Prop}(F:Fr agj L h m)(N:News agj L h news)(hm:(t,aj vs n)∈news)
  (k:∀e it oi h',Fr agj L h' m->News agj L h' ((e,aS .none it 0 .none)::(it,oi)::news)->bg oi t 0->(∀p∈news,p.1<it)->@LT.lt Nat _ it e->@LT.lt Nat _ L it->Q (.ref e) ⟨h',gn,dr,tk,os⟩):
  wpAny (MM w) A (call (.type "enumerate") [.ref t]) Q E ⟨h,gn,dr,tk,os⟩:=by
 refine callType_new PySem.F.called_enumerate (by decide) (PySem.F.typeCall_enumerate_1 _) (PySem.F.newCall_enumerate_1 _) (fun obj=>PySem.F.args_object_init_2 obj _) PySem.F.entry_enumerate_new
  (kK t vs.toArray n) ⟨(N _ hm).1,?_⟩
 have F1:=F.push { cls:=.type "tuple_iterator",data:=.fields #[.ref t,.int 0 0]}
 have N1:=N.push F { cls:=.type "tuple_iterator",data:=.fields #[.ref t,.int 0 0]}
 have F2:=F1.push (aS .none h.objs.size 0 .none)
 have N2:=N1.push F1 (aS .none h.objs.size 0 .none)
 exact⟨⟨_,(N2 _ (.head _)).1,rfl⟩,k _ _ _ _ F2 N2 ⟨rfl,rfl⟩ (fun p hp=>Heap.lt_size (N p hp).1) (by rw[Heap.size_push];exact Nat.lt_succ_self _) F.ns.lt⟩
theorem Bu{e it t:Addr}{oi:Obj}{i:Nat}{j:Int}{old x:Value}{vs:List Value}{n:Nat}{g:Led->Led}{Q:Option Value->Shared->Prop}(F:Fr agj L h m)(N:News agj L h news)
  (Bv:(e,aS .none it j old)∈news) (U:jQ [e,it] [(e,aS .none it j old),(it,oi)] news g) (hi:bg oi t i) (hj:j=(i:Int)) (hm:(t,aj vs n)∈news) (hx:vs[i]?=some x) (hh:A.handled=none)
  (k:∀T h' o' aN,Fr agj L h' m->News agj L h' ((T,aj [.int j aN,x] 0)::g [(e,aS (rawInt T) it (j+1) x),(it,o')])->bg o' t (i+1)->(∀p∈news,p.1<T)->@LT.lt Nat _ L T->Q (some (.ref T)) ⟨h',gn,dr,aN+1,os⟩):
  wpAny (MM w) A (pyNext (.ref e)) Q E ⟨h,gn,dr,tk,os⟩:=by
 subst hj
 have he:=cF U _ (.head _)
 have hI:=cF U _ (.tail _ (.head _))
 have a1:e≠it:=eO N he hI (by rw[hi.1];show Value.type "enumerate"≠Value.type "tuple_iterator";decide)
 have a2:t≠it:=eO N hm hI (by rw[hi.1];show Value.type "tuple"≠Value.type "tuple_iterator";decide)
 have a4:e≠t:=eO N he hm (show Value.type "enumerate"≠Value.type "tuple" by decide)
 have a3:e∉[it,t]:=by simp only[List.mem_cons,List.not_mem_nil,or_false,not_or];exact⟨a1,a4⟩
 have cO:i<vs.toArray.size:=by simp only[List.size_toArray];exact(List.getElem?_eq_some_iff.mp hx).1
 refine wpAny_pyNext_enum_itemD (s:=⟨h,gn,dr,tk,os⟩) (gX (A:=A.in1) hh it t a2 vs.toArray) (N _ he).1 ⟨⟨oi,(N _ hI).1,hi.1,hi.2⟩,N.isTup hm⟩ cO a1 a3 fun y h' aN hP ho hs hT hz hk=>?_
 have hy:y=x:=by
  have Gg:vs.toArray[i]?=some y:=hP
  simp only[List.getElem?_toArray,hx,Option.some.injEq] at Gg
  exact Gg.symm
 subst hy
 obtain⟨⟨o',wC,hc,hd⟩,_⟩:=hs
 have iJ:∀b o,b∉[e,it]->h.get? b=some o->h'.get? b=some o:=fun b o hb z=>hk b o (fun q=>hb (q▸.head _)) (fun q=>hb (q▸.tail _ (.head _))) z
 have F':Fr agj L h' m:=fN F N (fun d hd=>by
  rcases List.mem_cons.mp hd with rfl|hd
  ·exact⟨_,he⟩
  ·rcases List.mem_cons.mp hd with rfl|hd
   ·exact⟨_,hI⟩
   ·cases hd) iJ
 have N':=j0 (jk:=[(e,aS (rawInt h.objs.size) it ((i:Int)+1) y),(it,o')]) N U iJ (fun p hp=>by
  rcases List.mem_cons.mp hp with rfl|hp
  ·exact⟨ho,_,.head _⟩
  ·rcases List.mem_cons.mp hp with rfl|hp
   ·exact⟨wC,_,.tail _ (.head _)⟩
   ·cases hp)
 refine k h.objs.size h' o' aN F' (fun p hp=>?_) ⟨hc,hd⟩ (fun p hp=>Heap.lt_size (N p hp).1) F.ns.lt
 rcases List.mem_cons.mp hp with rfl|hp
 ·refine⟨hT,Nat.ne_of_gt F.ns.lt,?_⟩
  cases q:agj.get? h.objs.size with
  |none=>rfl
  |some _=>exact absurd (Heap.lt_size (F.keep _ _ q)) (Nat.lt_irrefl _)
 ·exact N' p hp
theorem Bw{e it t:Addr}{oi:Obj}{i:Nat}{j:Int}{old:Value}{vs:List Value}{n:Nat}{Q:Option Value->Shared->Prop}(F:Fr agj L h m)(N:News agj L h news)
  (he:(e,aS .none it j old)∈news) (hj:j=(i:Int)) (hI:(it,oi)∈news) (D:Drop it news bK) (hi:bg oi t i) (hm:(t,aj vs n)∈news) (hx:i=vs.length) (hh:A.handled=none)
  (k:∀h',Fr agj L h' m->News agj L h' bK->Q none ⟨h',gn,dr,tk,os⟩):wpAny (MM w) A (pyNext (.ref e)) Q E ⟨h,gn,dr,tk,os⟩:=by
 subst hj
 subst hx
 refine wpAny_pyNext_enum_endD (s:=⟨h,gn,dr,tk,os⟩) (gX (A:=A.in1) hh it t (eO N hm hI (by rw[hi.1];show Value.type "tuple"≠Value.type "tuple_iterator";decide)) vs.toArray) (N _ he).1 (by simp only[List.size_toArray];exact⟨⟨oi,(N _ hI).1,hi.1,hi.2⟩,N.isTup hm⟩) fun h' hs=>k h' (cD F N hI hs) (gW N D hs)
theorem Bx{elts:List Expr}{x1}{pos:Pos}{e it T:Addr}{i:Int}{item:Value}{g:Obj->Led}{Q:Unit->Shared->Prop}(F:Fr agj L h m)(N:News agj L h news)(U:UpdF e (aS (rawInt T) it i item) news g)
  (k:∀h',Fr agj L h' m->News agj L h' (g (aS .none it i item))->Q () ⟨h',gn,dr,tk,os⟩):wpAny (MM w) A (letOwnedTupleGo (.Tuple elts x1 pos) (.ref e) (.ref T)) Q E ⟨h,gn,dr,tk,os⟩:=by
 have he:=(bf U (o':=aS .none it i item)).1
 refine wpAny_letOwnedTupleGo_enum (s:=⟨h,gn,dr,tk,os⟩) (N _ he).1 fun h' KL hs=>?_
 have hx:∀b o,b≠e->h.get? b=some o->h'.get? b=some o:=fun b o hb z=>(hs.2 b hb).trans z
 exact k h' (cD F N he hx) (cW N U hx KL)
end
section
variable{prog:Program}{w:World}{A:Around}{E:Value->Shared->Prop}{s:Shared}
theorem kL{z TI TO i1 i2 l1 l2:Addr}{k1 k2:Nat}{xs ys:Array Value}{x y a b:Value}{Q:Value->Shared->Prop}(D:ZipApart z TI TO i1 i2 l1 l2)
  (hz:IsZip s.heap z TI TO .none) (hTI:PySem.IsPair s.heap TI (.ref i1) (.ref i2)) (hTO:PySem.IsPair s.heap TO a b)
  (h1:s.heap.IsTupleIter i1 l1 k1) (h2:s.heap.IsTupleIter i2 l2 k2) (A4:s.heap.IsTuple l1 xs) (Gh:s.heap.IsTuple l2 ys) (hx:xs[k1]?=some x) (hy:ys[k2]?=some y)
  (hQ:∀h',IsZip h' z TI TO (rawInt s.heap.objs.size)->PySem.IsPair h' TO x y->h'.IsTupleIter i1 l1 (k1+1)->h'.IsTupleIter i2 l2 (k2+1)->PySem.IsPair h' s.heap.objs.size x y->h'.objs.size=s.heap.objs.size+1->
   (∀c o,c≠z->c≠TO->c≠i1->c≠i2->s.heap.get? c=some o->h'.get? c=some o)->Q (.ref s.heap.objs.size) { s with heap:=h'}):
  wpAny (model prog w) A (Builtin.«zip.__next__» ⟨[.ref z],[]⟩) (fun fin s'=>∃v,fin=.done (.ret v)/\Q v s') E s:=by
 show wpAny _ _ (field (.ref z) 2 >>=_) _ _ _
 refine wpAny_bind (wpAny_field hz rfl (x:=.bool false) rfl ?_)
 show wpAny _ _ (field (.ref z) 3 >>=_) _ _ _
 refine wpAny_bind (wpAny_field hz rfl (x:=.ref TI) rfl ?_)
 refine wpAny_bind (wpAny_seqItems hTI rfl ?_)
 show wpAny _ _ (Builtin.SmallTypes.ownedTupleIsFree (.ref z) >>=_) _ _ _
 refine wpAny_bind ?_
 unfold Builtin.SmallTypes.ownedTupleIsFree
 refine wpAny_bind (wpAny_field hz rfl (x:=.none) rfl (wpAny_pure ?_))
 simp only[if_true]
 refine wpAny_bind (wpAny_rule ?_)
 refine wpAny_bind (wpAny_field hz rfl (x:=.ref TO) rfl ?_)
 refine wpAny_bind (wpAny_setField_rec hz (by simp) fun aq kM dh=>?_)
 replace kM:IsZip aq z TI TO .ellipsis:=kM
 refine wpAny_bind ?_
 simp only[List.zipIdx_cons,List.zipIdx_nil,List.forIn_cons,List.forIn_nil]
 refine wpAny_bind (wpAny_bind (wpAny_onRaise ?_))
 show wpAny _ _ (Builtin.SmallTypes.nextOf (.ref i1) >>=_) _ _ _
 refine wpAny_bind (iK (h1.extBut dh.extBut D.i1z) (A4.extBut dh.extBut D.l1z) hx fun bE KN dO=>wpAny_pure ?_)
 have yb:PySem.IsPair bE TO a b:=dO.extBut _ _ D.TOi1 (dh.extBut _ _ D.TOz hTO)
 refine wpAny_bind (wpAny_seqItems yb rfl ?_)
 refine wpAny_bind (wpAny_updateSeq_pair yb fun bH rN dP=>?_)
 replace rN:PySem.IsPair bH TO x b:=rN
 refine wpAny_bind (wpAny_letGo (wpAny_pure ?_))
 refine wpAny_bind (wpAny_bind (wpAny_onRaise ?_))
 show wpAny _ _ (Builtin.SmallTypes.nextOf (.ref i2) >>=_) _ _ _
 refine wpAny_bind (iK (((h2.extBut dh.extBut D.i2z).extBut dO.extBut D.i12.symm).extBut dP.extBut D.TOi2.symm)
  (((Gh.extBut dh.extBut D.l2z).extBut dO.extBut D.l2i1).extBut dP.extBut D.l2TO) hy fun ie KO pU=>wpAny_pure ?_)
 have yc:PySem.IsPair ie TO x b:=pU.extBut _ _ D.TOi2 rN
 refine wpAny_bind (wpAny_seqItems yc rfl ?_)
 refine wpAny_bind (wpAny_updateSeq_pair yc fun b6 kN eK=>?_)
 replace kN:PySem.IsPair b6 TO x y:=kN
 refine wpAny_bind (wpAny_letGo (wpAny_pure (wpAny_pure ?_)))
 refine wpAny_bind (wpAny_seqItems kN rfl ?_)
 refine wpAny_bind (wpAny_newTuple ?_)
 have hsz:b6.objs.size=s.heap.objs.size:=by rw[eK.1,pU.1,dP.1,dO.1,dh.1]
 have DK:IsZip b6 z TI TO .ellipsis:=eK.extBut _ _ D.TOz.symm (pU.extBut _ _ D.i2z.symm (dP.extBut _ _ D.TOz.symm (dO.extBut _ _ D.i1z.symm kM)))
 have tR:∀c o,c≠z->c≠TO->c≠i1->c≠i2->s.heap.get? c=some o->b6.get? c=some o:=fun c o c1 c2 c3 c4 e=>
  eK.extBut _ _ c2 (pU.extBut _ _ c4 (dP.extBut _ _ c2 (dO.extBut _ _ c3 (dh.extBut _ _ c1 e))))
 have KP:b6.IsTupleIter i1 l1 (k1+1):=((KN.extBut dP.extBut D.TOi1.symm).extBut pU.extBut D.i12).extBut eK.extBut D.TOi1.symm
 have KQ:b6.IsTupleIter i2 l2 (k2+1):=KO.extBut eK.extBut D.TOi2.symm
 have KR:z<b6.objs.size:=Heap.lt_size DK
 have afb:TO<b6.objs.size:=Heap.lt_size kN
 show wpAny _ _ (Builtin.SmallTypes.ownedTupleHandOut (.ref z) (.ref b6.objs.size) >>=_) _ _ _
 refine wpAny_bind ?_
 unfold Builtin.SmallTypes.ownedTupleHandOut
 have KS:IsZip (b6.push { cls:=.type "tuple",data:=.seq #[x,y]}) z TI TO .ellipsis:=Heap.get?_push_of_some _ DK
 refine wpAny_bind (wpAny_setField_rec KS (by simp) fun aaR yd ye=>?_)
 replace yd:IsZip aaR z TI TO (rawInt b6.objs.size):=yd
 refine wpAny_setField_rec yd (by simp) fun yf tT yg=>?_
 replace tT:IsZip yf z TI TO (rawInt b6.objs.size):=tT
 have up:∀c o,c≠z->b6.get? c=some o->yf.get? c=some o:=fun c o c1 e=>yg.extBut _ _ c1 (ye.extBut _ _ c1 (Heap.get?_push_of_some _ e))
 have DL:PySem.IsPair yf b6.objs.size x y:=yg.extBut _ _ (Nat.ne_of_gt KR) (ye.extBut _ _ (Nat.ne_of_gt KR) (Heap.get?_push_size _ rfl))
 have hz8:yf.objs.size=b6.objs.size+1:=by rw[yg.1,ye.1,Heap.size_push]
 rw[hsz] at tT DL hz8
 refine wpAny_pure ⟨_,rfl,?_⟩
 show Q (.ref b6.objs.size) _
 rw[hsz]
 exact hQ yf tT (up _ _ D.TOz kN) (let⟨o,ho,r⟩:=KP;⟨o,up _ o D.i1z ho,r⟩) (let⟨o,ho,r⟩:=KQ;⟨o,up _ o D.i2z ho,r⟩) DL hz8 fun c o c1 c2 c3 c4 e=>up c o c1 (tR c o c1 c2 c3 c4 e)
theorem m6{z TI TO i1 i2 l1 l2:Addr}{k1:Nat}{xs:Array Value}{a b:Value}{Q:Fin->Shared->Prop}(hh:A.handled=none)(D:ZipApart z TI TO i1 i2 l1 l2)
  (hz:IsZip s.heap z TI TO .none) (hTI:PySem.IsPair s.heap TI (.ref i1) (.ref i2)) (hTO:PySem.IsPair s.heap TO a b)
  (h1:s.heap.IsTupleIter i1 l1 k1) (A4:s.heap.IsTuple l1 xs) (By:xs[k1]?=none)
  (hE:∀h' e,(∀c o,c≠z->c≠TO->c≠i1->c≠i2->s.heap.get? c=some o->h'.get? c=some o)->(∃o,h'.get? e=some o/\o.cls=.type "StopIteration")->E (.ref e) { s with heap:=h'}):
  wpAny (model prog w) A (Builtin.«zip.__next__» ⟨[.ref z],[]⟩) Q E s:=by
 show wpAny _ _ (field (.ref z) 2 >>=_) _ _ _
 refine wpAny_bind (wpAny_field hz rfl (x:=.bool false) rfl ?_)
 show wpAny _ _ (field (.ref z) 3 >>=_) _ _ _
 refine wpAny_bind (wpAny_field hz rfl (x:=.ref TI) rfl ?_)
 refine wpAny_bind (wpAny_seqItems hTI rfl ?_)
 show wpAny _ _ (Builtin.SmallTypes.ownedTupleIsFree (.ref z) >>=_) _ _ _
 refine wpAny_bind ?_
 unfold Builtin.SmallTypes.ownedTupleIsFree
 refine wpAny_bind (wpAny_field hz rfl (x:=.none) rfl (wpAny_pure ?_))
 simp only[if_true]
 refine wpAny_bind (wpAny_rule ?_)
 refine wpAny_bind (wpAny_field hz rfl (x:=.ref TO) rfl ?_)
 refine wpAny_bind (wpAny_setField_rec hz (by simp) fun aq kM dh=>?_)
 replace kM:IsZip aq z TI TO .ellipsis:=kM
 refine wpAny_bind ?_
 simp only[List.zipIdx_cons,List.zipIdx_nil,List.forIn_cons,List.forIn_nil]
 refine wpAny_bind (wpAny_bind (wpAny_onRaise ?_))
 show wpAny _ _ (Builtin.SmallTypes.nextOf (.ref i1) >>=_) _ _ _
 refine wpAny_bind (iC hh (h1.extBut dh.extBut D.i1z) (A4.extBut dh.extBut D.l1z) By fun bE e dO he=>?_)
 obtain⟨oe,hoe,hce⟩:=he
 have DM:IsZip bE z TI TO .ellipsis:=dO _ _ D.i1z.symm kM
 have hez:e≠z:=fun x=>by subst x;rw[DM] at hoe;cases hoe;simp at hce
 exact wpAny_setField_rec DM (by simp) fun bH _ dP=>hE bH e (fun c o c1 _ c3 _ x=>dP.extBut _ _ c1 (dO _ _ c3 (dh.extBut _ _ c1 x))) ⟨oe,dP.extBut _ _ hez hoe,hce⟩
noncomputable abbrev Gi(h:Heap)(l1:Addr):Heap:=h.push { cls:=.type "tuple_iterator",data:=.fields #[.ref l1,.int 0 0]}
noncomputable abbrev Gj(h:Heap)(l1 l2:Addr):Heap:=(Gi h l1).push { cls:=.type "tuple_iterator",data:=.fields #[.ref l2,.int 0 0]}
noncomputable abbrev Gk(h:Heap)(l1 l2:Addr):Heap:=(Gj h l1 l2).push { cls:=.type "tuple",data:=.seq #[.ref h.objs.size,.ref (Gi h l1).objs.size]}
noncomputable abbrev zq4(h:Heap)(l1 l2:Addr):Heap:=(Gk h l1 l2).push { cls:=.type "tuple",data:=.seq #[.none,.none]}
noncomputable abbrev zq5(h:Heap)(l1 l2:Addr):Heap:=(zq4 h l1 l2).push { cls:=.type "zip",data:=.fields #[.none,.bool false,.bool false,.ref (Gj h l1 l2).objs.size,.ref (Gk h l1 l2).objs.size]}
theorem mP(l1 l2:Addr)(xs ys:Array Value):
  Meets (Builtin.«zip.__new__» ⟨[.type "zip",.ref l1,.ref l2],[]⟩) (fun _ R s=>s.heap.IsTuple l1 xs/\s.heap.IsTuple l2 ys/\
   R (.ok (.ret (.ref (zq4 s.heap l1 l2).objs.size))) { s with heap:=zq5 s.heap l1 l2}):=
 .of_wp fun prog w A R s h=>by
  obtain⟨hp,g,d,tk,os⟩:=s;obtain⟨A4,Gh,h⟩:=h
  have Gf:=sub_zip
  have hL1:Heap.IsTuple (Shared.heap ⟨hp,g,d,tk,os⟩) l1 xs:=A4
  have hL2:Heap.IsTuple (Shared.heap ⟨hp.push { cls:=.type "tuple_iterator",data:=.fields #[.ref l1,.int 0 0]},g,d,tk,os⟩) l2 ys:=Heap.IsTuple.push Gh _
  wp_walk using wpAny_pyIter_tuple hL1,wpAny_pyIter_tuple hL2
  exact⟨_,rfl,h⟩
end
section
variable{w:World}{A:Around}{agj:Heap}{L C:Addr}{m:Str->Option Value}{news bK:Led}{E:Value->Shared->Prop}{h:Heap}{gn:Array GenState}{dr:Drawn}{tk:Nat}{os:OsState}
noncomputable abbrev b7(f0:Value)(TI TO:Addr):Obj:={ cls:=.type "zip",dict:=none,data:=.fields #[f0,.bool false,.bool false,.ref TI,.ref TO],slots:=#[]}
structure jB(t1 t2 i1 i2 TI TO z:Addr):Prop where
 a1:t1<i1
 a2:t2<i1
 a3:i1<i2
 a4:i2<TI
 a5:TI<TO
 a6:TO<z
theorem jB.apart{t1 t2 i1 i2 TI TO z:Addr}(Z:jB t1 t2 i1 i2 TI TO z):ZipApart z TI TO i1 i2 t1 t2:=by
 obtain⟨a1,a2,a3,a4,a5,a6⟩:=Z
 change @LT.lt Nat _ _ _ at a1 a2 a3 a4 a5 a6
 have b1:=Nat.lt_trans a1 a3
 have b2:=Nat.lt_trans a2 a3
 have b3:=Nat.lt_trans a3 a4
 have b4:=Nat.lt_trans a4 a5
 have b5:=Nat.lt_trans a5 a6
 have c1:=Nat.lt_trans a1 b3
 have c2:=Nat.lt_trans a2 b3
 have c3:=Nat.lt_trans a3 b4
 have c4:=Nat.lt_trans a4 b5
 have d1:=Nat.lt_trans a1 c3
 have d2:=Nat.lt_trans a2 c3
 have d3:=Nat.lt_trans a3 c4
 have e1:=Nat.lt_trans a1 d3
 have e2:=Nat.lt_trans a2 d3
 constructor<;>(refine neN ?_;first|exact Nat.ne_of_lt (by assumption)|exact Nat.ne_of_gt (by assumption))
theorem kO{f0:Value}{I TI TO:Addr}:cX w I (b7 f0 TI TO):=fun _ _ _ _ e k=>wpAny_pyIter_zip e k
theorem Gl{t1 t2:Addr}{v1 v2:List Value}{n1 n2:Nat}{Q:Value->Shared->Prop}(F:Fr agj L h m)(N:News agj L h news)(jO:(t1,aj v1 n1)∈news)(pV:(t2,aj v2 n2)∈news)
  (k:∀z TO TI i2 i1 o1 o2 h',Fr agj L h' m->News agj L h' ((z,b7 .none TI TO)::(TO,aj [.none,.none] 0)::(TI,aj [.ref i1,.ref i2] 0)::(i2,o2)::(i1,o1)::news)->bg o1 t1 0->bg o2 t2 0->jB t1 t2 i1 i2 TI TO z->
   (∀p∈news,p.1<i1)->@LT.lt Nat _ L i1->@LT.lt Nat _ i1 i2->@LT.lt Nat _ i2 TI->@LT.lt Nat _ TI TO->@LT.lt Nat _ TO z->Q (.ref z) ⟨h',gn,dr,tk,os⟩):
  wpAny (MM w) A (call (.type "zip") [.ref t1,.ref t2]) Q E ⟨h,gn,dr,tk,os⟩:=by
 refine callType_new PySem.F.called_zip (by decide) (PySem.F.typeCall_zip_2 _ _) (PySem.F.newCall_zip_2 _ _) (fun obj=>PySem.F.args_object_init_3 obj _ _) PySem.F.entry_zip_new
  (mP t1 t2 v1.toArray v2.toArray) ⟨N.isTup jO,N.isTup pV,?_⟩
 have F1:=F.push { cls:=.type "tuple_iterator",data:=.fields #[.ref t1,.int 0 0]}
 have N1:=N.push F { cls:=.type "tuple_iterator",data:=.fields #[.ref t1,.int 0 0]}
 have F2:=F1.push { cls:=.type "tuple_iterator",data:=.fields #[.ref t2,.int 0 0]}
 have N2:=N1.push F1 { cls:=.type "tuple_iterator",data:=.fields #[.ref t2,.int 0 0]}
 have F3:=F2.push (aj [.ref h.objs.size,.ref (Gi h t1).objs.size] 0)
 have N3:=N2.push F2 (aj [.ref h.objs.size,.ref (Gi h t1).objs.size] 0)
 have F4:=F3.push (aj [.none,.none] 0)
 have N4:=N3.push F3 (aj [.none,.none] 0)
 have F5:=F4.push (b7 .none (Gj h t1 t2).objs.size (Gk h t1 t2).objs.size)
 have N5:=N4.push F4 (b7 .none (Gj h t1 t2).objs.size (Gk h t1 t2).objs.size)
 have b1:h.objs.size<(Gi h t1).objs.size:=by rw[Heap.size_push];exact Nat.lt_succ_self _
 have b2:(Gi h t1).objs.size<(Gj h t1 t2).objs.size:=by rw[Heap.size_push (h:=Gi h t1)];exact Nat.lt_succ_self _
 have b3:(Gj h t1 t2).objs.size<(Gk h t1 t2).objs.size:=by rw[Heap.size_push (h:=Gj h t1 t2)];exact Nat.lt_succ_self _
 have b4:(Gk h t1 t2).objs.size<(zq4 h t1 t2).objs.size:=by rw[Heap.size_push (h:=Gk h t1 t2)];exact Nat.lt_succ_self _
 exact⟨⟨_,(N5 _ (.head _)).1,rfl⟩,k _ _ _ _ _ _ _ _ F5 N5 ⟨rfl,rfl⟩ ⟨rfl,rfl⟩ ⟨Heap.lt_size (N _ jO).1,Heap.lt_size (N _ pV).1,b1,b2,b3,b4⟩ (fun p hp=>Heap.lt_size (N p hp).1) F.ns.lt b1 b2 b3 b4⟩
theorem Gm{z TO TI i2 i1 t1 t2:Addr}{o1 o2:Obj}{i nT nI:Nat}{a b x y:Value}{v1 v2:List Value}{n1 n2:Nat}{g:Led->Led}{Q:Option Value->Shared->Prop}(F:Fr agj L h m)(N:News agj L h news)
  (Gn:(z,b7 .none TI TO)∈news) (KU:(TI,aj [.ref i1,.ref i2] nI)∈news) (U:jQ [z,TO,i2,i1] [(z,b7 .none TI TO),(TO,aj [a,b] nT),(TI,aj [.ref i1,.ref i2] nI),(i2,o2),(i1,o1)] news g) (j1:bg o1 t1 i) (j2:bg o2 t2 i) (jO:(t1,aj v1 n1)∈news) (pV:(t2,aj v2 n2)∈news)
  (hx:v1[i]?=some x) (hy:v2[i]?=some y) (Z:jB t1 t2 i1 i2 TI TO z) (hT:nT=0) (hI:nI=0)
  (k:∀T h' gZ ia,Fr agj L h' m->News agj L h' ((T,aj [x,y] 0)::g [(z,b7 (rawInt T) TI TO),(TO,aj [x,y] 0),(TI,aj [.ref i1,.ref i2] 0),(i2,ia),(i1,gZ)])->bg gZ t1 (i+1)->bg ia t2 (i+1)->
   (∀p∈news,p.1<T)->@LT.lt Nat _ L T->Q (some (.ref T)) ⟨h',gn,dr,tk,os⟩):wpAny (MM w) A (pyNext (.ref z)) Q E ⟨h,gn,dr,tk,os⟩:=by
 subst hT hI
 have c1:=cF U _ (.head _)
 have c2:=cF U _ (.tail _ (.head _))
 have c3:=cF U _ (.tail _ (.tail _ (.head _)))
 have c4:=cF U _ (.tail _ (.tail _ (.tail _ (.head _))))
 have c5:=cF U _ (.tail _ (.tail _ (.tail _ (.tail _ (.head _)))))
 have hT:Shared.TypeIs ⟨h,gn,dr,tk,os⟩ (.ref z) "zip":=⟨_,(N _ c1).1,rfl⟩
 unfold pyNext
 refine wpAny_bind (wpAny_attempt (wpAny_callSpecial?_slot (name:="__next__") hT PySem.F.slot_zip_next (wpAny_call_entry PySem.F.slot_zip_next hT PySem.F.entry_zip_next
  (kL (s:=⟨h,gn,dr,tk,os⟩) Z.apart (N _ c1).1 (N _ c3).1 (N _ c2).1 ⟨_,(N _ c5).1,j1.1,j1.2⟩ ⟨_,(N _ c4).1,j2.1,j2.2⟩ (N.isTup jO) (N.isTup pV) (by simpa using hx) (by simpa using hy) fun h' a1 a2 a3 a4 a5 a6 a7=>wpAny_pure ?_) (PySem.F.args_zip_next_1 _))))
 obtain⟨gZ,ho1,hc1,Jy⟩:=a3
 obtain⟨ia,ho2,hc2,hd2⟩:=a4
 have iJ:∀b o,b∉[z,TO,i2,i1]->h.get? b=some o->h'.get? b=some o:=fun b o hb e=>by
  simp only[List.mem_cons,List.not_mem_nil,or_false,not_or] at hb
  exact a7 b o hb.1 hb.2.1 hb.2.2.2 hb.2.2.1 e
 have F':Fr agj L h' m:=fN F N (fun d hd=>by
  simp only[List.mem_cons,List.not_mem_nil,or_false] at hd
  rcases hd with rfl|rfl|rfl|rfl
  ·exact⟨_,c1⟩
  ·exact⟨_,c2⟩
  ·exact⟨_,c4⟩
  ·exact⟨_,c5⟩) iJ
 have e3:h'.get? TI=some (aj [.ref i1,.ref i2] 0):=by
  have A:=Z.apart
  exact a7 _ _ A.TIz A.TITO A.TIi1 A.TIi2 (N _ c3).1
 have N':=j0 (jk:=[(z,b7 (rawInt h.objs.size) TI TO),(TO,aj [x,y] 0),(TI,aj [.ref i1,.ref i2] 0),(i2,ia),(i1,gZ)]) N U iJ (fun p hp=>by
  simp only[List.mem_cons,List.not_mem_nil,or_false] at hp
  rcases hp with rfl|rfl|rfl|rfl|rfl
  ·exact⟨a1,_,.head _⟩
  ·exact⟨a2,_,.tail _ (.head _)⟩
  ·exact⟨e3,_,.tail _ (.tail _ (.head _))⟩
  ·exact⟨ho2,_,.tail _ (.tail _ (.tail _ (.head _)))⟩
  ·exact⟨ho1,_,.tail _ (.tail _ (.tail _ (.tail _ (.head _))))⟩)
 refine k h.objs.size h' gZ ia F' (fun p hp=>?_) ⟨hc1,Jy⟩ ⟨hc2,hd2⟩ (fun p hp=>Heap.lt_size (N p hp).1) F.ns.lt
 rcases List.mem_cons.mp hp with rfl|hp
 ·refine⟨a5,Nat.ne_of_gt F.ns.lt,?_⟩
  cases q:agj.get? h.objs.size with
  |none=>rfl
  |some _=>exact absurd (Heap.lt_size (F.keep _ _ q)) (Nat.lt_irrefl _)
 ·exact N' p hp
theorem Gp{z TO TI i2 i1 t1 t2:Addr}{o1 o2:Obj}{i nT nI:Nat}{a b:Value}{v1:List Value}{n1:Nat}{g:Led->Led}{Q:Option Value->Shared->Prop}(F:Fr agj L h m)(N:News agj L h news)
  (Gn:(z,b7 .none TI TO)∈news) (KU:(TI,aj [.ref i1,.ref i2] nI)∈news) (U:jQ [z,TO,i2,i1] [(z,b7 .none TI TO),(TO,aj [a,b] nT),(TI,aj [.ref i1,.ref i2] nI),(i2,o2),(i1,o1)] news g) (j1:bg o1 t1 i) (jO:(t1,aj v1 n1)∈news)
  (hx:v1[i]?=none) (Z:jB t1 t2 i1 i2 TI TO z) (hT:nT=0) (hI:nI=0) (hh:A.handled=none)
  (k:∀h',Fr agj L h' m->News agj L h' (g [])->Q none ⟨h',gn,dr,tk,os⟩):wpAny (MM w) A (pyNext (.ref z)) Q E ⟨h,gn,dr,tk,os⟩:=by
 subst hT hI
 have c1:=cF U _ (.head _)
 have c2:=cF U _ (.tail _ (.head _))
 have c3:=cF U _ (.tail _ (.tail _ (.head _)))
 have c4:=cF U _ (.tail _ (.tail _ (.tail _ (.head _))))
 have c5:=cF U _ (.tail _ (.tail _ (.tail _ (.tail _ (.head _)))))
 have hT:Shared.TypeIs ⟨h,gn,dr,tk,os⟩ (.ref z) "zip":=⟨_,(N _ c1).1,rfl⟩
 unfold pyNext
 refine wpAny_bind (wpAny_attempt (wpAny_callSpecial?_slot (name:="__next__") hT PySem.F.slot_zip_next (wpAny_call_entry PySem.F.slot_zip_next hT PySem.F.entry_zip_next
  (m6 (s:=⟨h,gn,dr,tk,os⟩) hh Z.apart (N _ c1).1 (N _ c3).1 (N _ c2).1 ⟨_,(N _ c5).1,j1.1,j1.2⟩ (N.isTup jO) (by simpa using hx) fun h' e hk he=>?_) (PySem.F.args_zip_next_1 _))))
 obtain⟨o,ho,hc⟩:=he
 refine wpAny_bind (wpAny_isInstance (T:="StopIteration") (b:=true) ⟨o,ho,hc⟩ isSubtype_stop ?_)
 have iJ:∀b o,b∉[z,TO,i2,i1]->h.get? b=some o->h'.get? b=some o:=fun b o hb e=>by
  simp only[List.mem_cons,List.not_mem_nil,or_false,not_or] at hb
  exact hk b o hb.1 hb.2.1 hb.2.2.2 hb.2.2.1 e
 have F':Fr agj L h' m:=fN F N (fun d hd=>by
  simp only[List.mem_cons,List.not_mem_nil,or_false] at hd
  rcases hd with rfl|rfl|rfl|rfl
  ·exact⟨_,c1⟩
  ·exact⟨_,c2⟩
  ·exact⟨_,c4⟩
  ·exact⟨_,c5⟩) iJ
 exact wpAny_pure (k h' F' (j0 (jk:=[]) N U iJ fun _ hp=>nomatch hp))
theorem Gq{elts:List Expr}{x1}{pos:Pos}{z TI TO T:Addr}{g:Obj->Led}{Q:Unit->Shared->Prop}(F:Fr agj L h m)(N:News agj L h news)(U:UpdF z (b7 (rawInt T) TI TO) news g)
  (k:∀h',Fr agj L h' m->News agj L h' (g (b7 .none TI TO))->Q () ⟨h',gn,dr,tk,os⟩):wpAny (MM w) A (letOwnedTupleGo (.Tuple elts x1 pos) (.ref z) (.ref T)) Q E ⟨h,gn,dr,tk,os⟩:=by
 have he:=(bf U (o':=b7 .none TI TO)).1
 refine wpAny_letOwnedTupleGo_zip (s:=⟨h,gn,dr,tk,os⟩) (N _ he).1 fun h' KL hs=>?_
 have hx:∀b o,b≠z->h.get? b=some o->h'.get? b=some o:=fun b o hb e=>(hs.2 b hb).trans e
 exact k h' (cD F N he hx) (cW N U hx KL)
end
section
variable{w:World}{p:Program}{loose:List Str}{aY:ExcName->Option Value}{mg mb:Str->Option Value}{A:Around}
 {agj:Heap} {L C:Addr} {m:Str->Option Value} {news bK:Led} {E:Value->Shared->Prop}
 {h:Heap} {gn:Array GenState} {dr:Drawn} {tk:Nat} {os:OsState} {env:Env} {scope:Scope} {bA:List (Str×Addr)}
def rO(w:World)(agj:Heap)(L:Addr)(m:Str->Option Value)(news:Led)(scope:Scope)(bA:List (Str×Addr))(env:Env)(x:Str)(elt:Expr)(vs:List Value)(Fv:Nat->Value->Prop):Prop:=
 ∀(A':Around) (E':Value->Shared->Prop) (C:Addr) (cd:Value) (i:Nat) (v:Value) (bE:Heap) (kP:Array GenState) (kQ:Drawn) (kR:Nat) (kT:OsState) (m₂:Str->Option Value),A'.handled=none->vs[i]?=some v->bE.Ns C m₂->m₂ x=some v->
  Fr agj L bE m->News agj L bE news->wpAny (MM w) A' (eval elt (genEnv scope bA C cd builtinsNs env)) (fun y dJ=>Fv i y/\Keeps ⟨bE,kP,kQ,kR,kT⟩ dJ) E' ⟨bE,kP,kQ,kR,kT⟩
def BA(w:World)(A:Around)(agj:Heap)(L:Addr)(m:Str->Option Value)(news:Led)(Fv:Nat->Value->Prop)(a:Addr)(h:Heap)(gn:Array GenState)(dr:Drawn)(tk:Nat)(os:OsState):Prop:=
 ∀(Q:Value->Shared->Prop) (E:Value->Shared->Prop),(∀t y0 y1 h' bB aN,Fr agj L h' m->News agj L h' ((t,aj [y0,y1] 0)::news)->AllBare bB->(∀p∈news,p.1<t)->@LT.lt Nat _ L t->Fv 0 y0->Fv 1 y1->Q (.ref t) ⟨h',bB,dr,aN,os⟩)->
  wpAny (MM w) A (call (.type "tuple") [.ref a]) Q E ⟨h,gn,dr,tk,os⟩
theorem BB{Fv:Nat->Value->Prop}{acc:Array Value}(h:ItemsOf (fun j y=>∃i,(passing (fun _=>true) 2 0)[j]?=some i/\Fv i y) acc 2):∃y0 y1,acc=#[y0,y1]/\Fv 0 y0/\Fv 1 y1:=by
 obtain⟨hz,hv⟩:=h
 obtain⟨i0,e0,f0⟩:=hv 0 acc[0] (Array.getElem?_eq_getElem (Nat.le_of_lt (Nat.le_of_eq (Eq.symm hz))))
 obtain⟨i1,e1,f1⟩:=hv 1 acc[1] (Array.getElem?_eq_getElem (Nat.le_of_eq (Eq.symm hz)))
 have k0:(passing (fun _=>true) 2 0)[0]?=some 0:=by decide
 have k1:(passing (fun _=>true) 2 0)[1]?=some 1:=by decide
 rw[k0] at e0;cases e0
 rw[k1] at e1;cases e1
 refine⟨acc[0],acc[1],?_,f0,f1⟩
 apply Array.ext
 ·simp[hz]
 ·intro i h1 h2
  have:i=0\/i=1:=by simp at h2;exact aaO hz h1
  rcases this with rfl|rfl<;>rfl
theorem tU{elt:Expr}{x:Str}{vs:List Value}{Fv:Nat->Value->Prop}{I lst:Addr}{dH:Nat->Heap->Prop}{Q:Value->Shared->Prop}{code:Value}{tV:Led}
  (F:Fr agj L h m) (N:News agj L h news) (hG:AllBare gn) (hh:A.handled=none) (hl:h.NoLimit) (Jw:agj.NoLimit) (hlen:vs.length=2)
  (hI:@LT.lt Nat _ L I) (hIn:∀p∈news,p.1<I) (DN:@LT.lt Nat _ I h.objs.size) (hls:@LT.lt Nat _ lst h.objs.size) (wG:∀A':Around,A'.handled=none->Walks PySem.Challenge.pw_lh0036_01 w A' I [I,lst] [I] vs.toArray.size (fun i v=>vs.toArray[i]?=some v) dH) (cU:dH 0 h)
  (he:rO w agj L m news scope bA env x elt vs Fv)
  (k:∀a h' bB aN,Fr agj L h' m->News agj L h' news->AllBare bB->BA w A agj L m news Fv a h' bB dr aN os->Q (.ref a) ⟨h',bB,dr,aN,os⟩):
  ∃I' fp wr yh P dH pz F,Value.ref I=.ref I'/\(∀A':Around,A'.handled=none->Walks PySem.Challenge.pw_lh0036_01 w A' I' fp wr yh P dH)/\dH 0 h/\(∀b∈fp,b<h.objs.size)/\h.NoLimit/\cStatics∉wr/\
     (∀Gr:Heap,(∀b o,h.get? b=some o->Gr.get? b=some o)->
      QuietGen PySem.Challenge.pw_lh0036_01 w (genEnv scope bA h.objs.size code builtinsNs env) x [] elt (List.range h.objs.size) wr P pz F Gr)/\
     (∀a b6 tk gs,gs.bare=true->h.objs.size<a->b6.objs.size=a+1->(∀b o,h.get? b=some o->b6.get? b=some o)->
      WalksS PySem.Challenge.pw_lh0036_01 w A.in4 a (a::h.objs.size::List.range h.objs.size) (h.objs.size::wr) (GenOnlyQ gn.size) (passing pz yh 0).length
       (fun j y=>∃i,(passing pz yh 0)[j]?=some i/\F i y) (GenAt PySem.Challenge.pw_lh0036_01 w A.in4 a gn.size h.objs.size (List.range h.objs.size) wr pz yh F)->
      GenAt PySem.Challenge.pw_lh0036_01 w A.in4 a gn.size h.objs.size (List.range h.objs.size) wr pz yh F 0 { (⟨h,gn,dr,tk,os⟩:Shared) with gens:=gn.push gs,toks:=tk,heap:=b6}->
      Q (.ref a) { (⟨h,gn,dr,tk,os⟩:Shared) with gens:=gn.push gs,toks:=tk,heap:=b6}):=by
 have hLI:L≠I:=Nat.ne_of_lt hI
 have Gs:@LT.lt Nat _ L h.objs.size:=Nat.lt_trans hI DN
 refine⟨I,[I,lst],[I],vs.toArray.size,_,dH,fun _=>true,Fv,rfl,wG,cU,?_,hl,?_,?_,?_⟩
 ·intro b hb
  rcases List.mem_cons.mp hb with rfl|hb
  ·exact DN
  ·rcases List.mem_cons.mp hb with rfl|hb
   ·exact hls
   ·cases hb
 ·intro hb
  rcases List.mem_cons.mp hb with e|hb
  ·obtain⟨_,pQ,_⟩:=Jw
   have h1:@LT.lt Nat _ cStatics I:=Nat.lt_trans (Nat.lt_of_lt_of_le pQ.lt F.above) hI
   exact absurd e (Nat.ne_of_lt h1)
  ·cases hb
 ·intro Gr KV
  refine⟨?_,?_⟩
  ·intro A' E' i v bw m₂ _ _ _ _ _
   simp only[List.forIn_nil]
   exact wpAny_pure ⟨rfl,bw.heap,bw.toks,rfl,fun _ _ e=>e⟩
  ·intro A' E' i v bw m₂ hA' hP _ pQ KW hk
   obtain⟨bE,kP,kQ,kR,kT⟩:=bw
   have up:∀b o,b≠I->h.get? b=some o->bE.get? b=some o:=fun b o hb e=>
    hk b (List.mem_range.mpr (Heap.lt_size e)) (fun hm=>by rcases List.mem_cons.mp hm with q|q;exact hb q;cases q) o (KV b o e)
   have Gu:Fr agj L bE m:=by
    obtain⟨oL,a1,a2,KA,a3⟩:=F.ns
    refine⟨⟨oL,a1,a2,up _ _ hLI KA,a3⟩,fun b o e=>up _ _ (fun q=>?_) (F.keep b o e),F.above⟩
    have h1:=Heap.lt_size e
    have h2:=F.above
    subst q
    exact absurd (Nat.lt_of_lt_of_le h1 h2) (Nat.lt_asymm hI)
   have yi:News agj L bE news:=fun p hp=>⟨up _ _ (Nat.ne_of_lt (hIn p hp)) (N p hp).1,(N p hp).2⟩
   exact he A' E' _ _ i v bE kP kQ kR kT m₂ hA' (by simpa using hP) pQ KW Gu yi
 ·intro a b6 tk gs hgb hag Gv tR W hat
  have Gw:Fr agj L b6 m:=F.keeps tR
  have KY:News agj L b6 news:=N.grown tR
  refine k a b6 (gn.push gs) tk Gw KY (hG.push hgb) fun Q' E'' kk=>?_
  have hn2:(passing (fun _=>true) vs.toArray.size 0).length=2:=by rw[List.size_toArray,hlen];decide
  refine call_tuple_gen (hsz:=by rw[hn2,sizeLine_eq];decide) W.in4_3 (fun i s' st=>st.1.typeIs) hat (fun b hb=>?_) (List.mem_cons_self ..) fun s' acc hm Gx=>?_
  ·show b<b6.objs.size
   rw[Gv]
   rcases List.mem_cons.mp hb with rfl|hb
   ·exact Nat.lt_succ_self _
   ·rcases List.mem_cons.mp hb with rfl|hb
    ·exact Nat.lt_succ_of_lt hag
    ·exact Nat.lt_succ_of_lt (Nat.lt_trans (List.mem_range.mp hb) hag)
  ·rw[hn2] at Gx
   rw[List.size_toArray,hlen] at Gx
   obtain⟨y0,y1,rfl,f0,f1⟩:=BB Gx
   obtain⟨Gy,afc,afd,afe,afg⟩:=s'
   have e1:=hm.drawn
   have e2:=hm.os
   dsimp only at e1 e2
   subst e1 e2
   have up:∀b o,b≠h.objs.size->b≠I->b6.get? b=some o->Gy.get? b=some o:=fun b o h1 h2 e=>hm.heap b o (fun q=>by
    rcases List.mem_cons.mp q with q|q
    ·exact h1 q
    ·rcases List.mem_cons.mp q with q|q
     ·exact h2 q
     ·cases q) e
   have Gz:Fr agj L Gy m:=by
    obtain⟨oL,a1,a2,KA,a3⟩:=Gw.ns
    refine⟨⟨oL,a1,a2,up _ _ (Nat.ne_of_lt Gs) hLI KA,a3⟩,fun b o e=>up _ _ (fun q=>?_) (fun q=>?_) (Gw.keep b o e),F.above⟩
    ·have h1:=Nat.lt_of_lt_of_le (Heap.lt_size e) F.above
     subst q
     exact absurd h1 (Nat.lt_asymm Gs)
    ·have h1:=Nat.lt_of_lt_of_le (Heap.lt_size e) F.above
     subst q
     exact absurd h1 (Nat.lt_asymm hI)
   have KZ:News agj L Gy news:=fun p hp=>⟨up _ _ (Nat.ne_of_lt (Heap.lt_size (N p hp).1)) (Nat.ne_of_lt (hIn p hp)) (KY p hp).1,(N p hp).2⟩
   exact kk _ _ _ _ _ _ (Gz.push _) (KZ.push Gz (aj [y0,y1] 0)) (hG.push hgb |>.movedS hm) (fun p hp=>Heap.lt_size (KZ p hp).1) Gz.ns.lt f0 f1
theorem yj{bi:Addr}{Q:Addr->Shared->Prop}(F:Fr agj L h m)(T:Top p loose aY mg mb agj)(hg:env.globals=mainGlobals)(k:Q builtinsNs ⟨h,gn,dr,tk,os⟩):wpAny (MM w) A (builtinsFor env.globals bi) Q E ⟨h,gn,dr,tk,os⟩:=by
 obtain⟨bm,ob,h1,h2,h3,h4,h5,h6⟩:=T.bmain
 rw[hg]
 exact wpAny_builtinsFor (s:=⟨h,gn,dr,tk,os⟩) (T.g.keeps F.keep) h1 h2 (F.keep _ _ h3) h4 h5 h6 k
noncomputable def dD(pos:Pos)(c':Addr):Obj:=tabObj #[rawInt pos.line,rawInt pos.col,.ref c']
theorem pW{lst:Addr}{vs:List Value}{n:Nat}{Q:Value->Shared->Prop}(F:Fr agj L h m)(N:News agj L h news)(hm:(lst,ay vs n)∈news)
  (k:∀I h' dH,Fr agj L h' m->News agj L h' news->@LT.lt Nat _ L I->(∀p∈news,p.1<I)->@LT.lt Nat _ I h'.objs.size->(∀A':Around,A'.handled=none->Walks PySem.Challenge.pw_lh0036_01 w A' I [I,lst] [I] vs.toArray.size (fun i v=>vs.toArray[i]?=some v) dH)->dH 0 h'->lst<I->Q (.ref I) ⟨h',gn,dr,tk,os⟩):
  wpAny (MM w) A (pyIter (.ref lst)) Q E ⟨h,gn,dr,tk,os⟩:=by
 have cO:lst<h.objs.size:=Heap.lt_size (N _ hm).1
 refine wpAny_pyIter_list (s:=⟨h,gn,dr,tk,os⟩) (N.isList hm) (k h.objs.size _ _ (F.push _) (N.pushKeep _) F.ns.lt (fun p hp=>Heap.lt_size (N p hp).1) (by rw[Heap.size_push];exact Nat.lt_succ_self _) (fun A' hA=>Walks.list hA _ _ (Nat.ne_of_lt cO) vs.toArray) ⟨⟨_,Heap.get?_push_size _ rfl,rfl,rfl⟩,(N.isList hm).push _⟩ cO)
theorem pX{lst:Addr}{vs:List Value}{n:Nat}{Q:Value->Shared->Prop}(F:Fr agj L h m)(N:News agj L h news)(hm:(lst,aj vs n)∈news)
  (k:∀I h' dH,Fr agj L h' m->News agj L h' news->@LT.lt Nat _ L I->(∀p∈news,p.1<I)->@LT.lt Nat _ I h'.objs.size->(∀A':Around,A'.handled=none->Walks PySem.Challenge.pw_lh0036_01 w A' I [I,lst] [I] vs.toArray.size (fun i v=>vs.toArray[i]?=some v) dH)->dH 0 h'->lst<I->Q (.ref I) ⟨h',gn,dr,tk,os⟩):
  wpAny (MM w) A (pyIter (.ref lst)) Q E ⟨h,gn,dr,tk,os⟩:=by
 have cO:lst<h.objs.size:=Heap.lt_size (N _ hm).1
 refine wpAny_pyIter_tuple (s:=⟨h,gn,dr,tk,os⟩) (N.isTup hm) (k h.objs.size _ _ (F.push _) (N.pushKeep _) F.ns.lt (fun p hp=>Heap.lt_size (N p hp).1) (by rw[Heap.size_push];exact Nat.lt_succ_self _) (fun A' hA=>Walks.tuple hA _ _ (Nat.ne_of_lt cO) vs.toArray) ⟨⟨_,Heap.get?_push_size _ rfl,rfl,rfl⟩,(N.isTup hm).push _⟩ cO)
def jR(o:Obj)(vs:List Value):Prop:=∃n,o=ay vs n\/o=aj vs n
theorem tW{lst:Addr}{vs:List Value}{o:Obj}{Q:Value->Shared->Prop}(F:Fr agj L h m)(N:News agj L h news)(hm:(lst,o)∈news)(ho:jR o vs)
  (k:∀I h' dH,Fr agj L h' m->News agj L h' news->@LT.lt Nat _ L I->(∀p∈news,p.1<I)->@LT.lt Nat _ I h'.objs.size->(∀A':Around,A'.handled=none->Walks PySem.Challenge.pw_lh0036_01 w A' I [I,lst] [I] vs.toArray.size (fun i v=>vs.toArray[i]?=some v) dH)->dH 0 h'->lst<I->Q (.ref I) ⟨h',gn,dr,tk,os⟩):
  wpAny (MM w) A (pyIter (.ref lst)) Q E ⟨h,gn,dr,tk,os⟩:=by
 obtain⟨n,rfl|rfl⟩:=ho
 ·exact pW F N hm k
 ·exact pX F N hm k
section
variable{elt iter:Expr}{x:Str}{px pos:Pos}{vs:List Value}{Fv:Nat->Value->Prop}{lst c P:Addr}{o:Obj}{Q:Value->Shared->Prop}
theorem yk{c':Addr}(F:Fr agj L h m)(N:News agj L h news)(hG:AllBare gn)(T:Top p loose aY mg mb agj)(Cd:CodeHd agj c P)(hP:(P,dD pos c')∈news)
  (hh:A.handled=none) (cg:A.depth<recursionLimit) (m7:env.code=.ref c) (hg:env.globals=mainGlobals) (jy:scope.isCoroutine=false) (iB:closureFor scope env=pure bA) (cL:∀y∈scope.names,y.2≠.cell)
  (h0:scope.names.lookup (".0":Str)=some NameKind.local) (hx:scope.names.lookup x=some .local) (bz:scope.kind=.function) (hs:∀x,genFold iter env x=pure x)
  (hm:(lst,o)∈news) (ho:jR o vs) (hlen:vs.length=2) (hit:∀Q:Value->Shared->Prop,Q (.ref lst) ⟨h,gn,dr,tk,os⟩->wpAny (MM w) A (eval iter env) Q E ⟨h,gn,dr,tk,os⟩)
  (he:rO w agj L m news scope bA env x elt vs Fv)
  (k:∀a h' bB aN,Fr agj L h' m->News agj L h' news->AllBare bB->BA w A agj L m news Fv a h' bB dr aN os->Q (.ref a) ⟨h',bB,dr,aN,os⟩):
  wpAny (MM w) A (eval (.GeneratorExp elt [⟨.Name x px,iter,[],0⟩] scope pos) env) Q E ⟨h,gn,dr,tk,os⟩:=by
 refine wpAny_GeneratorExp_walksQ hh jy iB cL h0 hx bz cg (hit _ (tW F N hm ho fun I aq dH mQ wH hI hIn DN wG cU hlI=>⟨T.nolimit.keeps mQ.keep,?_⟩)) hs
 refine wpAny_genexprCode_hit (c':=.ref c') m7 ((Cd.keeps mQ.keep).code (wH _ hP).1 ?_) ?_ (yj mQ T hg ?_)
 ·simp[TriplesOk,rawInt]
 ·simp[codeAmong,rawInt]
 ·exact tU (tV:=news) mQ wH hG hh (T.nolimit.keeps mQ.keep) T.nolimit hlen hI hIn DN (Nat.lt_trans hlI DN) wG cU he k
theorem yl{g:Obj->Led}(F:Fr agj L h m)(N:News agj L h news)(hG:AllBare gn)(T:Top p loose aY mg mb agj)(Cd:CodeHd agj c P)(U:UpdF P (tabObj #[]) news g)
  (hh:A.handled=none) (cg:A.depth<recursionLimit) (m7:env.code=.ref c) (hg:env.globals=mainGlobals) (jy:scope.isCoroutine=false) (iB:closureFor scope env=pure bA) (cL:∀y∈scope.names,y.2≠.cell)
  (h0:scope.names.lookup (".0":Str)=some NameKind.local) (hx:scope.names.lookup x=some .local) (bz:scope.kind=.function) (hs:∀x,genFold iter env x=pure x)
  (hm:(lst,o)∈news) (ho:jR o vs) (hlen:vs.length=2) (hlP:lst≠P) (hit:∀Q:Value->Shared->Prop,Q (.ref lst) ⟨h,gn,dr,tk,os⟩->wpAny (MM w) A (eval iter env) Q E ⟨h,gn,dr,tk,os⟩)
  (he:∀c',rO w agj L m (g (dD pos c')) scope bA env x elt vs Fv)
  (k:∀c' a h' bB aN,Fr agj L h' m->News agj L h' (g (dD pos c'))->AllBare bB->BA w A agj L m (g (dD pos c')) Fv a h' bB dr aN os->Q (.ref a) ⟨h',bB,dr,aN,os⟩):
  wpAny (MM w) A (eval (.GeneratorExp elt [⟨.Name x px,iter,[],0⟩] scope pos) env) Q E ⟨h,gn,dr,tk,os⟩:=by
 have hP:=(bf U (o':=tabObj #[])).1
 refine wpAny_GeneratorExp_walksQ hh jy iB cL h0 hx bz cg (hit _ (tW F N hm ho fun I aq dH mQ wH hI hIn DN wG cU hlI=>⟨T.nolimit.keeps mQ.keep,?_⟩)) hs
 have hP1:=(wH _ hP).1
 refine wpAny_genexprCodeX m7 ((Cd.keeps mQ.keep).code hP1 trivial) ((Cd.keeps mQ.keep).tab hP1) rfl fun c' bH afh ym mR cO K0 _ tX _=>?_
 have e:(#[]:Array Value)++#[rawInt pos.line,rawInt pos.col,.ref c']=#[rawInt pos.line,rawInt pos.col,.ref c']:=by simp
 rw[e] at tX
 have GA:Fr agj L bH m:=cD mQ wH hP ym
 have aaS:News agj L bH (g (dD pos c')):=cW wH U ym tX.2
 have hin:∀p∈g (dD pos c'),p.1<I:=fun p hp=>by
  rcases (bf U (o':=dD pos c')).2 p hp with rfl|⟨q,_⟩
  ·have:=hIn _ hP;exact this
  ·exact hIn p q
 refine yj GA T hg ?_
 have hsz:aq.objs.size<=bH.objs.size:=Nat.le_trans mR (Nat.le_of_lt cO)
 have hIP:I≠P:=Nat.ne_of_gt (hIn _ hP)
 exact tU (tV:=news) GA aaS hG hh (T.nolimit.keeps GA.keep) T.nolimit hlen hI hin (Nat.lt_of_lt_of_le DN hsz) (Nat.lt_of_lt_of_le (Nat.lt_trans hlI DN) hsz) wG ((wG A hh).frame _ _ _ cU fun b hb o e=>ym b o (by
  rcases List.mem_cons.mp hb with rfl|hb
  ·exact hIP
  ·rcases List.mem_cons.mp hb with rfl|hb
   ·exact hlP
   ·cases hb) e) (he c') (k c')
end
theorem GB{code:Value}{bi:Addr}{x:Str}{ps:Pos}{v:Value}{m₂:Str->Option Value}{Q:Value->Shared->Prop}(ns:h.Ns C m₂)(hv:m₂ x=some v)(hk:(genEnv scope bA C code bi env).scope.kind=.function)
  (hx:(genEnv scope bA C code bi env).kindOf x=some .local) (hd:(x==("__debug__":Str))=false) (k:Q v ⟨h,gn,dr,tk,os⟩):wpAny (MM w) A (eval (.Name x ps) (genEnv scope bA C code bi env)) Q E ⟨h,gn,dr,tk,os⟩:=
 wpAny_Name (wpAny_loadName_local hk hx ns hv k) hd
theorem BC{code:Value}{bi c:Addr}{o:Obj}{x:Str}{ps:Pos}{v:Value}{Q:Value->Shared->Prop}(N:News agj L h news)(hk:(genEnv scope bA C code bi env).scope.kind=.function)
  (hx:(genEnv scope bA C code bi env).kindOf x=some .free) (hc:bA.lookup x=some c) (hm:(c,o)∈news) (hd':o.data=.cell (some v)) (hd:(x==("__debug__":Str))=false) (hn:(x==("__classdict__":Str))=false) (k:Q v ⟨h,gn,dr,tk,os⟩):
  wpAny (MM w) A (eval (.Name x ps) (genEnv scope bA C code bi env)) Q E ⟨h,gn,dr,tk,os⟩:=
 wpAny_Name (wpAny_loadName_free hk hx hc ⟨o,N.get hm,hd'⟩ k hn) hd
end
section
variable{w:World}{A:Around}{agj:Heap}{L C:Addr}{m:Str->Option Value}{news bK:Led}{E:Value->Shared->Prop}{h:Heap}{gn:Array GenState}{dr:Drawn}{tk:Nat}{os:OsState}{env:Env}
theorem yo{t:Addr}{vs:List Value}{n:Nat}{Q:Value->Shared->Prop}(N:News agj L h news)(hm:(t,aj vs n)∈news)(hz:vs.length<=1000)(k:Q (.int vs.length (tk+1)) ⟨h,gn,dr,tk+1+1,os⟩):
  wpAny (MM w) A (call (.builtin "len") [.ref t]) Q E ⟨h,gn,dr,tk,os⟩:=by
 have:=len_tuple (prog:=PySem.Challenge.pw_lh0036_01) (w:=w) (A:=A) (E:=E) (s:=⟨h,gn,dr,tk,os⟩) (N.isTup hm) (by simp;exact Int.lt_of_le_of_lt (Int.ofNat_le.mpr hz) (by decide)) (Q:=Q) (by simpa using k)
 exact this
theorem K3{t:Addr}{vs:List Value}{n:Nat}{Q:Value->Shared->Prop}(N:News agj L h news)(hm:(t,ay vs n)∈news)(hz:vs.length<=1000)(k:Q (.int vs.length (tk+1)) ⟨h,gn,dr,tk+1+1,os⟩):
  wpAny (MM w) A (call (.builtin "len") [.ref t]) Q E ⟨h,gn,dr,tk,os⟩:=
 PySem.Calls.call_len_list (s:=⟨h,gn,dr,tk,os⟩) (N.isList hm) (by simp;exact Int.lt_of_le_of_lt (Int.ofNat_le.mpr hz) (by decide)) (by simpa using k)
theorem DO{t:Addr}{o:Obj}{vs:List Value}{Q:Value->Shared->Prop}(N:News agj L h news)(hm:(t,o)∈news)(ho:jR o vs)(hz:vs.length<=1000)(k:Q (.int vs.length (tk+1)) ⟨h,gn,dr,tk+1+1,os⟩):
  wpAny (MM w) A (call (.builtin "len") [.ref t]) Q E ⟨h,gn,dr,tk,os⟩:=by
 obtain⟨n,rfl|rfl⟩:=ho
 ·exact K3 N hm hz k
 ·exact yo N hm hz k
theorem GC{value slice:Expr}{t:Addr}{o:Obj}{vs:List Value}{i:Int}{u:Tok}{x:Value}{Q:Value->Shared->Prop}(N:News agj L h news)(hm:(t,o)∈news)(ho:jR o vs)(h0:0<=i)(wz:i<2 ^ 63)(hx:vs[i.toNat]?=some x)
  (hs:subscripted slice false (.ref t) (.int i u)=operate [.ref t,.int i u] (getItem (.ref t) (.int i u))) (k:Q x ⟨h,gn,dr,tk,os⟩):
  wpAny (MM w) A (subscriptTail value slice (.ref t) (.int i u)) Q E ⟨h,gn,dr,tk,os⟩:=by
 obtain⟨n,rfl|rfl⟩:=ho
 ·exact xS N hm h0 wz hx hs k
 ·have hj:i.toNat<vs.length:=(List.getElem?_eq_some_iff.mp hx).1
  refine xO N hm (Int.le_trans (by decide) h0) wz (j:=i.toNat) ?_ hx hs k
  unfold seqIndex?
  simp only[if_neg (show ¬i<0 by exact Int.not_lt.mpr h0)]
  rw[if_pos (by simp;exact⟨h0,(Int.toNat_lt h0).mp hj⟩)]
theorem yp{t:Addr}{vs:List Value}{n:Nat}{Q:Value->Shared->Prop}(N:News agj L h news)(hm:(t,aj vs n)∈news)(k:Q (.ref t) ⟨h,gn,dr,tk,os⟩):
  wpAny (MM w) A (call (.type "tuple") [.ref t]) Q E ⟨h,gn,dr,tk,os⟩:=call_tuple_same (s:=⟨h,gn,dr,tk,os⟩) (N.isTup hm) k
theorem K4{n:Int}{u:Tok}{Q:Value->Shared->Prop}(k:Q (.int n u) ⟨h,gn,dr,tk,os⟩):wpAny (MM w) A (call (.type "int") [.int n u]) Q E ⟨h,gn,dr,tk,os⟩:=call_int_int k
theorem K5{t:Addr}{o:Obj}{vs:List Value}{Q:Value->Shared->Prop}(F:Fr agj L h m)(N:News agj L h news)(hm:(t,o)∈news)(ho:jR o vs)(hz:vs.length<=1000)
  (k:∀x n h',Fr agj L h' m->News agj L h' ((x,ay vs n)::news)->(∀p∈news,p.1<x)->@LT.lt Nat _ L x->Q (.ref x) ⟨h',gn,dr,tk,os⟩):wpAny (MM w) A (call (.type "list") [.ref t]) Q E ⟨h,gn,dr,tk,os⟩:=by
 have key:∀(T:String),(T="list"\/T="tuple")->o.cls=.type T->(∃n,o.data=.seq vs.toArray n)->wpAny (MM w) A (call (.type "list") [.ref t]) Q E ⟨h,gn,dr,tk,os⟩:=by
  rintro T hT hc ⟨n,hd⟩
  refine call_list_seq (s:=⟨h,gn,dr,tk,os⟩) t hT (N _ hm).1 hc hd (fun h' c' hk hn=>?_) (by rw[sizeLine_eq,List.size_toArray];exact pq hz)
  refine k _ c' h' (F.keeps hk) (fun p hp=>?_) (fun p hp=>Heap.lt_size (N p hp).1) F.ns.lt
  rcases List.mem_cons.mp hp with rfl|hp
  ·refine⟨hn,Nat.ne_of_gt F.ns.lt,?_⟩
   cases q:agj.get? h.objs.size with
   |none=>rfl
   |some _=>exact absurd (Heap.lt_size (F.keep _ _ q)) (Nat.lt_irrefl _)
  ·exact⟨hk _ _ (N p hp).1,(N p hp).2⟩
 obtain⟨n,rfl|rfl⟩:=ho
 ·exact key "list" (.inl rfl) rfl ⟨n,rfl⟩
 ·exact key "tuple" (.inr rfl) rfl ⟨n,rfl⟩
theorem K6{t b:Addr}{vs ws:List Value}{n n2:Nat}{Q:Value->Shared->Prop}(F:Fr agj L h m)(N:News agj L h news)(hm:(t,ay vs n)∈news)(hb:(b,ay ws n2)∈news)(hz:vs.length+ws.length<=1000)
  (k:∀x h',Fr agj L h' m->News agj L h' ((x,ay (vs++ws) 0)::news)->(∀p∈news,p.1<x)->@LT.lt Nat _ L x->Q (.ref x) ⟨h',gn,dr,tk,os⟩):wpAny (MM w) A (binaryOp .Add (.ref t) (.ref b)) Q E ⟨h,gn,dr,tk,os⟩:=
 add_lists (s:=⟨h,gn,dr,tk,os⟩) (hsz:=by rw[sizeLine_eq];exact Nat.le_trans hz (Nat.le_add_left _ _)) F N (N.isList hm) (N.isList hb) fun h' F' N'=>k _ h' F' N' (fun p hp=>Heap.lt_size (N p hp).1) F.ns.lt
theorem K7{t b:Addr}{vs ws:List Value}{n n2:Nat}{Q:Value->Shared->Prop}(F:Fr agj L h m)(N:News agj L h news)(hm:(t,aj vs n)∈news)(hb:(b,aj ws n2)∈news)(hz:vs.length+ws.length<=1000)(hv:vs≠[])(hw:ws≠[])
  (k:∀x h',Fr agj L h' m->News agj L h' ((x,aj (vs++ws) 0)::news)->(∀p∈news,p.1<x)->@LT.lt Nat _ L x->Q (.ref x) ⟨h',gn,dr,tk,os⟩):wpAny (MM w) A (binaryOp .Add (.ref t) (.ref b)) Q E ⟨h,gn,dr,tk,os⟩:=
 add_tuples (s:=⟨h,gn,dr,tk,os⟩) (hsz:=by rw[sizeLine_eq];exact Nat.le_trans hz (Nat.le_add_left _ _)) F N (N.isTup hm) (N.isTup hb) (fun e=>absurd e hv) (fun _ e=>absurd e hw) fun _ _ h' F' N'=>k _ h' F' N' (fun p hp=>Heap.lt_size (N p hp).1) F.ns.lt
theorem BD(v:Value)(j:Nat):List.foldl (fun x1 x2=>x1++x2) #[] (List.replicate j (#[v]:Array Value))=(List.replicate j v).toArray:=by
 have:∀(j:Nat) (acc:List Value),List.foldl (fun x1 x2=>x1++x2) acc.toArray (List.replicate j (#[v]:Array Value))=(acc++List.replicate j v).toArray:=by
  intro j
  induction j with
  |zero=>intro acc;simp
  |succ j ih=>
   intro acc
   rw[List.replicate_succ,List.foldl_cons]
   have e:acc.toArray++#[v]=(acc++[v]).toArray:=by simp
   rw[e,ih,List.replicate_succ]
   simp
 have h:=this j []
 simpa using h
theorem K8{t:Addr}{v:Value}{n:Nat}{x:Int}{u:Tok}{j:Nat}{Q:Value->Shared->Prop}(F:Fr agj L h m)(N:News agj L h news)(hm:(t,ay [v] n)∈news)(hx:x=j)(hj:j<=1000)
  (k:∀x h',Fr agj L h' m->News agj L h' ((x,ay (List.replicate j v) 0)::news)->(∀p∈news,p.1<x)->@LT.lt Nat _ L x->Q (.ref x) ⟨h',gn,dr,tk,os⟩):wpAny (MM w) A (binaryOp .Mult (.ref t) (.int x u)) Q E ⟨h,gn,dr,tk,os⟩:=by
 subst hx
 refine mul_list (s:=⟨h,gn,dr,tk,os⟩) F N (N _ hm).1 (Int.le_trans (by decide) (Int.natCast_nonneg _)) (Int.lt_of_le_of_lt (Int.ofNat_le.mpr hj) (by decide)) (by simp;exact pq hj) fun h' F' N'=>?_
 have e:(List.foldl (fun x1 x2=>x1++x2) #[] (List.replicate (if([v].toArray).isEmpty=true then 0 else(j:Int).toNat) [v].toArray))=(List.replicate j v).toArray:=by
  have:=BD v j
  simpa using this
 rw[e] at N'
 exact k _ h' F' N' (fun p hp=>Heap.lt_size (N p hp).1) F.ns.lt
theorem K9{t:Addr}{vs:List Value}{n:Nat}{i:Int}{u:Tok}{x:Value}{Q:Unit->Shared->Prop}(F:Fr agj L h m)(N:News agj L h news)(U:Upd t (ay vs n) (ay (vs.set i.toNat x) n) news bK)(h0:0<=i)(hz:vs.length<=1000)(hi:i<vs.length)
  (k:∀h',Fr agj L h' m->News agj L h' bK->Q () ⟨h',gn,dr,tk,os⟩):wpAny (MM w) A (setItem (.ref t) (.int i u) x) Q E ⟨h,gn,dr,tk,os⟩:=by
 obtain⟨pre,post,rfl,rfl,a,b⟩:=U.split
 have z:=N (t,ay vs n) (List.mem_append.mpr (.inr (.head _)))
 have hs:vs.toArray.size=vs.length:=List.size_toArray
 refine ki_setAt (s:=⟨h,gn,dr,tk,os⟩) z.1 h0 (KI hz hi) (by omega) (k _ (F.change (Heap.SameBut.update ..) z.2.1 z.2.2) (ki_turn _ N a b ?_ ?_))
 ·show vs.toArray.setIfInBounds i.toNat x=(vs.set i.toNat x).toArray
  apply Array.toList_inj.mp
  simp
 ·simp
theorem La{t:Addr}{vs:List Value}{n:Nat}{x:Value}{g:Obj->Led}{Q:Value->Shared->Prop}(F:Fr agj L h m)(N:News agj L h news)(U:UpdF t (ay (vs++[x]) n) news g)(hz:vs.length<=1000)
  (k:∀h' n',Fr agj L h' m->News agj L h' (g (ay vs n'))->Q x ⟨h',gn,dr,tk,os⟩):wpAny (MM w) A (call (.builtin "list.pop") [.ref t]) Q E ⟨h,gn,dr,tk,os⟩:=by
 have hm:=(bf U (o':=ay vs n)).1
 have ho:=(N _ hm).1
 have e:∃n',Obj.mapSeq (fun xs=>xs.eraseIdxIfInBounds ((vs++[x]).toArray.size-1)) (ay (vs++[x]) n)=ay vs n':=⟨_,by
  have e2:(vs++[x]).toArray.eraseIdxIfInBounds ((vs++[x]).toArray.size-1)=vs.toArray:=by
   apply Array.toList_inj.mp
   simp[List.eraseIdx_append_of_length_le]
  unfold Obj.mapSeq ay
  dsimp only
  rw[e2]⟩
 obtain⟨n',e⟩:=e
 refine call_meets PySem.F.slot_list_pop ⟨_,ho,rfl⟩ PySem.F.entry_list_pop (PySem.F.args_list_pop_1 _) (MeetsSeq.list_pop_last t (vs++[x]).toArray n x (by simp) (by rw[sizeLine_eq];simp;exact Nat.le_trans hz (Nat.le_add_left _ _))) ⟨ho,?_⟩
 exact k _ n' (cD F N hm fun b o hb e=>((Heap.SameBut.update ..).2 b hb).trans e) (cW N U (fun b o hb e=>((Heap.SameBut.update ..).2 b hb).trans e) (by rw[Heap.get?_update_self _ ho (by rw[e];rfl),e]))
theorem yq{t:Addr}{vs:List Value}{n:Nat}{name:Str}{id:String}{pl:Sem Bool}{Q:Value×List Value->Shared->Prop}(N:News agj L h news)(hm:(t,ay vs n)∈news)(slot:Slot "list" name id)(hty:typeOf (.builtin id)=pure (.type "method_descriptor"))
  (k:Q (.builtin id,[.ref t]) ⟨h,gn,dr,tk,os⟩):wpAny (MM w) A (getMethod (.ref t) name pl) Q E ⟨h,gn,dr,tk,os⟩:=listMethod_K N hm slot hty k
end
section
variable{w:World}{A:Around}{agj:Heap}{L C:Addr}{m:Str->Option Value}{news bK:Led}{E:Value->Shared->Prop}{h:Heap}{gn:Array GenState}{dr:Drawn}{tk:Nat}{os:OsState}{env:Env}
theorem r_1{n:Int}{t:Tok}{Q:Value->Shared->Prop}(F:Fr agj L h m)(N:News agj L h news)
  (k:∀r h',Fr agj L h' m->News agj L h' ((r,rM 0 n 1 tk t (tk+1))::news)->(∀p∈news,p.1<r)->@LT.lt Nat _ L r->Q (.ref r) ⟨h',gn,dr,tk+1+1,os⟩):wpAny (MM w) A (call (.type "range") [.int n t]) Q E ⟨h,gn,dr,tk,os⟩:=
 call_range_1 (s:=⟨h,gn,dr,tk,os⟩) (k _ _ (F.push _) (N.push F _) (fun p hp=>Heap.lt_size (N p hp).1) F.ns.lt)
theorem r_3{a b c:Int}{t u v:Tok}{Q:Value->Shared->Prop}(F:Fr agj L h m)(N:News agj L h news)(hc:c≠0)(hs:(b-a).natAbs.log2<9000)(cB:c.natAbs.log2<9000)
  (k:∀r h',Fr agj L h' m->News agj L h' ((r,rM a b c t u v)::news)->(∀p∈news,p.1<r)->@LT.lt Nat _ L r->Q (.ref r) ⟨h',gn,dr,tk,os⟩):wpAny (MM w) A (call (.type "range") [.int a t,.int b u,.int c v]) Q E ⟨h,gn,dr,tk,os⟩:=
 call_range_3 (s:=⟨h,gn,dr,tk,os⟩) hc (k _ _ (F.push _) (N.push F _) (fun p hp=>Heap.lt_size (N p hp).1) F.ns.lt) (Or.inl (PyProof.noPylong_of_log2 cB))
end
section
variable{w:World}{A:Around}{E:Value->Shared->Prop}{bD:Env}{s:Shared}{elt:Expr}{acc:Value}{Nx:Shared->Prop}{b:Bool}
theorem BF(e:b=true)(k:wpAny (MM w) A (eval elt bD) (rH w A E acc Nx) E s):pS w A E bD elt acc Nx b s:=by subst e;exact k
theorem GD(e:b=false)(k:Nx s):pS w A E bD elt acc Nx b s:=by subst e;exact k
end
theorem aaT:∀{a0 a1:Nat},a0+a1<=1000->¬vs=[]->a0+a1<=16777216:=fun h1 h2=>(Nat.le_trans h1 (Nat.le_add_left _ _))
def cj(led:Led):Prop:=led.Pairwise fun p q=>@LT.lt Nat _ q.1 p.1
def Ge(d c:Nat):Prop:=d<=c
noncomputable def pY:Pos:={ line:=259,col:=32,endLine:=259,endCol:=80}
def gu(o:Obj):Prop:=o=tabObj #[]\/∃c',o=dD pY c'
structure St(agj:Heap)(L:Addr)(nw:Led)(d:Nat)(h:Heap)(m:Str->Option Value)(led:Led):Prop where
 F:Fr agj L h m
 NT:∃o,gu o/\News agj L h (led++[((277:Nat),o)])
 S:cj led
 lo:∀p∈led,@LT.lt Nat _ 277 p.1
 P:Split led nw d
 D:@LE.le Nat _ d (L+1)
theorem aA{p:Addr×Obj}{led t:Led}(h:p∈led):p∈led++t:=List.mem_append_left _ h
theorem St.N{agj h:Heap}{L:Addr}{nw led:Led}{d:Nat}{m:Str->Option Value}(Z:St agj L nw d h m led):News agj L h led:=let⟨_,_,N⟩:=Z.NT;fun p hp=>N p (aA hp)
theorem St.elim{agj h:Heap}{L:Addr}{nw led:Led}{d:Nat}{m:Str->Option Value}{G:Prop}(Z:St agj L nw d h m led)(k:∀o,gu o->News agj L h (led++[((277:Nat),o)])->G):G:=let⟨o,ho,N⟩:=Z.NT;k o ho N
theorem cj.cons{t:Addr}{o:Obj}{led:Led}(S:cj led)(h:∀p∈led,p.1<t):cj ((t,o)::led):=List.Pairwise.cons h S
theorem cj.tail{q:Addr×Obj}{r:Led}(S:cj (q::r)):cj r:=(List.pairwise_cons.mp S).2
theorem cj.gt{q:Addr×Obj}{r:Led}(S:cj (q::r)):∀p∈r,@LT.lt Nat _ p.1 q.1:=(List.pairwise_cons.mp S).1
theorem cj.app{tl r:Led}(S:cj (tl++r)):cj tl/\cj r/\∀p∈tl,∀q∈r,@LT.lt Nat _ q.1 p.1:=List.pairwise_append.mp S
theorem cj.sub{r r':Led}(S:cj r)(h:r'.Sublist r):cj r':=List.Pairwise.sublist h S
theorem cj.low{led:Led}(S:cj led)(h:∀p∈led,@LT.lt Nat _ 277 p.1)(o:Obj):cj (led++[((277:Nat),o)]):=
 List.pairwise_append.mpr ⟨S,List.pairwise_singleton _ _,fun p hp q hq=>by rcases List.mem_singleton.mp hq with rfl;exact h p hp⟩
theorem bO{d:Addr}{o:Obj}{r:Led}(S:cj ((d,o)::r)):UpdF d o ((d,o)::r) (fun o'=>(d,o')::r):=.head fun p hp=>Nat.ne_of_lt (S.gt p hp)
theorem ak{d:Addr}{o:Obj}{q:Addr×Obj}{r:Led}{g:Obj->Led}(U:cj r->UpdF d o r g)(S:cj (q::r)):UpdF d o (q::r) (fun o'=>q::g o'):=by
 have V:=U S.tail
 have:=S.gt _ (bf V (o':=o)).1
 exact .tail (Nat.ne_of_gt this) V
theorem aaU{d:Addr}{o:Obj}{tl r:Led}{g:Obj->Led}(U:cj r->UpdF d o r g)(S:cj (tl++r)):UpdF d o (tl++r) (fun o'=>tl++g o'):=by
 obtain⟨_,S2,x⟩:=S.app
 have V:=U S2
 exact xW (fun p hp=>Nat.ne_of_gt (x p hp _ (bf V (o':=o)).1)) V
theorem yu{d:Addr}{o:Obj}{r t:Led}{g:Obj->Led}(U:UpdF d o r g)(h:∀p∈t,p.1≠d):UpdF d o (r++t) (fun o'=>g o'++t):=by
 induction U with
 |head a=>exact .head fun p hp=>(List.mem_append.mp hp).elim (a p) (h p)
 |tail a _ ih=>exact .tail a ih
theorem pZ{d:Addr}{o o':Obj}{r:Led}{g:Obj->Led}(U:UpdF d o r g):Upd d o o' r (g o'):=by
 induction U with
 |head h=>exact .head h
 |tail h _ ih=>exact .tail h ih
theorem cj.upd{d:Addr}{o:Obj}{r:Led}{g:Obj->Led}(S:cj r)(U:UpdF d o r g)(o':Obj):cj (g o'):=by
 obtain⟨pre,post,rfl,hg,_,_⟩:=U.split
 rw[hg]
 obtain⟨a,b,c⟩:=S.app
 refine List.pairwise_append.mpr ⟨a,List.pairwise_cons.mpr ⟨fun q hq=>b.gt q hq,b.tail⟩,fun p hp q hq=>?_⟩
 rcases List.mem_cons.mp hq with rfl|hq
 ·exact c p hp (d,o) (.head _)
 ·exact c p hp q (.tail _ hq)
inductive Dr(d:Addr):Led->Led->Prop
 |here {o r}:Dr d ((d,o)::r) r
 |tail {p r r'}:Dr d r r'->Dr d (p::r) (p::r')
 |app {tl r r'}:Dr d r r'->Dr d (tl++r) (tl++r')
theorem Dr.sub{d:Addr}{r r':Led}(D:Dr d r r'):r'.Sublist r:=by
 induction D with
 |here=>exact .cons _ (List.Sublist.refl _)
 |tail _ ih=>exact .cons_cons _ ih
 |app _ ih=>exact List.Sublist.append (List.Sublist.refl _) ih
theorem Dr.drop{d:Addr}{r r':Led}(D:Dr d r r'):cj r->(∃o,(d,o)∈r)/\Drop d r r':=by
 induction D with
 |here=>exact fun S=>⟨⟨_,.head _⟩,.here (.base fun p hp=>Nat.ne_of_lt (S.gt p hp))⟩
 |tail _ ih=>
  intro S
  obtain⟨⟨o,a⟩,b⟩:=ih S.tail
  exact⟨⟨o,.tail _ a⟩,.tail (Nat.ne_of_gt (S.gt _ a)) b⟩
 |app _ ih=>
  intro S
  obtain⟨_,S2,x⟩:=S.app
  obtain⟨⟨o,a⟩,b⟩:=ih S2
  exact⟨⟨o,List.mem_append_right _ a⟩,.app (fun p hp=>Nat.ne_of_gt (x p hp _ a)) b⟩
theorem Dr.low{d:Addr}{r r' t:Led}(D:Dr d r r'):Dr d (r++t) (r'++t):=by
 induction D with
 |here=>exact .here
 |tail _ ih=>exact .tail ih
 |@app tl r r' _ ih=>rw[List.append_assoc,List.append_assoc];exact .app ih
def fO(ds:List Addr)(bG led:Led)(g:Led->Led):Prop:=(∀d∈ds,∃o,(d,o)∈bG)/\jQ ds bG led g
theorem yv{d1 d2:Addr}{o1 o2:Obj}{r:Led}(S:cj ((d1,o1)::(d2,o2)::r)):fO [d1,d2] [(d1,o1),(d2,o2)] ((d1,o1)::(d2,o2)::r) (fun b=>b++r):=by
 refine⟨fun d hd=>?_,aaP fun p hp q=>?_⟩
 ·rcases List.mem_cons.mp hd with rfl|hd
  ·exact⟨_,.head _⟩
  ·rcases List.mem_cons.mp hd with rfl|hd
   ·exact⟨_,.tail _ (.head _)⟩
   ·cases hd
 ·simp only[List.mem_cons,List.not_mem_nil,or_false] at q
  have h1:=S.gt p (.tail _ hp)
  have h2:=S.tail.gt p hp
  rcases q with q|q
  ·exact absurd q (Nat.ne_of_lt h1)
  ·exact absurd q (Nat.ne_of_lt h2)
theorem yw{d1 d2 d3 d4 d5:Addr}{o1 o2 o3 o4 o5:Obj}{r:Led}(S:cj ((d1,o1)::(d2,o2)::(d3,o3)::(d4,o4)::(d5,o5)::r)):
  fO [d1,d2,d4,d5] [(d1,o1),(d2,o2),(d3,o3),(d4,o4),(d5,o5)] ((d1,o1)::(d2,o2)::(d3,o3)::(d4,o4)::(d5,o5)::r) (fun b=>b++r):=by
 refine⟨fun d hd=>?_,aaQ fun p hp q=>?_⟩
 ·simp only[List.mem_cons,List.not_mem_nil,or_false] at hd
  rcases hd with rfl|rfl|rfl|rfl
  ·exact⟨_,.head _⟩
  ·exact⟨_,.tail _ (.head _)⟩
  ·exact⟨_,.tail _ (.tail _ (.tail _ (.head _)))⟩
  ·exact⟨_,.tail _ (.tail _ (.tail _ (.tail _ (.head _))))⟩
 ·simp only[List.mem_cons,List.not_mem_nil,or_false] at q
  have h1:=S.gt p (.tail _ (.tail _ (.tail _ (.tail _ hp))))
  have h2:=S.tail.gt p (.tail _ (.tail _ (.tail _ hp)))
  have h4:=S.tail.tail.tail.gt p (.tail _ hp)
  have h5:=S.tail.tail.tail.tail.gt p hp
  rcases q with q|q|q|q
  ·exact absurd q (Nat.ne_of_lt h1)
  ·exact absurd q (Nat.ne_of_lt h2)
  ·exact absurd q (Nat.ne_of_lt h4)
  ·exact absurd q (Nat.ne_of_lt h5)
theorem cY{ds:List Addr}{bG led:Led}{g:Led->Led}{q:Addr×Obj}(U:cj led->fO ds bG led g)(S:cj (q::led)):fO ds bG (q::led) (fun b=>q::g b):=by
 obtain⟨a,V⟩:=U S.tail
 refine⟨a,Bs (fun hd=>?_) V⟩
 obtain⟨o,ho⟩:=a _ hd
 exact absurd rfl (Nat.ne_of_lt (S.gt (_,o) (cF V (_,o) ho)))
theorem aav{ds:List Addr}{bG led tl:Led}{g:Led->Led}(U:cj led->fO ds bG led g)(S:cj (tl++led)):fO ds bG (tl++led) (fun b=>tl++g b):=by
 obtain⟨_,S2,x⟩:=S.app
 obtain⟨a,V⟩:=U S2
 refine⟨a,Gb (fun p hp hd=>?_) V⟩
 obtain⟨o,ho⟩:=a _ hd
 exact absurd rfl (Nat.ne_of_lt (x p hp (_,o) (cF V (_,o) ho)))
theorem cj.BH{ds:List Addr}{bG jk led:Led}{g:Led->Led}(S:cj led)(U:fO ds bG led g)(h:jk.map (·.1)=bG.map (·.1)):cj (g jk):=by
 obtain⟨_,pre,post,rfl,hg,_,_⟩:=U
 rw[hg]
 have key:∀l l':Led,l.map (·.1)=l'.map (·.1)->cj l->cj l':=fun l l' e s=>by
  have:(l.map (·.1)).Pairwise fun p q=>@LT.lt Nat _ q p:=List.pairwise_map.mpr s
  rw[e] at this
  exact List.pairwise_map.mp this
 exact key _ _ (by simp[h]) S
theorem cj.tY{ds:List Addr}{bG led:Led}{g:Led->Led}(S:cj led)(U:fO ds bG led g):cj (g []):=by
 obtain⟨_,pre,post,rfl,hg,_,_⟩:=U
 rw[hg]
 refine S.sub ?_
 exact List.Sublist.append (List.Sublist.append (List.Sublist.refl _) (List.nil_sublist _)) (List.Sublist.refl _)
theorem fO.low{ds:List Addr}{bG led t:Led}{g:Led->Led}(U:fO ds bG led g)(h:∀p∈t,p.1∉ds):fO ds bG (led++t) (fun b=>g b++t):=by
 obtain⟨a,pre,post,rfl,hg,b,c⟩:=U
 exact⟨a,pre,post++t,by simp,fun x=>by rw[hg];simp,b,fun p hp=>(List.mem_append.mp hp).elim (c p) (h p)⟩
section
variable{agj h h':Heap}{L:Addr}{nw led led':Led}{d:Nat}{m m':Str->Option Value}{o7:Obj}
theorem St.frame(Z:St agj L nw d h m led)(h7:gu o7)(F:Fr agj L h' m')(N:News agj L h' (led++[((277:Nat),o7)])):St agj L nw d h' m' led:=⟨F,⟨_,h7,N⟩,Z.S,Z.lo,Z.P,Z.D⟩
theorem St.ge(Z:St agj L nw d h m led){t:Addr}(h:@LT.lt Nat _ L t):Ge d t:=Nat.le_trans Z.D h
theorem St.push(Z:St agj L nw d h m led)(h7:gu o7){t:Addr}{o:Obj}(F:Fr agj L h' m')(N:News agj L h' ((t,o)::(led++[((277:Nat),o7)])))(hl:∀p∈led++[((277:Nat),o7)],p.1<t)(hL:@LT.lt Nat _ L t):St agj L nw d h' m' ((t,o)::led):=
 ⟨F,⟨o7,h7,N⟩,Z.S.cons (fun p hp=>hl p (aA hp)),fun p hp=>by rcases List.mem_cons.mp hp with rfl|hp;have q:=hl (277,o7) (List.mem_append_right _ (.head _));exact q;exact Z.lo p hp,
  fun p hp=>by rcases List.mem_cons.mp hp with rfl|hp;exact .inr (Z.ge hL);exact Z.P p hp,Z.D⟩
theorem St.Lb(Z:St agj L nw d h m led){c:Addr}{o:Obj}(hm:(c,o)∈led):∀p∈([((277:Nat),o7)]:Led),p.1≠c:=fun p hp=>by
 rcases List.mem_singleton.mp hp with rfl
 have:=Z.lo _ hm
 exact Nat.ne_of_lt this
theorem St.U7(Z:St agj L nw d h m led){c:Addr}{o:Obj}{g:Obj->Led}(U:UpdF c o led g):UpdF c o (led++[((277:Nat),o7)]) (fun o'=>g o'++[((277:Nat),o7)]):=yu U (Z.Lb (bf U (o':=o)).1)
theorem St.D7(Z:St agj L nw d h m led){c:Addr}(D:Dr c led led'):Drop c (led++[((277:Nat),o7)]) (led'++[((277:Nat),o7)]):=(D.low.drop (Z.S.low Z.lo o7)).2
theorem St.B7(Z:St agj L nw d h m led){ds:List Addr}{bG:Led}{g:Led->Led}(U:fO ds bG led g):fO ds bG (led++[((277:Nat),o7)]) (fun b=>g b++[((277:Nat),o7)]):=U.low fun p hp hd=>by
 rcases List.mem_singleton.mp hp with rfl
 obtain⟨o,ho⟩:=U.1 _ hd
 have:=Z.lo _ (cF U.2 _ ho)
 exact Nat.lt_irrefl _ this
theorem St.upd(Z:St agj L nw d h m led)(h7:gu o7){c:Addr}{o o':Obj}{g:Obj->Led}(U:UpdF c o led g)(hc:Ge d c)(F:Fr agj L h' m')(N:News agj L h' (g o'++[((277:Nat),o7)])):St agj L nw d h' m' (g o'):=
 ⟨F,⟨o7,h7,N⟩,Z.S.upd U o',fun p hp=>by rcases (bf U (o':=o')).2 p hp with rfl|⟨q,_⟩;have:=Z.lo _ (bf U (o':=o)).1;exact this;exact Z.lo p q,
  fun p hp=>by rcases (bf U (o':=o')).2 p hp with rfl|⟨q,_⟩;exact .inr hc;exact Z.P p q,Z.D⟩
theorem St.sub(Z:St agj L nw d h m led)(h7:gu o7)(hs:led'.Sublist led)(F:Fr agj L h' m')(N:News agj L h' (led'++[((277:Nat),o7)])):St agj L nw d h' m' led':=
 ⟨F,⟨o7,h7,N⟩,Z.S.sub hs,fun p hp=>Z.lo p (hs.subset hp),fun p hp=>Z.P p (hs.subset hp),Z.D⟩
theorem St.less(Z:St agj L nw d h m led)(hs:led'.Sublist led):St agj L nw d h m led':=
 Z.elim fun o ho N=>Z.sub ho hs Z.F fun p hp=>N p ((List.mem_append.mp hp).elim (fun x=>aA (hs.subset x)) fun x=>List.mem_append_right _ x)
theorem St.BH(Z:St agj L nw d h m led)(h7:gu o7){ds:List Addr}{bG jk:Led}{g:Led->Led}(U:fO ds bG led g)(hb:jk.map (·.1)=bG.map (·.1))(hd:∀p∈bG,Ge d p.1)(F:Fr agj L h' m')(N:News agj L h' (g jk++[((277:Nat),o7)])):St agj L nw d h' m' (g jk):=by
 have S:=Z.S.BH U hb
 obtain⟨_,pre,post,rfl,hg,_,_⟩:=U
 have key:∀p∈jk,∃q∈bG,q.1=p.1:=fun p hp=>by
  have:p.1∈bG.map (·.1):=hb▸List.mem_map_of_mem hp
  obtain⟨q,hq,e⟩:=List.mem_map.mp this
  exact⟨q,hq,e⟩
 refine⟨F,⟨o7,h7,N⟩,S,?_,?_,Z.D⟩
 ·rw[hg]
  intro p hp
  rcases List.mem_append.mp hp with hp|hp
  ·rcases List.mem_append.mp hp with hp|hp
   ·exact Z.lo p (List.mem_append_left _ (List.mem_append_left _ hp))
   ·obtain⟨q,hq,e⟩:=key p hp
    rw[<-e]
    exact Z.lo q (List.mem_append_left _ (List.mem_append_right _ hq))
  ·exact Z.lo p (List.mem_append_right _ hp)
 rw[hg]
 intro p hp
 rcases List.mem_append.mp hp with hp|hp
 ·rcases List.mem_append.mp hp with hp|hp
  ·exact Z.P p (List.mem_append_left _ (List.mem_append_left _ hp))
  ·obtain⟨q,hq,e⟩:=key p hp
   have:=hd q hq
   rw[e] at this
   exact .inr this
 ·exact Z.P p (List.mem_append_right _ hp)
theorem St.tY(Z:St agj L nw d h m led)(h7:gu o7){ds:List Addr}{bG:Led}{g:Led->Led}(U:fO ds bG led g)(F:Fr agj L h' m')(N:News agj L h' (g []++[((277:Nat),o7)])):St agj L nw d h' m' (g []):=by
 have S:=Z.S.tY U
 obtain⟨_,pre,post,rfl,hg,_,_⟩:=U
 have key:∀p∈g [],p∈pre++bG++post:=fun p hp=>by
  rw[hg] at hp
  rcases List.mem_append.mp hp with hp|hp
  ·rcases List.mem_append.mp hp with hp|hp
   ·exact List.mem_append_left _ (List.mem_append_left _ hp)
   ·cases hp
  ·exact List.mem_append_right _ hp
 exact⟨F,⟨o7,h7,N⟩,S,fun p hp=>Z.lo p (key p hp),fun p hp=>Z.P p (key p hp),Z.D⟩
end
def yx(agj:Heap)(L:Addr)(nw:Led)(d:Nat)(m:Str->Option Value)(led:Led)(dr:Drawn)(os:OsState)(Q:Value->Shared->Prop)(P:Led->Value->Prop):Prop:=
 ∀r tl h' bB aN,St agj L nw d h' m (tl++led)->AllBare bB->P tl r->Q r ⟨h',bB,dr,aN,os⟩
def yy(agj:Heap)(L:Addr)(nw:Led)(d:Nat)(m:Str->Option Value)(led:Led)(dr:Drawn)(os:OsState)(Q:Value->Shared->Prop)(P:Value->Prop):Prop:=
 ∀r h' bB aN,St agj L nw d h' m led->AllBare bB->P r->Q r ⟨h',bB,dr,aN,os⟩
section
variable{w:World}{p:Program}{loose:List Str}{aY:ExcName->Option Value}{mg mb:Str->Option Value}
 {dp un:Nat} {gd:Option (List Code)} {cn:Str} {cs:Scope} {a:Addr} {aJ:Value} {cl:List (Str×Addr)} {outer:List Env} {A₀:Around} {base agj:Heap} {L:Addr} {m:Str->Option Value} {nw led led' news:Led} {d:Nat} {Q E:Value->Shared->Prop}
 {h:Heap} {gn:Array GenState} {dr:Drawn} {tk:Nat} {os:OsState} {K:Frag}
theorem St.start{g:Heap}{L':Addr}{o7:Obj}(Z:St agj L nw d h m led)(h7:gu o7){h':Heap}{m':Str->Option Value}(F':Fr g L' h' m')(N':News g L' h' (led++[((277:Nat),o7)])):St g L' led (L'+1) h' m' led:=
 ⟨F',⟨o7,h7,N'⟩,Z.S,Z.lo,fun _ h=>.inl h,Nat.le_refl _⟩
theorem BJ{o7:Obj}{t:Addr}(hl:∀p∈led++[((277:Nat),o7)],p.1<t):@LT.lt Nat _ 277 t:=by have q:=hl (277,o7) (List.mem_append_right _ (.head _));exact q
theorem GF{name qual:Str}{params:Arguments}{body:List Stmt}{scope:Scope}{dV kV doc pm bu ct oc:Value}{an od:Option Addr}{nR:Array (Option Value)}{f:Addr}{args:List Value}(rb:List (Str×Value))
  (B:Below A₀ base outer agj) (Z:St agj L nw d h m led) (X:K.In agj) (T:Top p loose aY mg mb agj) (hk:cs.kind=.function)
  (ho:K.lookup f=some ⟨oc,od,.func (fnOf name qual params body scope dV kV doc pm an bu ct),nR⟩) (hcd:codeIn K bu qual=true) (cg:dp<recursionLimit)
  (dG:BindsTo ⟨h,gn,dr,tk,os⟩ (fnOf name qual params body scope dV kV doc pm an bu ct) ⟨args,[]⟩ rb.reverse) (nS:(rb.reverse.all fun x=>decide (scope.names.lookup x.1=some .local))=true)
  (jy:scope.isCoroutine=false) (fy:scope.isGenerator=false) (mD:scope.kind=.function)
  (cL:∀x∈scope.names,x.2≠.cell)
  (k:∀g L' aq tk,St g L' led (L'+1) aq (dB rb) led->Below (ktrTop dp un gd cn cs L a aJ cl outer) base (envX cn cs L a aJ cl::outer) g->K.In g->Top p loose aY mg mb g->(∀p∈led,p.1<L')->@LT.lt Nat _ L L'->
   wpAny (MM w) (ktrTop (dp+1) (un+3) gd qual scope L' f bu [] (envX cn cs L a aJ cl::outer)) (execs body (envX qual scope L' f bu [])) (BQ agj L m g Q E)
    (BE w (ktrTop (dp+1) (un+3) gd qual scope L' f bu [] (envX cn cs L a aJ cl::outer)) (envX qual scope L' f bu []) E) ⟨aq,gn,dr,tk,os⟩):
  wpAny (MM w) (ktrTop dp un gd cn cs L a aJ cl outer) (call (.ref f) args) Q E ⟨h,gn,dr,tk,os⟩:=
 Z.elim fun o7 h7 N7=>enter rb B Z.F X N7 T hk ho hcd cg dG nS jy fy mD cL fun g L' aq tk F' N' B' X' T' hb hL=>k g L' aq tk (Z.start h7 F' N') B' X' T' (fun p hp=>hb p (aA hp)) hL
theorem rP{g:Heap}{L':Addr}{m':Str->Option Value}{v:Value}{P:Value->Prop}{aZ:Led}(ret:yy agj L nw d m aZ dr os Q P)(fP:cj aZ/\(∀p∈aZ,@LT.lt Nat _ 277 p.1)/\Split aZ nw d/\@LE.le Nat _ d (L+1)){d':Nat}(Z:St g L' aZ d' h m' led)(hG:AllBare gn)(sub:∀p∈aZ,p∈led)(hp:P v):BQ agj L m g Q E (.ret v) ⟨h,gn,dr,tk,os⟩:=
 Z.elim fun o7 h7 N7=>leaveK_ Z.F (fun p hp=>N7 p ((List.mem_append.mp hp).elim (fun x=>aA (sub p x)) fun x=>List.mem_append_right _ x)) fun F N=>ret v _ _ _ ⟨F,⟨o7,h7,N⟩,fP.1,fP.2.1,fP.2.2.1,fP.2.2.2⟩ hG hp
theorem GG{g:Heap}{L':Addr}{d':Nat}{m':Str->Option Value}{aZ:Led}(Z:St g L' aZ d' h m' led)(hb:∀p∈aZ,@LT.lt Nat _ p.1 d')(sub:∀p∈aZ,p∈led):
  ∃tl:Led,(∀p∈tl++aZ,p∈led)/\(∀p∈tl,@LE.le Nat _ d' p.1)/\(∀p∈led,p∈tl++aZ)/\(∀p∈led,Ge d' p.1->p∈tl)/\cj tl:=by
 refine⟨led.filter fun p=>decide (@LE.le Nat _ d' p.1),fun p hp=>?_,fun p hp=>?_,fun p hp=>?_,fun p hp hd=>?_,?_⟩
 ·exact(List.mem_append.mp hp).elim (fun h=>(List.mem_filter.mp h).1) (sub p)
 ·exact of_decide_eq_true (List.mem_filter.mp hp).2
 ·rcases Z.P p hp with h|h
  ·exact List.mem_append_right _ h
  ·exact List.mem_append_left _ (List.mem_filter.mpr ⟨hp,decide_eq_true h⟩)
 ·exact List.mem_filter.mpr ⟨hp,decide_eq_true hd⟩
 ·exact Z.S.sub List.filter_sublist
theorem yz{tl aZ:Led}{d':Nat}{h':Heap}{o7:Obj}(h7:gu o7)(Lc:∀p∈tl,@LT.lt Nat _ 277 p.1)(fP:cj aZ/\(∀p∈aZ,@LT.lt Nat _ 277 p.1)/\Split aZ nw d/\@LE.le Nat _ d (L+1))(F:Fr agj L h' m)(N:News agj L h' (tl++aZ++[((277:Nat),o7)]))(hb:∀p∈aZ,@LT.lt Nat _ p.1 d')(hL:@LT.lt Nat _ L d')(h1:∀p∈tl,@LE.le Nat _ d' p.1)(h2:cj tl):St agj L nw d h' m (tl++aZ):=by
 refine⟨F,⟨o7,h7,N⟩,List.pairwise_append.mpr ⟨h2,fP.1,fun p hp q hq=>Nat.lt_of_lt_of_le (hb q hq) (h1 p hp)⟩,fun p hp=>(List.mem_append.mp hp).elim (Lc p) (fP.2.1 p),fun p hp=>?_,fP.2.2.2⟩
 rcases List.mem_append.mp hp with hp|hp
 ·exact .inr (Nat.le_trans fP.2.2.2 (Nat.le_trans hL (h1 p hp)))
 ·exact fP.2.2.1 p hp
theorem z_end{g:Heap}{L':Addr}{m':Str->Option Value}{aZ:Led}{v:Value}{P:Led->Value->Prop}(ret:yx agj L nw d m aZ dr os Q P)(fP:cj aZ/\(∀p∈aZ,@LT.lt Nat _ 277 p.1)/\Split aZ nw d/\@LE.le Nat _ d (L+1))(Z:St g L' aZ (L'+1) h m' led)(hG:AllBare gn)(hb:∀p∈aZ,p.1<L')(hl:@LT.lt Nat _ L L')
  (sub:∀p∈aZ,p∈led) (hp:∀tl,(∀p∈led,p∈tl++aZ)->(∀p∈led,Ge (L'+1) p.1->p∈tl)->P tl v):BQ agj L m g Q E (.ret v) ⟨h,gn,dr,tk,os⟩:=by
 have yC:∀p∈aZ,@LT.lt Nat _ p.1 (L'+1):=fun p hp=>Nat.lt_succ_of_lt (hb p hp)
 obtain⟨tl,h1,h2,h3,h4,h5⟩:=GG Z yC sub
 exact Z.elim fun o7 h7 N7=>leaveK_ Z.F (fun p hp=>N7 p ((List.mem_append.mp hp).elim (fun x=>aA (h1 p x)) fun x=>List.mem_append_right _ x)) fun F N=>ret v tl _ _ _ (yz h7 (fun p hp=>Z.lo p (h1 p (List.mem_append_left _ hp))) fP F N yC (Nat.lt_succ_of_lt hl) h2 h5) hG (hp tl h3 h4)
theorem yD{g:Heap}{L' x dx:Addr}{m':Str->Option Value}{aZ:Led}{P:Led->Value->Prop}(ret:yx agj L nw d m aZ dr os Q P)(fP:cj aZ/\(∀p∈aZ,@LT.lt Nat _ 277 p.1)/\Split aZ nw d/\@LE.le Nat _ d (L+1))(Z:St g L' aZ dx h m' led)(hG:AllBare gn)(hb:∀p∈aZ,p.1<dx)(hl:@LT.lt Nat _ L dx)
  (sub:∀p∈aZ,p∈led) (hp:∀tl,(∀p∈led,p∈tl++aZ)->(∀p∈led,Ge dx p.1->p∈tl)->P tl (.ref x)):BI agj L m g x Q E .next ⟨h,gn,dr,tk,os⟩:=by
 obtain⟨tl,h1,h2,h3,h4,h5⟩:=GG Z hb sub
 exact Z.elim fun o7 h7 N7=>leaveK_ Z.F (fun p hp=>N7 p ((List.mem_append.mp hp).elim (fun x=>aA (h1 p x)) fun x=>List.mem_append_right _ x)) fun F N=>⟨rfl,ret _ tl _ _ _ (yz h7 (fun p hp=>Z.lo p (h1 p (List.mem_append_left _ hp))) fP F N hb hl h2 h5) hG (hp tl h3 h4)⟩
theorem BK{C fI:Addr}{name qual:Str}{params:Arguments}{body:List Stmt}{scope:Scope}{dV kV doc pm bu ct oc:Value}{an od:Option Addr}{nR:Array (Option Value)}{args:List Value}(rb:Addr->List (Str×Value))
  (B:Below A₀ base outer agj) (Z:St agj L nw d h m led) (X:K.In agj) (T:Top p loose aY mg mb agj) (hk:cs.kind=.function)
  (hm:makesIn K C=true) (hi:findIn K (.ref C) "__init__"=some (some (.ref fI))) (hf:isFn K (.ref fI)=true)
  (ho:K.lookup fI=some ⟨oc,od,.func (fnOf name qual params body scope dV kV doc pm an bu ct),nR⟩) (hcd:codeIn K bu qual=true) (cg:dp+1<recursionLimit)
  (dG:∀x s,BindsTo s (fnOf name qual params body scope dV kV doc pm an bu ct) ⟨.ref x::args,[]⟩ (rb x).reverse) (nS:∀x,((rb x).reverse.all fun x=>decide (scope.names.lookup x.1=some .local))=true)
  (jy:scope.isCoroutine=false) (fy:scope.isGenerator=false) (mD:scope.kind=.function)
  (cL:∀x∈scope.names,x.2≠.cell)
  (k:∀x dx g L' aq tk,St g L' led dx aq (dB (rb x)) ((x,instObj C dx)::(dx,dictOf [] 0)::led)->Ge dx dx->Below (ktrTop (dp+1) (un+1) gd cn cs L a aJ cl outer) base (envX cn cs L a aJ cl::outer) g->K.In g->Top p loose aY mg mb g->(∀p∈led,p.1<dx)->@LT.lt Nat _ L dx->
   wpAny (MM w) (ktrTop (dp+2) (un+4) gd qual scope L' fI bu [] (envX cn cs L a aJ cl::outer)) (execs body (envX qual scope L' fI bu [])) (BI agj L m g x Q E)
    (BE w (ktrTop (dp+2) (un+4) gd qual scope L' fI bu [] (envX cn cs L a aJ cl::outer)) (envX qual scope L' fI bu []) E) ⟨aq,gn,dr,tk,os⟩):
  wpAny (MM w) (ktrTop dp un gd cn cs L a aJ cl outer) (call (.ref C) args) Q E ⟨h,gn,dr,tk,os⟩:=
 Z.elim fun o7 h7 N7=>Fx rb B Z.F X N7 T hk hm hi hf ho hcd cg dG nS jy fy mD cL fun x dx Ld l2 g L' aq tk F' N' B' X' T' hx hL=>
  have l1:∀p∈led,@LT.lt Nat _ p.1 dx:=fun p hp=>Ld p (aA hp)
  have l7:=BJ Ld
  k x dx g L' aq tk ⟨F',⟨o7,h7,N'⟩,(Z.S.cons l1).cons (fun p hp=>by rcases List.mem_cons.mp hp with rfl|hp;exact l2;exact Nat.lt_trans (l1 p hp) l2),fun p hp=>by
   rcases List.mem_cons.mp hp with rfl|hp
   ·exact Nat.lt_trans l7 l2
   ·rcases List.mem_cons.mp hp with rfl|hp
    ·exact l7
    ·exact Z.lo p hp,fun p hp=>by
   rcases List.mem_cons.mp hp with rfl|hp
   ·exact .inr (Nat.le_of_lt l2)
   ·rcases List.mem_cons.mp hp with rfl|hp
    ·exact .inr (Nat.le_refl _)
    ·exact .inl hp,Nat.le_of_lt (Nat.lt_succ_of_lt (Nat.lt_trans l2 hx))⟩ (Nat.le_refl _) B' X' T' l1 hL
theorem wJ{C fI:Addr}{name qual:Str}{params:Arguments}{body:List Stmt}{scope:Scope}{dV kV doc pm bu ct oc:Value}{an od:Option Addr}{nR:Array (Option Value)}{args:List Value}(binds rb:Addr->List (Str×Value))(cx:Str)(cv:Addr->Option Value)
  (B:Below A₀ base outer agj) (Z:St agj L nw d h m led) (X:K.In agj) (T:Top p loose aY mg mb agj) (hk:cs.kind=.function)
  (hm:makesIn K C=true) (hi:findIn K (.ref C) "__init__"=some (some (.ref fI))) (hf:isFn K (.ref fI)=true)
  (ho:K.lookup fI=some ⟨oc,od,.func (fnOf name qual params body scope dV kV doc pm an bu ct),nR⟩) (hcd:codeIn K bu qual=true) (cg:dp+1<recursionLimit)
  (dG:∀x s,BindsTo s (fnOf name qual params body scope dV kV doc pm an bu ct) ⟨.ref x::args,[]⟩ (binds x))
  (bz:∀x,((binds x).all fun y=>scope.names.lookup y.1==some .local||scope.names.lookup y.1==some .cell)=true)
  (hcx:∀n,cellsFrom n scope.names []=[(cx,n)]) (xU:∀x,bindC (fun n=>scope.names.lookup n) (binds x) (fun _=>none) cx=cv x) (xC:((cellsFrom 0 scope.names []).map (·.1)).Nodup) (Kz:∀x,mZ scope.names (binds x) []=rb x)
  (jy:scope.isCoroutine=false) (fy:scope.isGenerator=false) (mD:scope.kind=.function)
  (k:∀x dx g L' aq tk c o,o.data=.cell (cv x)->St g L' led dx aq (dB (rb x)) ((c,o)::(x,instObj C dx)::(dx,dictOf [] 0)::led)->Ge dx dx->Ge dx x->Ge dx c->Below (ktrTop (dp+1) (un+1) gd cn cs L a aJ cl outer) base (envX cn cs L a aJ cl::outer) g->K.In g->Top p loose aY mg mb g->(∀p∈led,p.1<dx)->@LT.lt Nat _ L dx->
   wpAny (MM w) (ktrTop (dp+2) (un+4) gd qual scope L' fI bu [(cx,c)] (envX cn cs L a aJ cl::outer)) (execs body (envX qual scope L' fI bu [(cx,c)])) (BI agj L m g x Q E)
    (BE w (ktrTop (dp+2) (un+4) gd qual scope L' fI bu [(cx,c)] (envX cn cs L a aJ cl::outer)) (envX qual scope L' fI bu [(cx,c)]) E) ⟨aq,gn,dr,tk,os⟩):
  wpAny (MM w) (ktrTop dp un gd cn cs L a aJ cl outer) (call (.ref C) args) Q E ⟨h,gn,dr,tk,os⟩:=
 Z.elim fun o7 h7 N7=>xT binds rb cx cv B Z.F X N7 T hk hm hi hf ho hcd cg dG bz hcx xU xC Kz jy fy mD fun x dx Ld l2 g L' aq tk F' o hd N' B' X' T' hx hL=>by
  have l1:∀p∈led,@LT.lt Nat _ p.1 dx:=fun p hp=>Ld p (aA hp)
  have l7:=BJ Ld
  have s2:cj ((x,instObj C dx)::(dx,dictOf [] 0)::led):=(Z.S.cons l1).cons (fun p hp=>by rcases List.mem_cons.mp hp with rfl|hp;exact l2;exact Nat.lt_trans (l1 p hp) l2)
  have iJ:@LT.lt Nat _ x (L'+1):=Nat.lt_succ_of_lt hx
  refine k x dx g L' aq tk _ o hd ⟨F',⟨o7,h7,N'⟩,s2.cons (fun p hp=>?_),fun p hp=>?_,fun p hp=>?_,Nat.le_of_lt (Nat.lt_trans l2 iJ)⟩ (Nat.le_refl _) (Nat.le_of_lt l2) (Nat.le_of_lt (Nat.lt_trans l2 iJ)) B' X' T' l1 hL
  ·rcases List.mem_cons.mp hp with rfl|hp
   ·exact iJ
   ·exact Nat.lt_trans (s2.gt p hp) iJ
  ·rcases List.mem_cons.mp hp with rfl|hp
   ·exact Nat.lt_trans (Nat.lt_trans l7 l2) iJ
   ·rcases List.mem_cons.mp hp with rfl|hp
    ·exact Nat.lt_trans l7 l2
    ·rcases List.mem_cons.mp hp with rfl|hp
     ·exact l7
     ·exact Z.lo p hp
  ·rcases List.mem_cons.mp hp with rfl|hp
   ·exact .inr (Nat.le_of_lt (Nat.lt_trans l2 iJ))
   ·rcases List.mem_cons.mp hp with rfl|hp
    ·exact .inr (Nat.le_of_lt l2)
    ·rcases List.mem_cons.mp hp with rfl|hp
     ·exact .inr (Nat.le_refl _)
     ·exact .inl hp
end
section
variable{w:World}{p:Program}{loose:List Str}{aY:ExcName->Option Value}{mg mb:Str->Option Value}
 {cn:Str} {cs:Scope} {a:Addr} {aJ:Value} {cl:List (Str×Addr)} {A:Around} {agj:Heap} {L:Addr} {m:Str->Option Value} {l:List (Str×Value)} {nw led led' news:Led} {d:Nat} {E:Value->Shared->Prop}
 {h:Heap} {gn:Array GenState} {dr:Drawn} {tk:Nat} {os:OsState} {K:Frag} {env:Env}
theorem yE{x:Str}{v:Value}{Q:Unit->Shared->Prop}(Z:St agj L nw d h (dB l) led)(hk:cs.kind=.function)(hx:(envX cn cs L a aJ cl).kindOf x=some .local)
  (k:∀h',St agj L nw d h' (dB ((x,v)::l)) led->Q () ⟨h',gn,dr,tk+1,os⟩):wpAny (MM w) A (storeName (envX cn cs L a aJ cl) x v) Q E ⟨h,gn,dr,tk,os⟩:=
 Z.elim fun o7 h7 N7=>Km Z.F N7 hk hx fun h' F N=>k h' (Z.frame h7 F N)
theorem DP{vs:List Value}{Q:Value->Shared->Prop}(Z:St agj L nw d h m led)(hz:vs.length<=1000)
  (k:∀t h',St agj L nw d h' m ((t,aj vs 0)::led)->Ge d t->Q (.ref t) ⟨h',gn,dr,tk,os⟩):wpAny (MM w) A (newTuple vs) Q E ⟨h,gn,dr,tk,os⟩:=
 Z.elim fun o7 h7 N7=>Kn Z.F N7 hz fun t h' F N hL ho=>k t h' (Z.push h7 F N ho hL) (Z.ge hL)
theorem Le{vs:List Value}{Q:Value->Shared->Prop}(Z:St agj L nw d h m led)(hz:vs.length<=1000)
  (k:∀t h',St agj L nw d h' m ((t,ay vs 0)::led)->Ge d t->Q (.ref t) ⟨h',gn,dr,tk,os⟩):wpAny (MM w) A (newList vs) Q E ⟨h,gn,dr,tk,os⟩:=
 Z.elim fun o7 h7 N7=>Ko Z.F N7 hz fun t h' F N hL ho=>k t h' (Z.push h7 F N ho hL) (Z.ge hL)
theorem kU{elts:List Expr}{k}{pos:Pos}{t:Addr}{vs:List Value}{n:Nat}{Q:Unit->Shared->Prop}(Z:St agj L nw d h m led)(hm:(t,aj vs n)∈led)(hh:A.handled=none)
  (hn:(assignEach elts env).length=vs.length) (hs:(assignEach elts env).findIdx? (·.1)=none)
  (c:∀h',St agj L nw d h' m led->Bl w A env elts vs Q E ⟨h',gn,dr,tk,os⟩):wpAny (MM w) A (assign (.Tuple elts k pos) env (.ref t)) Q E ⟨h,gn,dr,tk,os⟩:=
 Z.elim fun o7 h7 N7=>Kx Z.F N7 (aA hm) hh hn hs fun h' F N=>c h' (Z.frame h7 F N)
theorem GH{elts:List Expr}{k}{pos:Pos}{t:Addr}{vs:List Value}{n:Nat}{Q:Unit->Shared->Prop}(Z:St agj L nw d h m led)(hm:(t,ay vs n)∈led)(hh:A.handled=none)
  (hn:(assignEach elts env).length=vs.length) (hs:(assignEach elts env).findIdx? (·.1)=none)
  (c:∀h',St agj L nw d h' m led->Bl w A env elts vs Q E ⟨h',gn,dr,tk,os⟩):wpAny (MM w) A (assign (.Tuple elts k pos) env (.ref t)) Q E ⟨h,gn,dr,tk,os⟩:=
 Z.elim fun o7 h7 N7=>Ky Z.F N7 (aA hm) hh hn hs fun h' F N=>c h' (Z.frame h7 F N)
theorem Lf{t:Addr}{vs:List Value}{n k:Nat}{Q:List Value->Shared->Prop}(Z:St agj L nw d h m led)(hm:(t,aj vs n)∈led)(hh:A.handled=none)(hn:k=vs.length)
  (c:∀h',St agj L nw d h' m led->Q vs ⟨h',gn,dr,tk,os⟩):wpAny (MM w) A (unpackItems (.ref t) k none) Q E ⟨h,gn,dr,tk,os⟩:=
 Z.elim fun o7 h7 N7=>aaL Z.F N7 (aA hm) hh hn fun h' F N=>c h' (Z.frame h7 F N)
theorem kW{x dx C:Addr}{es DI:List DictEntry}{n n':Nat}{name:Str}{v:Value}{g:Obj->Led}{Q:Unit->Shared->Prop}(Z:St agj L nw d h m led)(X:(Mine.pre.heap_1 w.params).In agj)(h1:(x,instObj C dx)∈led)(U:cj led->UpdF dx (dictOf es n) led g)
  (hs:findIn (Mine.pre.heap_1 w.params) (.ref C) "__setattr__"=some (some (.builtin "object.__setattr__"))) (hp:plainOver (Mine.pre.heap_1 w.params) C=true) (ht:takerIn (Mine.pre.heap_1 w.params) C name=some none) (hh:hasDictIn (Mine.pre.heap_1 w.params) C=true) (hl:(getL name es).isSome=true)
  (e:(putL name (PyData.keyHash w.params name) (.str name (tk+1)) v es,putN name es n)=(DI,n')) (hc:Ge d dx) (hz:DI.length<=1000)
  (k:∀h',St agj L nw d h' m (g (dictOf DI n'))->Q () ⟨h',gn,dr,tk+2,os⟩):wpAny (MM w) A (setAttr (.ref x) name v) Q E ⟨h,gn,dr,tk,os⟩:=
 have V:=U Z.S
 Z.elim fun o7 h7 N7=>Ks Z.F X N7 (aA h1) (aA (bf V (o':=dictOf es n)).1) hs hp ht hh hl e (pZ (Z.U7 V)) hz fun h' F N=>k h' (Z.upd h7 V hc F N)
theorem qa{scope:Scope}{bA:List (Str×Addr)}{C:Addr}{x:Str}{v:Value}{o:Obj}{g:Obj->Led}{Q:Unit->Shared->Prop}(Z:St agj L nw d h m led)(U:cj led->UpdF C o led g)(ho:mF C o l)(hc:Ge d C)
  (hk:(compEnvC scope bA C env).scope.kind=.function) (hx:(compEnvC scope bA C env).kindOf x=some .local)
  (k:∀h' o',St agj L nw d h' m (g o')->mF C o' ((x,v)::l)->Q () ⟨h',gn,dr,tk+1,os⟩):wpAny (MM w) A (storeName (compEnvC scope bA C env) x v) Q E ⟨h,gn,dr,tk,os⟩:=
 have V:=U Z.S
 Z.elim fun o7 h7 N7=>aaM Z.F N7 (Z.U7 V) ho hk hx fun h' o' F N hn=>k h' o' (Z.upd h7 V hc F N) hn
theorem qb{elt target iter:Expr}{ifs:List Expr}{scope:Scope}{bA:List (Str×Addr)}{pos:Pos}{use:Option (Value->Sem Unit)}{Q:Value->Shared->Prop}{I:Addr}{oi:Obj}(Z:St agj L nw d h m led)
  (hm:(I,oi)∈led) (hi:cX w I oi) (cL:∀y∈scope.names,y.2≠.cell) (bz:scope.kind=.function)
  (k:∀D C o h',St agj L nw d h' m ((C,o)::(D,ay [] 0)::led)->mF C o []->Ge d D->Ge d C->
   CL w A elt target iter ifs scope pos (compEnvC scope bA C env) (.ref I) (.ref D) (compPost (MM w) A E use Q (.ref D) C) ⟨h',gn,dr,tk,os⟩):
  KC w A E env elt target iter ifs scope bA pos use Q (.ref I) ⟨h,gn,dr,tk,os⟩:=
 Z.elim fun o7 h7 N7=>xZ Z.F N7 (aA hm) hi cL bz fun D C o h' F N hn hl hDC hL=>by
  have l7:=BJ hl
  have Z1:St agj L nw d h' m ((D,ay [] 0)::led):=Z.push h7 F (fun p hp=>N p (.tail _ hp)) hl hL
  have Z2:St agj L nw d h' m ((C,o)::(D,ay [] 0)::led):=Z1.push h7 F N (fun p hp=>by
   rcases List.mem_cons.mp hp with rfl|hp
   ·exact hDC
   ·exact Nat.lt_trans (hl p hp) hDC) (Nat.lt_trans hL hDC)
  exact k D C o h' Z2 hn (Z.ge hL) (Nat.le_trans (Z.ge hL) (Nat.le_of_lt hDC))
theorem qc{D:Addr}{vs:List Value}{n:Nat}{x:Value}{g:Obj->Led}{Q:Value->Shared->Prop}(Z:St agj L nw d h m led)(U:cj led->UpdF D (ay vs n) led g)(hc:Ge d D)(hz:vs.length<=1000)
  (k:∀h' n',St agj L nw d h' m (g (ay (vs++[x]) n'))->Q .none ⟨h',gn,dr,tk,os⟩):wpAny (MM w) A (call (.builtin "list.append") [.ref D,x]) Q E ⟨h,gn,dr,tk,os⟩:=
 have V:=U Z.S
 Z.elim fun o7 h7 N7=>x8 Z.F N7 (Z.U7 V) hz fun h' n' F N=>k h' n' (Z.upd h7 V hc F N)
theorem GI{D:Addr}{vs:List Value}{n:Nat}{x:Value}{g:Obj->Led}{Nx:Shared->Prop}(Z:St agj L nw d h m led)(U:cj led->UpdF D (ay vs n) led g)(hc:Ge d D)(hz:vs.length<=1000)
  (k:∀h' n',St agj L nw d h' m (g (ay (vs++[x]) n'))->Nx ⟨h',gn,dr,tk,os⟩):rH w A E (.ref D) Nx x ⟨h,gn,dr,tk,os⟩:=qc Z U hc hz k
theorem yF{C:Addr}{acc:Value}{Q:Value->Shared->Prop}{o:Obj}(Z:St agj L nw d h m led)(hm:(C,o)∈led)(ho:mF C o l)(D:Dr C led led')
  (k:∀h',St agj L nw d h' m led'->Q acc ⟨h',gn,dr,tk,os⟩):compPost (MM w) A E none Q acc C (.ok .next) ⟨h,gn,dr,tk,os⟩:=
 Z.elim fun o7 h7 N7=>FQ Z.F N7 (aA hm) ho (Z.D7 D) fun h' F N=>k h' (Z.sub h7 D.sub F N)
theorem BN{C:Addr}{acc:Value}{y:Str}{py:Pos}{Q:Value->Shared->Prop}{o:Obj}{lf:List (Str×Value)}(Z:St agj L nw d h (dB lf) led)(hm:(C,o)∈led)(ho:mF C o l)(D:Dr C led led')
  (hk:cs.kind=.function) (hx:(envX cn cs L a aJ cl).kindOf y=some .local)
  (k:∀h',St agj L nw d h' (dB ((y,acc)::lf)) led'->Q .none ⟨h',gn,dr,tk+1,os⟩):compPost (MM w) A E (some (assign (.Name y py) (envX cn cs L a aJ cl))) Q acc C (.ok .next) ⟨h,gn,dr,tk,os⟩:=
 Z.elim fun o7 h7 N7=>Bp Z.F N7 (aA hm) ho (Z.D7 D) hk hx fun h' F N=>k h' (Z.sub h7 D.sub F N)
theorem GJ{t:Addr}{vs:List Value}{n:Nat}{Q:Value->Shared->Prop}(Z:St agj L nw d h m led)(hm:(t,aj vs n)∈led)
  (k:∀I o h',St agj L nw d h' m ((I,o)::led)->bg o t 0->cX w I o->Ge d I->Q (.ref I) ⟨h',gn,dr,tk,os⟩):wpAny (MM w) A (pyIter (.ref t)) Q E ⟨h,gn,dr,tk,os⟩:=
 Z.elim fun o7 h7 N7=>FW Z.F N7 (aA hm) fun I o h' F N hi hs hl hL=>k I o h' (Z.push h7 F N hl hL) hi hs (Z.ge hL)
theorem GK{t:Addr}{vs:List Value}{n:Nat}{Q:Value->Shared->Prop}(Z:St agj L nw d h m led)(hm:(t,ay vs n)∈led)
  (k:∀I o h',St agj L nw d h' m ((I,o)::led)->jP o t 0->cX w I o->Ge d I->Q (.ref I) ⟨h',gn,dr,tk,os⟩):wpAny (MM w) A (pyIter (.ref t)) Q E ⟨h,gn,dr,tk,os⟩:=
 Z.elim fun o7 h7 N7=>FY Z.F N7 (aA hm) fun I o h' F N hi hs hl hL=>k I o h' (Z.push h7 F N hl hL) hi hs (Z.ge hL)
theorem GL{t:Addr}{a b c:Int}{u v z:Tok}{Q:Value->Shared->Prop}(Z:St agj L nw d h m led)(hm:(t,rM a b c u v z)∈led)(hs:Builtin.Range.small a b c=true)
  (k:∀I h',St agj L nw d h' m ((I,ji a (Builtin.Range.rangeSize a b c) c)::led)->Ge d I->Q (.ref I) ⟨h',gn,dr,tk,os⟩):wpAny (MM w) A (pyIter (.ref t)) Q E ⟨h,gn,dr,tk,os⟩:=
 Z.elim fun o7 h7 N7=>FZ Z.F N7 (aA hm) hs fun I h' F N hl hL=>k I h' (Z.push h7 F N hl hL) (Z.ge hL)
theorem GN{I t:Addr}{o:Obj}{i:Nat}{vs:List Value}{n:Nat}{x:Value}{g:Obj->Led}{Q:Option Value->Shared->Prop}(Z:St agj L nw d h m led)(U:cj led->UpdF I o led g)(hc:Ge d I)(hi:bg o t i)(hm:(t,aj vs n)∈led)(hx:vs[i]?=some x)
  (k:∀h' o',St agj L nw d h' m (g o')->bg o' t (i+1)->Q (some x) ⟨h',gn,dr,tk,os⟩):wpAny (MM w) A (pyNext (.ref I)) Q E ⟨h,gn,dr,tk,os⟩:=
 have V:=U Z.S
 Z.elim fun o7 h7 N7=>F0 Z.F N7 (Z.U7 V) hi (aA hm) hx fun h' o' F N mG=>k h' o' (Z.upd h7 V hc F N) mG
theorem GO{I t:Addr}{o:Obj}{i:Nat}{vs:List Value}{n:Nat}{x:Value}{g:Obj->Led}{Q:Option Value->Shared->Prop}(Z:St agj L nw d h m led)(U:cj led->UpdF I o led g)(hc:Ge d I)(hi:jP o t i)(hm:(t,ay vs n)∈led)(hx:vs[i]?=some x)
  (k:∀h' o',St agj L nw d h' m (g o')->jP o' t (i+1)->Q (some x) ⟨h',gn,dr,tk,os⟩):wpAny (MM w) A (pyNext (.ref I)) Q E ⟨h,gn,dr,tk,os⟩:=
 have V:=U Z.S
 Z.elim fun o7 h7 N7=>F6 Z.F N7 (Z.U7 V) hi (aA hm) hx fun h' o' F N mG=>k h' o' (Z.upd h7 V hc F N) mG
theorem GP{I:Addr}{x left step:Int}{g:Obj->Led}{Q:Option Value->Shared->Prop}(Z:St agj L nw d h m led)(U:cj led->UpdF I (ji x left step) led g)(hc:Ge d I)(hl:0<left)
  (k:∀h',St agj L nw d h' m (g (ji (x+step) (left-1) step))->Q (some (.int x tk)) ⟨h',gn,dr,tk+1,os⟩):wpAny (MM w) A (pyNext (.ref I)) Q E ⟨h,gn,dr,tk,os⟩:=
 have V:=U Z.S
 Z.elim fun o7 h7 N7=>F7 Z.F N7 (Z.U7 V) hl fun h' F N=>k h' (Z.upd h7 V hc F N)
theorem rQ{t:Addr}{vs:List Value}{n:Nat}{Q:Value->Shared->Prop}(Z:St agj L nw d h m led)(hm:(t,aj vs n)∈led)
  (k:∀e it oi h',St agj L nw d h' m ((e,aS .none it 0 .none)::(it,oi)::led)->bg oi t 0->Ge d e->Ge d it->Q (.ref e) ⟨h',gn,dr,tk,os⟩):wpAny (MM w) A (call (.type "enumerate") [.ref t]) Q E ⟨h,gn,dr,tk,os⟩:=
 Z.elim fun o7 h7 N7=>Bt Z.F N7 (aA hm) fun e it oi h' F N hi hl cO hL=>by
  have Z1:St agj L nw d h' m ((it,oi)::led):=Z.push h7 F (fun p hp=>N p (.tail _ hp)) hl hL
  have Z2:St agj L nw d h' m ((e,aS .none it 0 .none)::(it,oi)::led):=Z1.push h7 F N (fun p hp=>by
   rcases List.mem_cons.mp hp with rfl|hp
   ·exact cO
   ·exact Nat.lt_trans (hl p hp) cO) (Nat.lt_trans hL cO)
  exact k e it oi h' Z2 hi (Nat.le_trans (Z.ge hL) (Nat.le_of_lt cO)) (Z.ge hL)
theorem tZ{e it t:Addr}{oi:Obj}{i:Nat}{j:Int}{old x:Value}{vs:List Value}{n:Nat}{g:Led->Led}{Q:Option Value->Shared->Prop}(Z:St agj L nw d h m led)
  (Bv:(e,aS .none it j old)∈led) (U:cj led->fO [e,it] [(e,aS .none it j old),(it,oi)] led g) (he:Ge d e) (ht:Ge d it) (hi:bg oi t i) (hj:j=(i:Int)) (hm:(t,aj vs n)∈led) (hx:vs[i]?=some x) (hh:A.handled=none)
  (k:∀T h' o' aN,St agj L nw d h' m ((T,aj [.int j aN,x] 0)::g [(e,aS (rawInt T) it (j+1) x),(it,o')])->bg o' t (i+1)->Ge d T->Q (some (.ref T)) ⟨h',gn,dr,aN+1,os⟩):
  wpAny (MM w) A (pyNext (.ref e)) Q E ⟨h,gn,dr,tk,os⟩:=
 have V:=U Z.S
 Z.elim fun o7 h7 N7=>Bu Z.F N7 (aA Bv) (Z.B7 V).2 hi hj (aA hm) hx hh fun T h' o' aN F N mG hl hL=>by
  have Z1:St agj L nw d h' m (g [(e,aS (rawInt T) it (j+1) x),(it,o')]):=Z.BH h7 V rfl (fun p hp=>by
   rcases List.mem_cons.mp hp with rfl|hp
   ·exact he
   ·rcases List.mem_cons.mp hp with rfl|hp
    ·exact ht
    ·cases hp) F (fun p hp=>N p (.tail _ hp))
  refine k T h' o' aN (Z1.push h7 F N (fun p hp=>?_) hL) mG (Z.ge hL)
  obtain⟨_,pre,post,rfl,hg,_,_⟩:=V
  rw[hg] at hp
  rcases List.mem_append.mp hp with hp|Lc
  rotate_left
  ·exact hl p (List.mem_append_right _ Lc)
  rcases List.mem_append.mp hp with hp|hp
  ·rcases List.mem_append.mp hp with hp|hp
   ·exact hl p (aA (List.mem_append_left _ (List.mem_append_left _ hp)))
   ·rcases List.mem_cons.mp hp with rfl|hp
    ·have q:=hl (e,aS .none it j old) (aA (List.mem_append_left _ (List.mem_append_right _ (.head _))));exact q
    ·rcases List.mem_cons.mp hp with rfl|hp
     ·have q:=hl (it,oi) (aA (List.mem_append_left _ (List.mem_append_right _ (.tail _ (.head _)))));exact q
     ·cases hp
  ·exact hl p (aA (List.mem_append_right _ hp))
theorem uc{e it t:Addr}{oi:Obj}{i:Nat}{j:Int}{old:Value}{vs:List Value}{n:Nat}{Q:Option Value->Shared->Prop}(Z:St agj L nw d h m led)
  (he:(e,aS .none it j old)∈led) (hj:j=(i:Int)) (hI:(it,oi)∈led) (D:Dr it led led') (hi:bg oi t i) (hm:(t,aj vs n)∈led) (hx:i=vs.length) (hh:A.handled=none)
  (k:∀h',St agj L nw d h' m led'->Q none ⟨h',gn,dr,tk,os⟩):wpAny (MM w) A (pyNext (.ref e)) Q E ⟨h,gn,dr,tk,os⟩:=
 Z.elim fun o7 h7 N7=>Bw Z.F N7 (aA he) hj (aA hI) (Z.D7 D) hi (aA hm) hx hh fun h' F N=>k h' (Z.sub h7 D.sub F N)
theorem nX{elts:List Expr}{x1}{pos:Pos}{e it T:Addr}{i:Int}{item:Value}{g:Obj->Led}{Q:Unit->Shared->Prop}(Z:St agj L nw d h m led)(U:cj led->UpdF e (aS (rawInt T) it i item) led g)(hc:Ge d e)
  (k:∀h',St agj L nw d h' m (g (aS .none it i item))->Q () ⟨h',gn,dr,tk,os⟩):wpAny (MM w) A (letOwnedTupleGo (.Tuple elts x1 pos) (.ref e) (.ref T)) Q E ⟨h,gn,dr,tk,os⟩:=
 have V:=U Z.S
 Z.elim fun o7 h7 N7=>Bx Z.F N7 (Z.U7 V) fun h' F N=>k h' (Z.upd h7 V hc F N)
theorem DQ{t1 t2:Addr}{v1 v2:List Value}{n1 n2:Nat}{Q:Value->Shared->Prop}(Z:St agj L nw d h m led)(jO:(t1,aj v1 n1)∈led)(pV:(t2,aj v2 n2)∈led)
  (k:∀z TO TI i2 i1 o1 o2 h',St agj L nw d h' m ((z,b7 .none TI TO)::(TO,aj [.none,.none] 0)::(TI,aj [.ref i1,.ref i2] 0)::(i2,o2)::(i1,o1)::led)->bg o1 t1 0->bg o2 t2 0->jB t1 t2 i1 i2 TI TO z->
   Ge d i1->Ge d z->Q (.ref z) ⟨h',gn,dr,tk,os⟩):
  wpAny (MM w) A (call (.type "zip") [.ref t1,.ref t2]) Q E ⟨h,gn,dr,tk,os⟩:=
 Z.elim fun o7 h7 N7=>Gl Z.F N7 (aA jO) (aA pV) fun z TO TI i2 i1 o1 o2 h' F N j1 j2 ZO hl hL a1 a2 a3 a4=>by
  have up:∀{x y:Addr} {o:Obj} {r:Led},@LT.lt Nat _ x y->(∀p∈r,@LT.lt Nat _ p.1 x)->∀p∈((x,o)::r:Led),@LT.lt Nat _ p.1 y:=fun {x y o r} GQ S p hp=>by
   rcases List.mem_cons.mp hp with rfl|hp
   ·exact GQ
   ·exact Nat.lt_trans (S p hp) GQ
  have Z1:St agj L nw d h' m ((i1,o1)::led):=Z.push h7 F (fun p hp=>N p (.tail _ (.tail _ (.tail _ (.tail _ hp))))) hl hL
  have h1:=up (o:=o1) a1 hl
  have L1:@LT.lt Nat _ L i2:=Nat.lt_trans hL a1
  have Z2:St agj L nw d h' m ((i2,o2)::(i1,o1)::led):=Z1.push h7 F (fun p hp=>N p (.tail _ (.tail _ (.tail _ hp)))) h1 L1
  have h2:=up (o:=o2) a2 h1
  have L2:@LT.lt Nat _ L TI:=Nat.lt_trans L1 a2
  have Z3:St agj L nw d h' m ((TI,aj [.ref i1,.ref i2] 0)::(i2,o2)::(i1,o1)::led):=Z2.push h7 F (fun p hp=>N p (.tail _ (.tail _ hp))) h2 L2
  have h3:=up (o:=aj [.ref i1,.ref i2] 0) a3 h2
  have L3:@LT.lt Nat _ L TO:=Nat.lt_trans L2 a3
  have Z4:St agj L nw d h' m ((TO,aj [.none,.none] 0)::(TI,aj [.ref i1,.ref i2] 0)::(i2,o2)::(i1,o1)::led):=Z3.push h7 F (fun p hp=>N p (.tail _ hp)) h3 L3
  have h4:=up (o:=aj [.none,.none] 0) a4 h3
  have L4:@LT.lt Nat _ L z:=Nat.lt_trans L3 a4
  exact k z TO TI i2 i1 o1 o2 h' (Z4.push h7 F N h4 L4) j1 j2 ZO (Z.ge hL) (Z.ge L4)
theorem yG{z TO TI i2 i1 t1 t2:Addr}{o1 o2:Obj}{i nT nI:Nat}{a b x y:Value}{v1 v2:List Value}{n1 n2:Nat}{g:Led->Led}{Q:Option Value->Shared->Prop}(Z:St agj L nw d h m led)
  (Gn:(z,b7 .none TI TO)∈led) (KU:(TI,aj [.ref i1,.ref i2] nI)∈led) (U:cj led->fO [z,TO,i2,i1] [(z,b7 .none TI TO),(TO,aj [a,b] nT),(TI,aj [.ref i1,.ref i2] nI),(i2,o2),(i1,o1)] led g) (g1:Ge d i1) (j1:bg o1 t1 i) (j2:bg o2 t2 i) (jO:(t1,aj v1 n1)∈led) (pV:(t2,aj v2 n2)∈led)
  (hx:v1[i]?=some x) (hy:v2[i]?=some y) (ZO:jB t1 t2 i1 i2 TI TO z) (hT:nT=0) (hI:nI=0)
  (k:∀T h' gZ ia,St agj L nw d h' m ((T,aj [x,y] 0)::g [(z,b7 (rawInt T) TI TO),(TO,aj [x,y] 0),(TI,aj [.ref i1,.ref i2] 0),(i2,ia),(i1,gZ)])->bg gZ t1 (i+1)->bg ia t2 (i+1)->
   Ge d T->Q (some (.ref T)) ⟨h',gn,dr,tk,os⟩):wpAny (MM w) A (pyNext (.ref z)) Q E ⟨h,gn,dr,tk,os⟩:=
 have V:=U Z.S
 Z.elim fun o7 h7 N7=>Gm Z.F N7 (aA Gn) (aA KU) (Z.B7 V).2 j1 j2 (aA jO) (aA pV) hx hy ZO hT hI fun T h' gZ ia F N hi1 BO hl hL=>by
  have a3:=ZO.a3
  have a4:=ZO.a4
  have a5:=ZO.a5
  have a6:=ZO.a6
  have g2:Ge d i2:=Nat.le_trans g1 (Nat.le_of_lt a3)
  have g3:Ge d TI:=Nat.le_trans g2 (Nat.le_of_lt a4)
  have g4:Ge d TO:=Nat.le_trans g3 (Nat.le_of_lt a5)
  have g5:Ge d z:=Nat.le_trans g4 (Nat.le_of_lt a6)
  have Z1:St agj L nw d h' m (g [(z,b7 (rawInt T) TI TO),(TO,aj [x,y] 0),(TI,aj [.ref i1,.ref i2] 0),(i2,ia),(i1,gZ)]):=Z.BH h7 V rfl (fun p hp=>by
   simp only[List.mem_cons,List.not_mem_nil,or_false] at hp
   rcases hp with rfl|rfl|rfl|rfl|rfl
   ·exact g5
   ·exact g4
   ·exact g3
   ·exact g2
   ·exact g1) F (fun p hp=>N p (.tail _ hp))
  refine k T h' gZ ia (Z1.push h7 F N (fun p hp=>?_) hL) hi1 BO (Z.ge hL)
  obtain⟨_,pre,post,rfl,hg,_,_⟩:=V
  rw[hg] at hp
  rcases List.mem_append.mp hp with hp|Lc
  rotate_left
  ·exact hl p (List.mem_append_right _ Lc)
  rcases List.mem_append.mp hp with hp|hp
  ·rcases List.mem_append.mp hp with hp|hp
   ·exact hl p (aA (List.mem_append_left _ (List.mem_append_left _ hp)))
   ·simp only[List.mem_cons,List.not_mem_nil,or_false] at hp
    rcases hp with rfl|rfl|rfl|rfl|rfl
    ·have q:=hl (z,b7 .none TI TO) (aA (List.mem_append_left _ (List.mem_append_right _ (.head _))));exact q
    ·have q:=hl (TO,aj [a,b] nT) (aA (List.mem_append_left _ (List.mem_append_right _ (.tail _ (.head _)))));exact q
    ·have q:=hl (TI,aj [.ref i1,.ref i2] nI) (aA (List.mem_append_left _ (List.mem_append_right _ (.tail _ (.tail _ (.head _))))));exact q
    ·have q:=hl (i2,o2) (aA (List.mem_append_left _ (List.mem_append_right _ (.tail _ (.tail _ (.tail _ (.head _)))))));exact q
    ·have q:=hl (i1,o1) (aA (List.mem_append_left _ (List.mem_append_right _ (.tail _ (.tail _ (.tail _ (.tail _ (.head _))))))));exact q
  ·exact hl p (aA (List.mem_append_right _ hp))
theorem GR{z TO TI i2 i1 t1 t2:Addr}{o1 o2:Obj}{i nT nI:Nat}{a b:Value}{v1:List Value}{n1:Nat}{g:Led->Led}{Q:Option Value->Shared->Prop}(Z:St agj L nw d h m led)
  (Gn:(z,b7 .none TI TO)∈led) (KU:(TI,aj [.ref i1,.ref i2] nI)∈led) (U:cj led->fO [z,TO,i2,i1] [(z,b7 .none TI TO),(TO,aj [a,b] nT),(TI,aj [.ref i1,.ref i2] nI),(i2,o2),(i1,o1)] led g) (j1:bg o1 t1 i) (jO:(t1,aj v1 n1)∈led)
  (hx:v1[i]?=none) (ZO:jB t1 t2 i1 i2 TI TO z) (hT:nT=0) (hI:nI=0) (hh:A.handled=none)
  (k:∀h',St agj L nw d h' m (g [])->Q none ⟨h',gn,dr,tk,os⟩):wpAny (MM w) A (pyNext (.ref z)) Q E ⟨h,gn,dr,tk,os⟩:=
 have V:=U Z.S
 Z.elim fun o7 h7 N7=>Gp Z.F N7 (aA Gn) (aA KU) (Z.B7 V).2 j1 (aA jO) hx ZO hT hI hh fun h' F N=>k h' (Z.tY h7 V F N)
theorem rR{elts:List Expr}{x1}{pos:Pos}{z TI TO T:Addr}{g:Obj->Led}{Q:Unit->Shared->Prop}(Z:St agj L nw d h m led)(U:cj led->UpdF z (b7 (rawInt T) TI TO) led g)(hc:Ge d z)
  (k:∀h',St agj L nw d h' m (g (b7 .none TI TO))->Q () ⟨h',gn,dr,tk,os⟩):wpAny (MM w) A (letOwnedTupleGo (.Tuple elts x1 pos) (.ref z) (.ref T)) Q E ⟨h,gn,dr,tk,os⟩:=
 have V:=U Z.S
 Z.elim fun o7 h7 N7=>Gq Z.F N7 (Z.U7 V) fun h' F N=>k h' (Z.upd h7 V hc F N)
theorem GS{t:Addr}{o:Obj}{vs:List Value}{Q:Value->Shared->Prop}(Z:St agj L nw d h m led)(hm:(t,o)∈led)(ho:jR o vs)(hz:vs.length<=1000)
  (k:∀x n h',St agj L nw d h' m ((x,ay vs n)::led)->Ge d x->Q (.ref x) ⟨h',gn,dr,tk,os⟩):wpAny (MM w) A (call (.type "list") [.ref t]) Q E ⟨h,gn,dr,tk,os⟩:=
 Z.elim fun o7 h7 N7=>K5 Z.F N7 (aA hm) ho hz fun x n h' F N hl hL=>k x n h' (Z.push h7 F N hl hL) (Z.ge hL)
theorem GU{t b:Addr}{vs ws:List Value}{n n2:Nat}{Q:Value->Shared->Prop}(Z:St agj L nw d h m led)(hm:(t,ay vs n)∈led)(hb:(b,ay ws n2)∈led)(hz:vs.length+ws.length<=1000)
  (k:∀x h',St agj L nw d h' m ((x,ay (vs++ws) 0)::led)->Ge d x->Q (.ref x) ⟨h',gn,dr,tk,os⟩):wpAny (MM w) A (binaryOp .Add (.ref t) (.ref b)) Q E ⟨h,gn,dr,tk,os⟩:=
 Z.elim fun o7 h7 N7=>K6 Z.F N7 (aA hm) (aA hb) hz fun x h' F N hl hL=>k x h' (Z.push h7 F N hl hL) (Z.ge hL)
theorem GV{t b:Addr}{vs ws:List Value}{n n2:Nat}{Q:Value->Shared->Prop}(Z:St agj L nw d h m led)(hm:(t,aj vs n)∈led)(hb:(b,aj ws n2)∈led)(hz:vs.length+ws.length<=1000)(hv:vs≠[])(hw:ws≠[])
  (k:∀x h',St agj L nw d h' m ((x,aj (vs++ws) 0)::led)->Ge d x->Q (.ref x) ⟨h',gn,dr,tk,os⟩):wpAny (MM w) A (binaryOp .Add (.ref t) (.ref b)) Q E ⟨h,gn,dr,tk,os⟩:=
 Z.elim fun o7 h7 N7=>K7 Z.F N7 (aA hm) (aA hb) hz hv hw fun x h' F N hl hL=>k x h' (Z.push h7 F N hl hL) (Z.ge hL)
theorem GW{t:Addr}{v:Value}{n:Nat}{x:Int}{u:Tok}{j:Nat}{Q:Value->Shared->Prop}(Z:St agj L nw d h m led)(hm:(t,ay [v] n)∈led)(hx:x=j)(hj:j<=1000)
  (k:∀x h',St agj L nw d h' m ((x,ay (List.replicate j v) 0)::led)->Ge d x->Q (.ref x) ⟨h',gn,dr,tk,os⟩):wpAny (MM w) A (binaryOp .Mult (.ref t) (.int x u)) Q E ⟨h,gn,dr,tk,os⟩:=
 Z.elim fun o7 h7 N7=>K8 Z.F N7 (aA hm) hx hj fun x h' F N hl hL=>k x h' (Z.push h7 F N hl hL) (Z.ge hL)
theorem GX{t:Addr}{vs:List Value}{n:Nat}{i:Int}{u:Tok}{x:Value}{g:Obj->Led}{Q:Unit->Shared->Prop}(Z:St agj L nw d h m led)(U:cj led->UpdF t (ay vs n) led g)(hc:Ge d t)(h0:0<=i)(hz:vs.length<=1000)(hi:i<vs.length)
  (k:∀h',St agj L nw d h' m (g (ay (vs.set i.toNat x) n))->Q () ⟨h',gn,dr,tk,os⟩):wpAny (MM w) A (setItem (.ref t) (.int i u) x) Q E ⟨h,gn,dr,tk,os⟩:=
 have V:=U Z.S
 Z.elim fun o7 h7 N7=>K9 Z.F N7 (pZ (Z.U7 V)) h0 hz hi fun h' F N=>k h' (Z.upd h7 V hc F N)
theorem GY{t:Addr}{vs:List Value}{n:Nat}{x:Value}{g:Obj->Led}{Q:Value->Shared->Prop}(Z:St agj L nw d h m led)(U:cj led->UpdF t (ay (vs++[x]) n) led g)(hc:Ge d t)(hz:vs.length<=1000)
  (k:∀h' n',St agj L nw d h' m (g (ay vs n'))->Q x ⟨h',gn,dr,tk,os⟩):wpAny (MM w) A (call (.builtin "list.pop") [.ref t]) Q E ⟨h,gn,dr,tk,os⟩:=
 have V:=U Z.S
 Z.elim fun o7 h7 N7=>La Z.F N7 (Z.U7 V) hz fun h' n' F N=>k h' n' (Z.upd h7 V hc F N)
theorem aaV{n:Int}{t:Tok}{Q:Value->Shared->Prop}(Z:St agj L nw d h m led)
  (k:∀r h',St agj L nw d h' m ((r,rM 0 n 1 tk t (tk+1))::led)->Ge d r->Q (.ref r) ⟨h',gn,dr,tk+1+1,os⟩):wpAny (MM w) A (call (.type "range") [.int n t]) Q E ⟨h,gn,dr,tk,os⟩:=
 Z.elim fun o7 h7 N7=>r_1 Z.F N7 fun r h' F N hl hL=>k r h' (Z.push h7 F N hl hL) (Z.ge hL)
theorem aaW{a b c:Int}{t u v:Tok}{Q:Value->Shared->Prop}(Z:St agj L nw d h m led)(hc:c≠0)(hs:(b-a).natAbs.log2<9000)(cB:c.natAbs.log2<9000)
  (k:∀r h',St agj L nw d h' m ((r,rM a b c t u v)::led)->Ge d r->Q (.ref r) ⟨h',gn,dr,tk,os⟩):wpAny (MM w) A (call (.type "range") [.int a t,.int b u,.int c v]) Q E ⟨h,gn,dr,tk,os⟩:=
 Z.elim fun o7 h7 N7=>r_3 Z.F N7 hc hs cB fun r h' F N hl hL=>k r h' (Z.push h7 F N hl hL) (Z.ge hL)
theorem zb(Z:St agj L nw d h m led):cj led/\(∀p∈led,@LT.lt Nat _ 277 p.1)/\Split led nw d/\@LE.le Nat _ d (L+1):=⟨Z.S,Z.lo,Z.P,Z.D⟩
end
noncomputable def cP(c:Addr)(G:Led)(o':Obj):Led:=G.map fun p=>if p.1=c then(c,o') else p
noncomputable def cy(c:Addr)(G:Led):Led:=G.filter fun p=>decide (p.1≠c)
theorem j6{c:Addr}{o':Obj}:∀{G:Led},(∀p∈G,p.1≠c)->cP c G o'=G
 |[],_=>rfl
 |q::r,h=>by
  show(if q.1=c then(c,o') else q)::cP c r o'=q::r
  rw[if_neg (h q (.head _)),j6 fun p hp=>h p (.tail _ hp)]
theorem bV{c:Addr}{o:Obj}:∀{G:Led},cj G->(c,o)∈G->UpdF c o G (cP c G)
 |[],_,hm=>nomatch hm
 |q::r,S,hm=>by
  rcases List.mem_cons.mp hm with e|hm
  ·subst e
   have a:∀p∈r,p.1≠c:=fun p hp=>Nat.ne_of_lt (S.gt p hp)
   have e2:cP c ((c,o)::r)=fun o'=>(c,o')::r:=by
    funext o'
    show(if c=c then(c,o') else(c,o))::cP c r o'=_
    rw[if_pos rfl,j6 a]
   rw[e2]
   exact .head a
  ·have a:q.1≠c:=Nat.ne_of_gt (S.gt _ hm)
   have e2:cP c (q::r)=fun o'=>q::cP c r o':=by
    funext o'
    show(if q.1=c then(c,o') else q)::cP c r o'=_
    rw[if_neg a]
   rw[e2]
   exact .tail a (bV S.tail hm)
theorem jl{c:Addr}{o o':Obj}{G:Led}(hm:(c,o)∈G):(c,o')∈cP c G o':=List.mem_map.mpr ⟨_,hm,by simp⟩
theorem qd{c:Addr}{o':Obj}{G:Led}{p:Addr×Obj}(hm:p∈G)(hc:p.1≠c):p∈cP c G o':=List.mem_map.mpr ⟨p,hm,by rw[if_neg hc]⟩
theorem kX{c:Addr}:∀{G:Led},Drop c G (cy c G)
 |[]=>.base fun _ h=>nomatch h
 |q::r=>by
  by_cases h:q.1=c
  ·have e:cy c (q::r)=cy c r:=by unfold cy;rw[List.filter_cons,if_neg (by simp[h])]
   rw[e]
   obtain⟨a,b⟩:=q
   dsimp only at h
   subst h
   exact .here kX
  ·have e:cy c (q::r)=q::cy c r:=by unfold cy;rw[List.filter_cons,if_pos (by simp[h])]
   rw[e]
   exact .tail h kX
theorem gv{c:Addr}{G:Led}{p:Addr×Obj}(hm:p∈G)(hc:p.1≠c):p∈cy c G:=List.mem_filter.mpr ⟨hm,by simp[hc]⟩
theorem jm{c:Addr}{G:Led}:(cy c G).Sublist G:=List.filter_sublist
theorem yH{c:Addr}{r r' t:Led}(D:Drop c r r')(h:∀p∈t,p.1≠c):Drop c (r++t) (r'++t):=by
 induction D with
 |base a=>exact .base fun p hp=>(List.mem_append.mp hp).elim (a p) (h p)
 |here _ ih=>exact .here ih
 |tail a _ ih=>exact .tail a ih
 |@app tl r r' a _ ih=>rw[List.append_assoc,List.append_assoc];exact .app a ih
theorem St.A7{agj h:Heap}{L:Addr}{nw G:Led}{d:Nat}{m:Str->Option Value}{o7:Obj}(Z:St agj L nw d h m G){c:Addr}{o:Obj}(hm:(c,o)∈G):Drop c (G++[((277:Nat),o7)]) (cy c G++[((277:Nat),o7)]):=yH kX (Z.Lb hm)
def nY(w:World)(I:Addr)(N:Nat)(Vs:Nat->Value->Prop)(It:Nat->Obj->Prop)(led:Led):Prop:=
 ∀(A:Around) (E:Value->Shared->Prop) (agj:Heap) (L:Addr) (nw:Led) (d:Nat) (h:Heap) (m:Str->Option Value) (G:Led) (gn:Array GenState) (dr:Drawn) (tk:Nat) (os:OsState) (oI:Obj) (i:Nat) (Q:Option Value->Shared->Prop),A.handled=none->
  St agj L nw d h m G->(∀p∈led,p∈G)->(I,oI)∈G->Ge d I->It i oI->
  (i<N->(∀x h' o' aN,Vs i x->St agj L nw d h' m (cP I G o')->It (i+1) o'->Q (some x) ⟨h',gn,dr,aN,os⟩)->wpAny (MM w) A (pyNext (.ref I)) Q E ⟨h,gn,dr,tk,os⟩)/\
  (i=N->(∀h',St agj L nw d h' m (cy I G)->Q none ⟨h',gn,dr,tk,os⟩)->wpAny (MM w) A (pyNext (.ref I)) Q E ⟨h,gn,dr,tk,os⟩)
theorem qe{w:World}{I t:Addr}{vs:List Value}{n:Nat}{led:Led}(hm:(t,aj vs n)∈led):nY w I vs.length (fun i x=>vs[i]?=some x) (fun i o=>bg o t i) led:=by
 intro A E agj L nw d h m G gn dr tk os oI i Q hh Z sub hI hc hi
 refine⟨fun cO k=>?_,fun he k=>?_⟩
 ·exact GN Z (fun S=>bV S hI) hc hi (sub _ hm) (List.getElem?_eq_getElem cO) fun h' o' Z' mG=>k _ h' o' tk (List.getElem?_eq_getElem cO) Z' mG
 ·exact Z.elim fun o7 h7 N7=>F8 Z.F N7 (aA hI) (Z.A7 hI) hi (aA (sub _ hm)) hh (List.getElem?_eq_none (Nat.le_of_eq (Eq.symm he))) fun h' F N=>k h' (Z.sub h7 jm F N)
theorem qg{w:World}{I t:Addr}{vs:List Value}{n:Nat}{led:Led}(hm:(t,ay vs n)∈led):nY w I vs.length (fun i x=>vs[i]?=some x) (fun i o=>jP o t i) led:=by
 intro A E agj L nw d h m G gn dr tk os oI i Q hh Z sub hI hc hi
 refine⟨fun cO k=>?_,fun he k=>?_⟩
 ·exact GO Z (fun S=>bV S hI) hc hi (sub _ hm) (List.getElem?_eq_getElem cO) fun h' o' Z' mG=>k _ h' o' tk (List.getElem?_eq_getElem cO) Z' mG
 ·exact Z.elim fun o7 h7 N7=>F9 Z.F N7 (aA hI) (Z.A7 hI) hi (aA (sub _ hm)) hh (List.getElem?_eq_none (Nat.le_of_eq (Eq.symm he))) fun h' F N=>k h' (Z.sub h7 jm F N)
section
variable{w:World}{A:Around}{agj h:Heap}{L:Addr}{nw led:Led}{d:Nat}{m:Str->Option Value}{gn:Array GenState}{dr:Drawn}{tk:Nat}{os:OsState}{env:Env}{E:Value->Shared->Prop}
 {elt iter:Expr} {x:Str} {px pos:Pos} {scope:Scope} {bA:List (Str×Addr)}
theorem fY{ys:List Value}(h:ys.length=1):∃a,ys=[a]:=by
 rcases ys with _|⟨a,_|⟨b,r⟩⟩<;>simp at h
 exact⟨a,rfl⟩
theorem dK{ys:List Value}(h:ys.length=2):∃a b,ys=[a,b]:=by
 rcases ys with _|⟨a,_|⟨b,_|⟨c,r⟩⟩⟩<;>simp at h
 exact⟨a,b,rfl⟩
theorem mS{ys:List Value}(h:ys.length=3):∃a b c,ys=[a,b,c]:=by
 rcases ys with _|⟨a,_|⟨b,_|⟨c,_|⟨e,r⟩⟩⟩⟩<;>simp at h
 exact⟨a,b,c,rfl⟩
theorem ud{I:Addr}{o:Obj}{Q:Value->Shared->Prop}(Z:St agj L nw d h m led)(hm:(I,o)∈led)(hs:cX w I o)(k:Q (.ref I) ⟨h,gn,dr,tk,os⟩):wpAny (MM w) A (pyIter (.ref I)) Q E ⟨h,gn,dr,tk,os⟩:=hs _ _ _ _ (Z.N _ hm).1 k
end
section
variable{w:World}{p:Program}{loose:List Str}{aY:ExcName->Option Value}{mg mb:Str->Option Value}{A:Around}
 {agj:Heap} {L:Addr} {m:Str->Option Value} {nw led:Led} {d:Nat} {E:Value->Shared->Prop}
 {h:Heap} {gn:Array GenState} {dr:Drawn} {tk:Nat} {os:OsState} {env:Env} {scope:Scope} {bA:List (Str×Addr)}
def yI(w:World)(A:Around)(agj:Heap)(L:Addr)(nw:Led)(d:Nat)(m:Str->Option Value)(led:Led)(Fv:Nat->Value->Prop)(a:Addr)(h:Heap)(gn:Array GenState)(dr:Drawn)(tk:Nat)(os:OsState):Prop:=
 ∀(Q:Value->Shared->Prop) (E:Value->Shared->Prop),(∀t y0 y1 h' bB aN,St agj L nw d h' m ((t,aj [y0,y1] 0)::led)->AllBare bB->Ge d t->Fv 0 y0->Fv 1 y1->Q (.ref t) ⟨h',bB,dr,aN,os⟩)->
  wpAny (MM w) A (call (.type "tuple") [.ref a]) Q E ⟨h,gn,dr,tk,os⟩
theorem ue{Fv:Nat->Value->Prop}{a:Addr}{o7:Obj}(Z:St agj L nw d h m led)(h7:gu o7){h':Heap}(G:BA w A agj L m (led++[((277:Nat),o7)]) Fv a h' gn dr tk os):yI w A agj L nw d m led Fv a h' gn dr tk os:=fun Q E k=>
 G Q E fun t y0 y1 h' bB aN F N hG hl hL f0 f1=>k t y0 y1 h' bB aN (Z.push h7 F N hl hL) hG (Z.ge hL) f0 f1
theorem qh{elt:Expr}{x:Str}{vs:List Value}{Fv:Nat->Value->Prop}{t:Led}(he:rO w agj L m led scope bA env x elt vs Fv):rO w agj L m (led++t) scope bA env x elt vs Fv:=
 fun A' E' C cd i v bE kP kQ kR kT m₂ hA hv pQ hm F N=>he A' E' C cd i v bE kP kQ kR kT m₂ hA hv pQ hm F fun p hp=>N p (aA hp)
theorem m9{P:Addr}{o:Obj}:∀{led:Led},(∀p∈led,p.1≠P)->UpdF P o (led++[(P,o)]) (fun o'=>led++[(P,o')])
 |[],_=>.head fun _ h=>nomatch h
 |_::_,h=>.tail (h _ (.head _)) (m9 fun p hp=>h p (.tail _ hp))
section
variable{elt iter:Expr}{x:Str}{px:Pos}{vs:List Value}{Fv:Nat->Value->Prop}{lst c:Addr}{o:Obj}{Q:Value->Shared->Prop}
theorem zge(Z:St agj L nw d h m led)(hG:AllBare gn)(T:Top p loose aY mg mb agj)(Cd:CodeHd agj c (277:Nat))
  (hh:A.handled=none) (cg:A.depth<recursionLimit) (m7:env.code=.ref c) (hg:env.globals=mainGlobals) (jy:scope.isCoroutine=false) (iB:closureFor scope env=pure bA) (cL:∀y∈scope.names,y.2≠.cell)
  (h0:scope.names.lookup (".0":Str)=some NameKind.local) (hx:scope.names.lookup x=some .local) (bz:scope.kind=.function) (hs:∀x,genFold iter env x=pure x)
  (hm:(lst,o)∈led) (ho:jR o vs) (hlen:vs.length=2) (hit:∀Q:Value->Shared->Prop,Q (.ref lst) ⟨h,gn,dr,tk,os⟩->wpAny (MM w) A (eval iter env) Q E ⟨h,gn,dr,tk,os⟩)
  (he:rO w agj L m led scope bA env x elt vs Fv)
  (k:∀a h' bB aN,St agj L nw d h' m led->AllBare bB->yI w A agj L nw d m led Fv a h' bB dr aN os->Q (.ref a) ⟨h',bB,dr,aN,os⟩):
  wpAny (MM w) A (eval (.GeneratorExp elt [⟨.Name x px,iter,[],0⟩] scope pY) env) Q E ⟨h,gn,dr,tk,os⟩:=by
 obtain⟨o7,h7,N7⟩:=Z.NT
 have Lb:∀p∈led,p.1≠(277:Nat):=fun p hp=>Nat.ne_of_gt (Z.lo p hp)
 rcases h7 with rfl|⟨c',rfl⟩
 ·exact yl (pos:=pY) (Fv:=Fv) Z.F N7 hG T Cd (m9 Lb) hh cg m7 hg jy iB cL h0 hx bz hs (aA hm) ho hlen (Lb _ hm) hit (fun c'=>qh he) fun c' a h' bB aN F N q7 G=>by
   have Lg:gu (dD pY c'):=.inr ⟨c',rfl⟩
   have Z':St agj L nw d h' m led:=Z.frame Lg F N
   exact k a h' bB aN Z' q7 (ue Z' Lg G)
 ·have Lg:gu (dD pY c'):=.inr ⟨c',rfl⟩
  exact yk (pos:=pY) (c':=c') (Fv:=Fv) Z.F N7 hG T Cd (List.mem_append_right _ (.head _)) hh cg m7 hg jy iB cL h0 hx bz hs (aA hm) ho hlen hit (qh he) fun a h' bB aN F N q7 G=>by
   have Z':St agj L nw d h' m led:=Z.frame Lg F N
   exact k a h' bB aN Z' q7 (ue Z' Lg G)
end
theorem ztg{Fv:Nat->Value->Prop}{a:Addr}{Q:Value->Shared->Prop}(G:yI w A agj L nw d m led Fv a h gn dr tk os)
  (k:∀t y0 y1 h' bB aN,St agj L nw d h' m ((t,aj [y0,y1] 0)::led)->AllBare bB->Ge d t->Fv 0 y0->Fv 1 y1->Q (.ref t) ⟨h',bB,dr,aN,os⟩):
  wpAny (MM w) A (call (.type "tuple") [.ref a]) Q E ⟨h,gn,dr,tk,os⟩:=G Q E k
end
inductive kY(D:Led)(x mt:Addr)(p a b:Int):Prop
 |mk{dx l e ct h1 t1 u1 h2 t2 h3 t3 h4 t4 h5 t5 u5 n n1 n2 n3 e1 e2 c1 c2}(hx:(x,instObj 418 dx)∈D)
  (hd:(dx,dictOf [⟨h1,.str ("field_modulus") t1,.int p u1⟩,⟨h2,.str ("mc_tuples") t2,.ref l⟩,⟨h3,.str ("coeffs") t3,.ref ct⟩,
   ⟨h4,.str ("modulus_coeffs") t4,.ref mt⟩,⟨h5,.str ("degree") t5,.int 2 u5⟩] n)∈D)
  (hl:(l,ay [.ref e] n1)∈D) (he:(e,aj [.int 0 e1,.int 1 e2] n2)∈D) (hc:(ct,aj [.int a c1,.int b c2] n3)∈D):kY D x mt p a b
theorem kY.aU{D D':Led}{x mt:Addr}{p a b:Int}(h:kY D x mt p a b)(k:∀q∈D,q∈D')(hm:IsPair D' mt 1 0):bk D' x p a b:=let⟨h1,h2,h3,h4,h5⟩:=h;let⟨hm⟩:=hm;⟨k _ h1,k _ h2,k _ h3,k _ h4,k _ h5,hm⟩
open PySem.Spec in
section
variable{w:World}{A:Around}{E:Value->Shared->Prop}{s:Shared}
noncomputable abbrev fW(f0:Value)(f1:Bool)(it:Addr)(i:Int)(old:Value):Obj:={ cls:=.type "enumerate",dict:=none,data:=.fields #[f0,.bool f1,.ref it,rawInt i,.none,old],slots:=#[]}
theorem BP{e it T:Addr}{fp:List Addr}{n i:Nat}{P:Nat->Value->Prop}{Sh:Nat->Heap->Prop}{f1:Bool}{old:Value}{oT:Obj}{Q:Option Value->Shared->Prop}
  (D:Draws PySem.Challenge.pw_lh0036_01 w A.in1 it fp n P Sh) (he:s.heap.get? e=some (fW (rawInt T) f1 it i old)) (hT:s.heap.get? T=some oT) (hTe:T≠e) (hTi:T≠it) (cU:Sh i s.heap) (cO:i<n) (mO:e≠it) (hef:e∉fp)
  (hQ:∀x h' tk,P i x->h'.get? e=some (fW (rawInt T) true it ((i:Int)+1) old)->Sh (i+1) h'->h'.get? s.heap.objs.size=some (aj [.int i tk,x] 0)->h'.objs.size=s.heap.objs.size+1->
   (∀b o,b≠e->b≠it->s.heap.get? b=some o->h'.get? b=some o)->Q (some (.ref s.heap.objs.size)) { s with heap:=h',toks:=tk+1}):
  wpAny (MM w) A (pyNext (.ref e)) Q E s:=by
 obtain⟨hp,g,d,Lh,os⟩:=s
 have hTy:Shared.TypeIs ⟨hp,g,d,Lh,os⟩ (.ref e) "enumerate":=⟨_,he,rfl⟩
 unfold pyNext
 refine wpAny_bind (wpAny_attempt (wpAny_callSpecial?_slot (name:="__next__") hTy PySem.F.slot_enumerate_next
  (wpAny_call_entry PySem.F.slot_enumerate_next hTy PySem.F.entry_enumerate_next ?_ (PySem.F.args_enumerate_next_1 _))))
 show wpAny _ _ (field (.ref e) 2 >>=_) _ _ _
 refine wpAny_bind (wpAny_field he rfl (x:=.ref it) rfl ?_)
 refine wpAny_bind (D.item i _ _ _ cO cU fun x aq tk hPx yJ dh=>?_)
 replace dh:Heap.SameBut it hp aq:=dh
 have uf:aq.get? e=some (fW (rawInt T) f1 it i old):=(dh.2 e mO).trans he
 show wpAny _ _ (field (.ref e) 3 >>=_) _ _ ⟨aq,g,d,tk,os⟩
 refine wpAny_bind (wpAny_field uf rfl (x:=rawInt i) rfl ?_)
 show wpAny _ _ (field (.ref e) 4 >>=_) _ _ ⟨aq,g,d,tk,os⟩
 refine wpAny_bind (wpAny_field uf rfl (x:=.none) rfl ?_)
 show wpAny _ _ (mkInt i >>=_) _ _ ⟨aq,g,d,tk,os⟩
 refine wpAny_bind (wpAny_mkInt ?_)
 show wpAny _ _ (setField (.ref e) 3 (rawInt ((i:Int)+1)) >>=_) _ _ ⟨aq,g,d,tk+1,os⟩
 refine wpAny_bind (wpAny_setField_rec uf (by simp) fun bE ug dO=>?_)
 replace dO:Heap.SameBut e aq bE:=dO
 replace ug:bE.get? e=some (fW (rawInt T) f1 it ((i:Int)+1) old):=ug
 show wpAny _ _ (setField (.ref e) 4 .none >>=_) _ _ ⟨bE,g,d,tk+1,os⟩
 refine wpAny_bind (wpAny_setField_rec ug (by simp) fun bH uh dP=>?_)
 replace dP:Heap.SameBut e bE bH:=dP
 replace uh:bH.get? e=some (fW (rawInt T) f1 it ((i:Int)+1) old):=uh
 show wpAny _ _ (newTuple [.int i tk,x] >>=_) _ _ ⟨bH,g,d,tk+1,os⟩
 refine wpAny_bind (wpAny_newTuple ?_)
 have um:(bH.push (aj [.int i tk,x] 0)).get? e=some (fW (rawInt T) f1 it ((i:Int)+1) old):=Heap.get?_push_of_some _ uh
 change wpAny _ _ (Builtin.SmallTypes.ownedTupleIsFree (.ref e) >>=_) _ _ ⟨bH.push (aj [.int i tk,x] 0),g,d,tk+1,os⟩
 generalize qi:bH.push (aj [.int i tk,x] 0)=ie at*
 have hsz:bH.objs.size=hp.objs.size:=by rw[dP.1,dO.1,dh.1]
 have hel:e<hp.objs.size:=Heap.lt_size he
 have Li:ie.get? hp.objs.size=some (aj [.int i tk,x] 0):=by rw[<-qi,<-hsz];exact Heap.get?_push_size _ rfl
 have Lj:ie.objs.size=hp.objs.size+1:=by rw[<-qi,Heap.size_push,hsz]
 have DR:∀b o,b≠e->b≠it->hp.get? b=some o->ie.get? b=some o:=fun b o DS hbi hb=>by
  rw[<-qi];exact Heap.get?_push_of_some _ (dP.extBut b o DS (dO.extBut b o DS (dh.extBut b o hbi hb)))
 have GZ:Sh (i+1) ie:=D.frame _ _ _ yJ fun b hb o y=>by
  have DS:b≠e:=fun q=>hef (q▸hb)
  rw[<-qi];exact Heap.get?_push_of_some _ (dP.extBut b o DS (dO.extBut b o DS y))
 have Lk:=DR T oT hTe hTi hT
 rw[hsz]
 clear qi uh dP ug dO uf dh yJ hsz bH bE aq
 have fin:∀b6:Heap,b6.get? e=some (fW (rawInt T) true it ((i:Int)+1) old)->Heap.SameBut e ie b6->Q (some (.ref hp.objs.size)) ⟨b6,g,d,tk+1,os⟩:=fun b6 qj eK=>
  hQ x b6 tk hPx qj (D.frame _ _ _ GZ fun b hb o y=>eK.extBut b o (fun q=>hef (q▸hb)) y) (eK.extBut _ _ (Nat.ne_of_gt hel) Li) (by rw[eK.1];exact Lj) fun b o DS hbi hb=>eK.extBut b o DS (DR b o DS hbi hb)
 refine wpAny_bind ?_
 unfold Builtin.SmallTypes.ownedTupleIsFree
 refine wpAny_bind (wpAny_field um rfl (x:=rawInt T) rfl ?_)
 show wpAny _ _ (loadIfAlive ((T:Int).toNat) >>=_) _ _ _
 rw[Int.toNat_natCast]
 refine wpAny_bind (kdx_alive Lk ?_)
 simp only[Option.isNone_some,Bool.false_eq_true,if_false]
 refine wpAny_bind (wpAny_field um rfl (x:=.bool f1) rfl ?_)
 cases f1 with
 |true=>
  rw[if_neg (show ¬((Value.bool true !=Value.bool true)=true) from Bool.false_ne_true)]
  refine wpAny_pure ?_
  simp only[Bool.false_eq_true,if_false]
  exact wpAny_pure ⟨_,rfl,wpAny_pure (fin ie um (Heap.SameBut.refl _ _))⟩
 |false=>
  rw[if_pos (show(Value.bool false !=Value.bool true)=true from rfl)]
  refine wpAny_bind (wpAny_setField_rec um (by simp) fun b6 qj eK=>?_)
  replace eK:Heap.SameBut e ie b6:=eK
  replace qj:b6.get? e=some (fW (rawInt T) true it ((i:Int)+1) old):=qj
  refine wpAny_pure ?_
  simp only[Bool.false_eq_true,if_false]
  exact wpAny_pure ⟨_,rfl,wpAny_pure (fin b6 qj eK)⟩
theorem G0{e it:Addr}{fp:List Addr}{n:Nat}{P:Nat->Value->Prop}{Sh:Nat->Heap->Prop}{f0:Value}{f1:Bool}{i:Int}{old:Value}{Q:Option Value->Shared->Prop}
  (D:Draws PySem.Challenge.pw_lh0036_01 w A.in1 it fp n P Sh) (he:s.heap.get? e=some (fW f0 f1 it i old)) (cU:Sh n s.heap)
  (hQ:∀h',Heap.ExtBut it s.heap h'->Q none { s with heap:=h'}):wpAny (MM w) A (pyNext (.ref e)) Q E s:=by
 have hT:s.TypeIs (.ref e) "enumerate":=⟨_,he,rfl⟩
 unfold pyNext
 refine wpAny_bind (wpAny_attempt (wpAny_callSpecial?_slot (name:="__next__") hT PySem.F.slot_enumerate_next
  (wpAny_call_entry PySem.F.slot_enumerate_next hT PySem.F.entry_enumerate_next ?_ (PySem.F.args_enumerate_next_1 _))))
 show wpAny _ _ (field (.ref e) 2 >>=_) _ _ _
 refine wpAny_bind (wpAny_field he rfl (x:=.ref it) rfl ?_)
 refine wpAny_bind (D.done _ _ _ cU fun h' x KL iJ=>?_)
 obtain⟨o,ho,hc⟩:=iJ
 refine wpAny_bind (wpAny_isInstance (T:="StopIteration") (b:=true) ⟨o,ho,hc⟩ isSubtype_stop ?_)
 exact wpAny_pure (hQ _ KL)
theorem kZ{S I:Addr}{res:Value}{R:Result->Shared->Prop}(k:wpAny (MM w) A.in1 (pyNext (.ref I)) (fun r s'=>match r with
   |none=>R (.ok (.ret res)) s'
   |some v=>∃acc c,s'.heap.get? S=some { cls:=.type "list",dict:=none,data:=.seq acc c,slots:=#[]}/\acc.size<=1000/\
    codeAny (MM w) A (.builtin "list.extend.loop" ⟨[.ref S,.ref I,res],[]⟩) R { s' with heap:=s'.heap.update S (Obj.mapSeq (·.push v))}) (fun e s'=>R (.error e) s') s):
  codeAny (MM w) A (.builtin "list.extend.loop" ⟨[.ref S,.ref I,res],[]⟩) R s:=by
 refine codeAny_builtin PySem.F.entry_extend_loop ?_
 rw[Around.under_plainId PySem.F.plain_extend_loop _]
 show wpAny _ A.in1 (pyNext (.ref I) >>=_) _ _ s
 refine wpAny_bind (wpAny_mono k (fun r s' h=>?_) fun _ _ e=>e)
 cases r with
 |none=>exact wpAny_pure h
 |some v=>
  obtain⟨acc,c,hS,hz,h⟩:=h
  show wpAny _ A.in1 (updateSeq S (·.push v) >>=_) _ _ _
  refine wpAny_bind ?_
  exact wpAny_updateSeq hS rfl (wpAny_pure ⟨plainId_quiet PySem.F.plain_extend_loop _,h⟩) (by rw[sizeLine_eq];exact pq hz) (by show(acc.push v).size<=sizeLine+1;rw[Array.size_push,sizeLine_eq];exact Nat.lt_of_le_of_lt hz (Nat.le_add_left _ _))
theorem qk:typeLookup (.type "enumerate") "__len__"=pure none:=by rw[typeLookup_type,builtinLookup_eq_fast];kernel_rfl
theorem nZ:typeLookup (.type "enumerate") "__length_hint__"=pure none:=by rw[typeLookup_type,builtinLookup_eq_fast];kernel_rfl
theorem lq{e it:Addr}{i:Int}{old:Value}{Q:Value->Shared->Prop}(he:s.heap.get? e=some (fW .none false it i old))
  (k:∀h' c,h'.objs.size=s.heap.objs.size+1->h'.get? s.heap.objs.size=some { cls:=.type "list",dict:=none,data:=.seq #[] c,slots:=#[]}->(∀b o,s.heap.get? b=some o->h'.get? b=some o)->
   codeAny (MM w) A.in1 (.builtin "list.extend.loop" ⟨[.ref s.heap.objs.size,.ref e,.none],[]⟩) (wants (fun r bw=>r=.none/\Q (.ref s.heap.objs.size) bw) E) { s with heap:=h'}):
  wpAny (MM w) A (call (.type "list") [.ref e]) Q E s:=by
 refine callType_codes (Q₁:=fun obj aC=>obj=.ref s.heap.objs.size/\aC={ s with heap:=s.heap.push { cls:=.type "list",data:=.seq #[]}}) PySem.F.called_list (PySem.F.typeCall_list_1 _) PySem.F.entry_list_init
  (code_list_new _ ⟨rfl,rfl⟩) fun obj aC aq=>?_
 obtain⟨rfl,rfl⟩:=aq
 generalize DT:s.heap.objs.size=S at*
 have hS:(s.heap.push { cls:=.type "list",data:=.seq #[]}).get? S=some { cls:=.type "list",data:=.seq #[]}:=by rw[<-DT];exact Heap.get?_push_size _ rfl
 have Ll:(s.heap.push { cls:=.type "list",data:=.seq #[]}).objs.size=S+1:=by rw[Heap.size_push,DT]
 have kp:∀b o,s.heap.get? b=some o->(s.heap.push { cls:=.type "list",data:=.seq #[]}).get? b=some o:=fun b o h=>Heap.get?_push_of_some _ h
 have lt:∀b o,s.heap.get? b=some o->b≠S:=fun b o h q=>Nat.lt_irrefl S (by have:=Heap.lt_size h;rw[DT,q] at this;exact this)
 refine⟨⟨_,hS,rfl⟩,PySem.F.args_list_init_2 _ _,?_⟩
 generalize s.heap.push { cls:=.type "list",data:=.seq #[]}=Lm at*
 show wpAny _ A.in1.in1 (do let old <-Builtin.List.listItems (.ref S);Builtin.List.listUpdate (.ref S) (fun _=>#[]);letGo old.toList.reverse;Builtin.List.listExtendWith (.ref S) (.ref e) .none) _ _ _
 refine wpAny_bind ?_
 unfold Builtin.List.listItems
 refine wpAny_bind (wpAny_seqItems hS rfl (wpAny_pure ?_))
 show wpAny _ _ (updateSeq S (fun _=>#[]) >>=fun _=>letGo (#[]:Array Value).toList.reverse >>=fun _=>Builtin.List.listExtendWith (.ref S) (.ref e) .none) _ _ _
 refine wpAny_bind (wpAny_updateSeq hS rfl ?_)
 have DU:=Heap.get?_update_self (Obj.mapSeq (fun _=>(#[]:Array Value))) hS rfl
 have oth:∀b o,b≠S->Lm.get? b=some o->(Lm.update S (Obj.mapSeq (fun _=>(#[]:Array Value)))).get? b=some o:=fun b o hb e=>(Heap.get?_update_other _ _ (Ne.symm hb)).trans e
 have Ln:(Lm.update S (Obj.mapSeq (fun _=>(#[]:Array Value)))).objs.size=S+1:=(Heap.SameBut.update ..).1.trans Ll
 generalize Lm.update S (Obj.mapSeq (fun _=>(#[]:Array Value)))=yK at*
 refine wpAny_bind (wpAny_letGo ?_)
 have he2:yK.get? e=some (fW .none false it i old):=oth _ _ (lt _ _ he) (kp _ _ he)
 have hT:Shared.TypeIs ⟨yK,s.gens,s.drawn,s.toks,s.os⟩ (.ref e) "enumerate":=⟨_,he2,rfl⟩
 unfold Builtin.List.listExtendWith
 refine wpAny_bind (wpAny_typeOf hT ?_)
 have h1:Builtin.List.listSameRef (.ref S) (.ref e)=false:=by simp[Builtin.List.listSameRef,(lt _ _ he).symm]
 have h2:(Value.type "enumerate"==Value.type "list")=false:=by decide
 have h3:(Value.type "enumerate"==Value.type "tuple")=false:=by decide
 simp only[h1,h2,h3,Bool.or_false,Bool.false_eq_true,if_false]
 refine wpAny_bind (wpAny_pyIter_enum he2 ?_)
 refine wpAny_bind (wpAny_holding ?_)
 unfold Builtin.List.listLengthHint
 refine wpAny_bind (wpAny_specialOf hT qk ?_)
 show wpAny _ _ (specialOf (Value.ref e) ("__length_hint__") >>=_) _ _ _
 refine wpAny_bind (wpAny_specialOf hT nZ ?_)
 refine wpAny_pure ?_
 show wpAny _ _ (rule "list.extend.makes-room" >>=fun _=>Builtin.List.listTouch (.ref S) >>=fun _=>
  again (.builtin "list.extend.loop" ⟨[.ref S,.ref e,.none],[]⟩)) _ _ _
 refine wpAny_bind (wpAny_rule ?_)
 refine wpAny_bind ?_
 show wpAny _ _ (updateSeq S (·.push .none) >>=fun _=>updateSeq S (·.pop)) _ _ _
 refine wpAny_bind (wpAny_updateSeq DU rfl ?_)
 have DV:=Heap.get?_update_self (Obj.mapSeq (·.push Value.none)) DU rfl
 refine wpAny_updateSeq (hz:=by seq_fits) DV rfl ?_
 have Lo:=Heap.get?_update_self (Obj.mapSeq (·.pop)) DV rfl
 have aaX:∀b o,b≠S->yK.get? b=some o->((yK.update S (Obj.mapSeq (·.push Value.none))).update S (Obj.mapSeq (·.pop))).get? b=some o:=
  fun b o hb e=>(Heap.get?_update_other _ _ (Ne.symm hb)).trans ((Heap.get?_update_other _ _ (Ne.symm hb)).trans e)
 have hz4:((yK.update S (Obj.mapSeq (·.push Value.none))).update S (Obj.mapSeq (·.pop))).objs.size=S+1:=(Heap.SameBut.update ..).1.trans ((Heap.SameBut.update ..).1.trans Ln)
 refine wpAny_pure ⟨plainId_quiet PySem.F.plain_extend_loop _,?_⟩
 have key:=k _ _ hz4 Lo fun b o h=>aaX _ _ (lt _ _ h) (oth _ _ (lt _ _ h) (kp _ _ h))
 exact codeAny_mono key fun r bw hr=>hr
end
section
variable{w:World}{A:Around}{agj:Heap}{L:Addr}{m:Str->Option Value}{nw led:Led}{d:Nat}{E:Value->Shared->Prop}{h:Heap}{gn:Array GenState}{dr:Drawn}{tk:Nat}{os:OsState}
theorem BR{e it t:Addr}{oi:Obj}{x0 x1:Value}{n:Nat}{g:Led->Led}{Q:Value->Shared->Prop}(Z:St agj L nw d h m led)(U:cj led->fO [e,it] [(e,aS .none it 0 .none),(it,oi)] led g)(hi:bg oi t 0)(hm:(t,aj [x0,x1] n)∈led)(hh:A.handled=none)
  (k:∀S T0 T1 n u0 u1 h' aN,St agj L nw d h' m ((T1,aj [.int 1 u1,x1] 0)::(T0,aj [.int 0 u0,x0] 0)::(S,ay [.ref T0,.ref T1] n)::g [])->Ge d S->Q (.ref S) ⟨h',gn,dr,aN,os⟩):
  wpAny (MM w) A (call (.type "list") [.ref e]) Q E ⟨h,gn,dr,tk,os⟩:=by
 obtain⟨o7,h7,N⟩:=Z.NT
 have V:=U Z.S
 have V7:=Z.B7 (o7:=o7) V
 have F:=Z.F
 have he:=cF V7.2 _ (.head _)
 have hI:=cF V7.2 _ (.tail _ (.head _))
 have hmm:(t,aj [x0,x1] n)∈led++[((277:Nat),o7)]:=aA hm
 have a1:e≠it:=eO N he hI (by rw[hi.1];show Value.type "enumerate"≠Value.type "tuple_iterator";decide)
 have a2:t≠it:=eO N hmm hI (by rw[hi.1];show Value.type "tuple"≠Value.type "tuple_iterator";decide)
 have a4:e≠t:=eO N he hmm (show Value.type "enumerate"≠Value.type "tuple" by decide)
 have a3:e∉[it,t]:=by simp only[List.mem_cons,List.not_mem_nil,or_false,not_or];exact⟨a1,a4⟩
 have le:=Heap.lt_size (N _ he).1
 have li:=Heap.lt_size (N _ hI).1
 have lt:=Heap.lt_size (N _ hmm).1
 have Gs:=F.ns.lt
 have hD:∀A':Around,A'.handled=none->Draws PySem.Challenge.pw_lh0036_01 w A' it [it,t] 2 (fun i v=>(#[x0,x1]:Array Value)[i]?=some v) (fun i h=>h.IsTupleIter it t i/\h.IsTuple t #[x0,x1]):=fun A' hA=>gX hA it t a2 #[x0,x1]
 have D:=hD A.in1.in1.in1 hh
 refine lq (s:=⟨h,gn,dr,tk,os⟩) (N _ he).1 fun h1 c1 Ll G1 Lp=>?_
 dsimp only at Ll G1 Lp⊢
 generalize hS:h.objs.size=S at*
 have eS:e≠S:=Nat.ne_of_lt le
 have iS:it≠S:=Nat.ne_of_lt li
 have tS:t≠S:=Nat.ne_of_lt lt
 have aaY:h1.IsTupleIter it t 0/\h1.IsTuple t #[x0,x1]:=⟨⟨oi,Lp _ _ (N _ hI).1,hi.1,hi.2⟩,(let⟨o,ho,r⟩:=N.isTup hmm;⟨o,Lp _ _ ho,r⟩)⟩
 refine kZ (s:=⟨h1,gn,dr,tk,os⟩) (wpAny_pyNext_enum_itemD (s:=⟨h1,gn,dr,tk,os⟩) D (Lp _ _ (N _ he).1) aaY (by decide) a1 a3 fun x h2 uo hP ho cB hT Ln ja=>?_)
 have hx:x=x0:=by simpa using hP.symm
 subst hx
 dsimp only at hT Ln ja⊢
 rw[Ll] at hT Ln⊢
 have hS2:=ja S _ eS.symm iS.symm G1
 refine⟨#[],c1,hS2,by simp,?_⟩
 have hS3:=Heap.get?_update_self (Obj.mapSeq (·.push (Value.ref (S+1)))) hS2 rfl
 have BS:∀b o,b≠S->h2.get? b=some o->(h2.update S (Obj.mapSeq (·.push (Value.ref (S+1))))).get? b=some o:=fun b o hb e=>(Heap.get?_update_other _ _ (Ne.symm hb)).trans e
 have hz3:(h2.update S (Obj.mapSeq (·.push (Value.ref (S+1))))).objs.size=S+1+1:=(Heap.SameBut.update ..).1.trans Ln
 generalize h2.update S (Obj.mapSeq (·.push (Value.ref (S+1))))=h3 at*
 have TS:S+1≠S:=Nat.succ_ne_self S
 have hT3:=BS _ _ TS hT
 have he3:h3.get? e=some (fW (rawInt (S+1:Nat)) false it ((1:Nat):Int) x):=by
  have z:=BS _ _ eS ho
  dsimp only at z
  rw[Ll] at z
  exact z
 have aaZ:h3.IsTupleIter it t 1/\h3.IsTuple t #[x,x1]:=D.frame _ _ _ cB fun b hb o y=>BS b o (by simp only[List.mem_cons,List.not_mem_nil,or_false] at hb;rcases hb with rfl|rfl;exact iS;exact tS) y
 have Te:S+1≠e:=Nat.ne_of_gt (Nat.lt_trans le (Nat.lt_succ_self S))
 have Ti:S+1≠it:=Nat.ne_of_gt (Nat.lt_trans li (Nat.lt_succ_self S))
 refine kZ (s:=⟨h3,gn,dr,uo+1,os⟩) (BP (s:=⟨h3,gn,dr,uo+1,os⟩) (T:=S+1) (f1:=false) D he3 hT3 Te Ti aaZ (by decide) a1 a3 fun x' h4 Lq Gg he4 G2 hT4 hz4 hk4=>?_)
 have hx:x'=x1:=by simpa using Gg.symm
 subst hx
 dsimp only at hT4 hz4 hk4⊢
 rw[hz3] at hT4 hz4⊢
 have hS4:=hk4 S _ eS.symm iS.symm hS3
 refine⟨_,_,hS4,by simp,?_⟩
 have hS5:=Heap.get?_update_self (Obj.mapSeq (·.push (Value.ref (S+1+1)))) hS4 rfl
 have yL:∀b o,b≠S->h4.get? b=some o->(h4.update S (Obj.mapSeq (·.push (Value.ref (S+1+1))))).get? b=some o:=fun b o hb e=>(Heap.get?_update_other _ _ (Ne.symm hb)).trans e
 generalize h4.update S (Obj.mapSeq (·.push (Value.ref (S+1+1))))=h5 at*
 have TS2:S+1+1≠S:=Nat.ne_of_gt (Nat.lt_trans (Nat.lt_succ_self S) (Nat.lt_succ_self _))
 have he5:=yL _ _ eS he4
 have aa0:h5.IsTupleIter it t 2/\h5.IsTuple t #[x,x']:=D.frame _ _ _ G2 fun b hb o y=>yL b o (by simp only[List.mem_cons,List.not_mem_nil,or_false] at hb;rcases hb with rfl|rfl;exact iS;exact tS) y
 refine kZ (s:=⟨h5,gn,dr,Lq+1,os⟩) (G0 (s:=⟨h5,gn,dr,Lq+1,os⟩) D he5 aa0 fun h6 jg=>?_)
 refine⟨rfl,?_⟩
 have Ti2:S+1+1≠it:=Nat.ne_of_gt (Nat.lt_trans li (Nat.lt_trans (Nat.lt_succ_self S) (Nat.lt_succ_self _)))
 have Te2:S+1+1≠e:=Nat.ne_of_gt (Nat.lt_trans le (Nat.lt_trans (Nat.lt_succ_self S) (Nat.lt_succ_self _)))
 have keep:∀b o,b∉[e,it]->h.get? b=some o->h6.get? b=some o:=fun b o hb q=>by
  simp only[List.mem_cons,List.not_mem_nil,or_false,not_or] at hb
  have hbS:b≠S:=fun z=>Nat.lt_irrefl S (by have:=Heap.lt_size q;rw[hS,z] at this;exact this)
  exact jg _ _ hb.2 (yL _ _ hbS (hk4 _ _ hb.1 hb.2 (BS _ _ hbS (ja _ _ hb.1 hb.2 (Lp _ _ q)))))
 obtain⟨c5,q1⟩:∃c5,h6.get? S=some (ay [.ref (S+1),.ref (S+1+1)] c5):=⟨_,jg _ _ iS.symm hS5⟩
 have q2:h6.get? (S+1)=some (aj [.int 0 uo,x] 0):=jg _ _ Ti (yL _ _ TS (hk4 _ _ Te Ti hT3))
 have q3:h6.get? (S+1+1)=some (aj [.int 1 Lq,x'] 0):=jg _ _ Ti2 (yL _ _ TS2 hT4)
 have F':Fr agj L h6 m:=fN F N (fun d hd=>by
  simp only[List.mem_cons,List.not_mem_nil,or_false] at hd
  rcases hd with rfl|rfl
  ·exact⟨_,he⟩
  ·exact⟨_,hI⟩) keep
 have N':=j0 (jk:=[]) N V7.2 keep (fun p hp=>nomatch hp)
 have fresh:∀b,S<=b->agj.get? b=none:=fun b hb=>by
  cases q:agj.get? b with
  |none=>rfl
  |some _=>exact absurd (Nat.lt_of_lt_of_le (by have:=Heap.lt_size (F.keep _ _ q);rw[hS] at this;exact this) hb) (Nat.lt_irrefl _)
 have Jw:∀p∈g []++[((277:Nat),o7)],@LT.lt Nat _ p.1 S:=fun p hp=>by
  have:p∈led++[((277:Nat),o7)]:=by
   rcases List.mem_append.mp hp with hp|hp
   ·obtain⟨_,pre,post,e1,hg,_,_⟩:=V
    rw[hg] at hp
    rw[e1]
    rcases List.mem_append.mp hp with hp|hp
    ·rcases List.mem_append.mp hp with hp|hp
     ·exact aA (List.mem_append_left _ (List.mem_append_left _ hp))
     ·cases hp
    ·exact aA (List.mem_append_right _ hp)
   ·exact List.mem_append_right _ hp
  have:=Heap.lt_size (N _ this).1
  rw[hS] at this
  exact this
 have Z1:St agj L nw d h6 m (g []):=Z.tY h7 V F' N'
 have N2:News agj L h6 ((S,ay [.ref (S+1),.ref (S+1+1)] c5)::(g []++[((277:Nat),o7)])):=fun p hp=>by
  rcases List.mem_cons.mp hp with rfl|hp
  ·exact⟨q1,Nat.ne_of_gt Gs,fresh _ (Nat.le_refl _)⟩
  ·exact N' p hp
 have Z2:=Z1.push h7 F' N2 Jw Gs
 have L2:@LT.lt Nat _ L (S+1):=Nat.lt_succ_of_lt Gs
 have N3:News agj L h6 ((S+1,aj [.int 0 uo,x] 0)::(S,ay [.ref (S+1),.ref (S+1+1)] c5)::(g []++[((277:Nat),o7)])):=fun p hp=>by
  rcases List.mem_cons.mp hp with rfl|hp
  ·exact⟨q2,Nat.ne_of_gt L2,fresh _ (Nat.le_succ _)⟩
  ·exact N2 p hp
 have A4:∀p∈((S,ay [.ref (S+1),.ref (S+1+1)] c5)::g [])++[((277:Nat),o7)],@LT.lt Nat _ p.1 (S+1):=fun p hp=>by
  rcases List.mem_cons.mp hp with rfl|hp
  ·exact Nat.lt_succ_self _
  ·exact Nat.lt_succ_of_lt (Jw p hp)
 have Z3:=Z2.push h7 F' N3 A4 L2
 have L3:@LT.lt Nat _ L (S+1+1):=Nat.lt_succ_of_lt L2
 have N4:News agj L h6 ((S+1+1,aj [.int 1 Lq,x'] 0)::(S+1,aj [.int 0 uo,x] 0)::(S,ay [.ref (S+1),.ref (S+1+1)] c5)::(g []++[((277:Nat),o7)])):=fun p hp=>by
  rcases List.mem_cons.mp hp with rfl|hp
  ·exact⟨q3,Nat.ne_of_gt L3,fresh _ (Nat.le_trans (Nat.le_succ _) (Nat.le_succ _))⟩
  ·exact N3 p hp
 have Gh:∀p∈((S+1,aj [.int 0 uo,x] 0)::(S,ay [.ref (S+1),.ref (S+1+1)] c5)::g [])++[((277:Nat),o7)],@LT.lt Nat _ p.1 (S+1+1):=fun p hp=>by
  rcases List.mem_cons.mp hp with rfl|hp
  ·exact Nat.lt_succ_self _
  ·exact Nat.lt_succ_of_lt (A4 p hp)
 exact k S (S+1) (S+1+1) c5 uo Lq h6 _ (Z3.push h7 F' N4 Gh L3) (Z.ge Gs)
end
section
variable{w:World}{A:Around}{agj:Heap}{L:Addr}{m:Str->Option Value}{nw led:Led}{d:Nat}{E:Value->Shared->Prop}{h:Heap}{gn:Array GenState}{dr:Drawn}{tk:Nat}{os:OsState}{env:Env}{s:Shared}
theorem G3{o i value:Expr}{wA pos:Pos}{op:Operator}{Q:Flow->Shared->Prop}
  (h:wpAny (MM w) A (eval o env) (fun ov aC=>wpAny (MM w) A (eval i env) (fun iv bw=>wpAny (MM w) A (getItem ov iv) (fun old dJ=>
     wpAny (MM w) A (eval value env) (fun v pR=>wpAny (MM w) A (inplaceOp op old v) (fun new G4=>
      wpAny (MM w) A (setItem ov iv new) (fun _=>Q .next) E G4) E pR) E dJ) E bw) E aC) E s)
  (hi:∀ov iv new,augStore i ov iv new=(do holding [new,ov,iv] (setItem ov iv new);release [new,ov,iv] [];pure .next)):
  wpAny (MM w) A (exec (.AugAssign (.Subscript o i wA) op value pos) env) Q E s:=wpAny_AugAssign_SubscriptAny h hi
theorem G5{t:Addr}{vs:List Value}{i:Int}{u:Tok}{n:Nat}{x:Value}{Q:Value->Shared->Prop}(N:News agj L h led)(hm:(t,ay vs n)∈led)(h0:0<=i)(wz:i<2 ^ 63)(hx:vs[i.toNat]?=some x)(k:Q x ⟨h,gn,dr,tk,os⟩):
  wpAny (MM w) A (getItem (.ref t) (.int i u)) Q E ⟨h,gn,dr,tk,os⟩:=wpAny_getItem_list (s:=⟨h,gn,dr,tk,os⟩) (N.isList hm) h0 wz (by simpa using hx) k
theorem n5:fillsInplaceSlot (.type "list") "add" (Operator.Add==.Add)=pure false:=by
 unfold fillsInplaceSlot
 show(typeLookup (.type "list") (dunderI "add") >>=fun fi=>pure (fi.isSome&& !isSeqSlot fi))=pure false
 rw[PySem.F.slot_list_iadd.lookup]
 show(pure ((some (Value.builtin "list.__iadd__")).isSome&& !isSeqSlot (some (.builtin "list.__iadd__"))):Sem Bool)=pure false
 rw[show isSeqSlot (some (Value.builtin "list.__iadd__"))=true from by decide +kernel]
 rfl
theorem wK:seqSlot? (.type "list") (dunderI "add")=pure (some (.builtin "list.__iadd__")):=PySem.seqSlot_of PySem.F.slot_list_iadd.lookup (by decide +kernel)
theorem BU{t b:Addr}{vs ws:List Value}{n n2:Nat}{g:Obj->Led}{Q:Value->Shared->Prop}(Z:St agj L nw d h m led)(U:cj led->UpdF t (ay vs n) led g)(hc:Ge d t)(hb:(b,ay ws n2)∈led)(hz:vs.length+ws.length<=1000)
  (k:∀h' n',St agj L nw d h' m (g (ay (vs++ws) n'))->Q (.ref t) ⟨h',gn,dr,tk,os⟩):wpAny (MM w) A (inplaceOp .Add (.ref t) (.ref b)) Q E ⟨h,gn,dr,tk,os⟩:=by
 obtain⟨o7,h7,N⟩:=Z.NT
 have V:=U Z.S
 have hm:=(bf V (o':=ay vs n)).1
 have z1:=(N _ (aA hm)).1
 have z2:=(N _ (aA hb)).1
 have ha:Shared.TypeIs ⟨h,gn,dr,tk,os⟩ (.ref t) "list":=⟨_,z1,rfl⟩
 have yC:Shared.TypeIs ⟨h,gn,dr,tk,os⟩ (.ref b) "list":=⟨_,z2,rfl⟩
 unfold inplaceOp
 refine wpAny_holding ?_
 refine wpAny_bind (wpAny_typeOf ha (wpAny_bind (wpAny_of_eq n5 ?_)))
 show wpAny (MM w) A (if false=true then _ else _) Q E _
 rw[if_neg Bool.false_ne_true]
 refine wpAny_bind (wpAny_binaryOp1_none (nm:="add") ha yC PySem.noFill_list_add ?_)
 refine wpAny_bind (wpAny_of_eq wK ?_)
 refine wpAny_bind (wpAny_rule ?_)
 have e:∃n',Obj.mapSeq (fun x=>x++ws.toArray) (ay vs n)=ay (vs++ws) n':=⟨_,by unfold Obj.mapSeq ay;simp;rfl⟩
 obtain⟨n',e⟩:=e
 have key:Q (.ref t) ⟨h.update t (Obj.mapSeq fun x=>x++ws.toArray),gn,dr,tk,os⟩:=by
  refine k _ n' (Z.upd h7 V hc (cD Z.F N (aA hm) fun b o hb e=>((Heap.SameBut.update ..).2 b hb).trans e) (cW N (Z.U7 V) (fun b o hb e=>((Heap.SameBut.update ..).2 b hb).trans e) (by rw[Heap.get?_update_self _ z1 (by rw[e];rfl),e])))
 exact call_meets PySem.F.slot_list_iadd ha PySem.F.entry_list_iadd (PySem.F.args_list_iadd_2 _ _) (AutoSeq1.list___iadd___list_list_0 t vs.toArray n b ws.toArray n2 (by simp[Builtin.List.listTooLong,sizeLine_eq];exact aaT hz) (by rw[sizeLine_eq];simp;exact Nat.le_trans (Nat.le_trans (Nat.le_add_right _ _) hz) (by decide)) (by rw[sizeLine_eq];simp;exact Nat.le_trans hz (Nat.le_add_left _ _))) ⟨z1,z2,key⟩
noncomputable abbrev BV(a b c:Value):Obj:={ cls:=.type "slice",data:=.fields #[a,b,c]}
def KSl(lv uv:Value)(Q:Value->Shared->Prop):Value->Shared->Prop:=fun st s=>Q (.ref s.heap.objs.size) { s with heap:=s.heap.push (BV lv uv st)}
theorem BW{lower upper step:Option Expr}{p:Pos}{Q:Value->Shared->Prop}
  (k:wpAny (MM w) A (evalPart lower env) (fun l aC=>wpAny (MM w) A (evalPart upper env) (fun u bw=>wpAny (MM w) A (evalPart step env) (KSl l u Q) E bw) E aC) E s):
  wpAny (MM w) A (eval (.Slice lower upper step p) env) Q E s:=wpAny_Slice k
theorem BX{Q:Value->Shared->Prop}(k:Q .none s):wpAny (MM w) A (evalPart none env) Q E s:=by rw[evalPart_none];exact wpAny_pure k
theorem BY{e:Expr}{Q:Value->Shared->Prop}(k:wpAny (MM w) A (eval e env) Q E s):wpAny (MM w) A (evalPart (some e) env) Q E s:=by rw[evalPart_some];exact k
theorem Lr{a b c:Value}{Q:Value->Shared->Prop}(Z:St agj L nw d h m led)(k:∀x h',St agj L nw d h' m ((x,BV a b c)::led)->Ge d x->Q (.ref x) ⟨h',gn,dr,tk,os⟩):KSl a b Q c ⟨h,gn,dr,tk,os⟩:=
 Z.elim fun o7 h7 N7=>k h.objs.size _ (Z.push h7 (Z.F.push _) (N7.push Z.F _) (fun p hp=>Heap.lt_size (N7 p hp).1) Z.F.ns.lt) (Z.ge Z.F.ns.lt)
theorem G6{value slice:Expr}{l sl:Addr}{vs ws:List Value}{n:Nat}{vl vu vk:Value}{lo hi st:Option Int}{ops:List Value}{Q:Value->Shared->Prop}(Z:St agj L nw d h m led)(hm:(l,ay vs n)∈led)(hs:(sl,BV vl vu vk)∈led)
  (pl:IsPart vl lo) (pu:IsPart vu hi) (pk:IsPart vk st) (h0:st≠some 0) (hz:vs.length<=1000) (hp:slicePick vs.toArray lo hi st=ws.toArray)
  (hsu:subscripted slice false (.ref l) (.ref sl)=operate ops (getItem (.ref l) (.ref sl))) (ht:∀r,letTemporaryGo value (.ref l) r=pure ())
  (k:∀x h',St agj L nw d h' m ((x,ay ws 0)::led)->Ge d x->Q (.ref x) ⟨h',gn,dr,tk,os⟩):wpAny (MM w) A (subscriptTail value slice (.ref l) (.ref sl)) Q E ⟨h,gn,dr,tk,os⟩:=by
 refine Z.elim fun o7 h7 N7=>?_
 refine subscriptTail_ops (s:=⟨h,gn,dr,tk,os⟩) (Heap.IsList.typeIs (N7.isList (aA hm))) list_getitem_lookup
  (wpAny_getItem_list_slice (s:=⟨h,gn,dr,tk,os⟩) (N7.isList (aA hm)) ⟨_,(N7 _ (aA hs)).1,rfl,rfl⟩ pl pu pk h0 ?_ (by rw[sizeLine_eq];simp;exact pq hz)) hsu ht
 rw[hp]
 exact k _ _ (Z.push h7 (Z.F.push _) (N7.push Z.F _) (fun p hp=>Heap.lt_size (N7 p hp).1) Z.F.ns.lt) (Z.ge Z.F.ns.lt)
theorem Ls{t:Addr}{vs:List Value}{n:Nat}{pl:Sem Bool}{Q:Value×List Value->Shared->Prop}(N:News agj L h led)(hm:(t,ay vs n)∈led)(k:Q (.builtin "list.pop",[.ref t]) ⟨h,gn,dr,tk,os⟩):
  wpAny (MM w) A (getMethod (.ref t) ("pop") pl) Q E ⟨h,gn,dr,tk,os⟩:=yq N hm PySem.F.slot_list_pop PySem.F.type_list_pop k
theorem Lu{t:Addr}{vs:List Value}{n:Nat}{pl:Sem Bool}{Q:Value×List Value->Shared->Prop}(N:News agj L h led)(hm:(t,ay vs n)∈led)(k:Q (.builtin "list.append",[.ref t]) ⟨h,gn,dr,tk,os⟩):
  wpAny (MM w) A (getMethod (.ref t) ("append") pl) Q E ⟨h,gn,dr,tk,os⟩:=yq N hm PySem.F.slot_list_append PySem.F.type_list_append k
end
theorem aa1:∀{a0 a1:Nat},a0/2=a1->a0%2=0->a1+a1=a0:=@fun a0 a1 h1 h2=>by rw[<-Nat.two_mul,<-h1];exact(h2▸Nat.div_add_mod a0 2:2*(a0/2)+0=a0)
theorem aa2:∀{a0 a1:Nat},a0/2=a1->a0%2=1->Nat.succ (a1+a1)=a0:=@fun a0 a1 h1 h2=>by rw[<-Nat.two_mul,<-h1];exact(h2▸Nat.div_add_mod a0 2:2*(a0/2)+1=a0)
theorem aa3:∀{a0:Int},1<a0->¬Int.natAbs a0=1:=fun h1=>fun k=>absurd h1 (by rw[<-Int.natAbs_of_nonneg (Int.le_of_lt (Int.lt_trans (by decide) h1)),k];decide)
theorem aa4:∀{a0:Int} {a1:Nat},1<a0->a0<0->a1=0:=fun h1 h2=>(absurd h1 (Int.not_le.mpr (Int.le_trans h2 (Int.natCast_nonneg _))))
theorem BZ:builtinKind "pow"=none:=by decide +kernel
theorem yM:plainId "pow"=true:=by decide +kernel
theorem yN:entryFor table "pow"=some Builtin.«pow»:=entryFor_of_fast (by kernel_rfl)
theorem B0(a b c:Value):argsOk "pow" ⟨[a,b,c],[]⟩:=by unfold argsOk;kernel_rfl
noncomputable def jC(b e m:Nat)(p i:Nat):Nat:=if e.testBit i then p*p%m*b%m else p*p%m
theorem B3{b e m k p:Nat}(h:p=b ^ (e/2 ^ (k+1))%m):jC b e m p k=b ^ (e/2 ^ k)%m:=by
 have e1:e/2 ^ (k+1)=e/2 ^ k/2:=by rw[Nat.pow_succ,Nat.div_div_eq_div_mul]
 have hb:e.testBit k=decide (e/2 ^ k%2=1):=by
  rw[Nat.testBit_eq_decide_div_mod_eq]
 unfold jC
 rw[hb,h,e1]
 generalize e/2 ^ k=x
 have hx:=Nat.div_add_mod x 2
 generalize hy:x/2=y at*
 rcases Nat.mod_two_eq_zero_or_one x with hm|hm
 ·rw[if_neg (by simp[hm]),<-Nat.mul_mod,<-Nat.pow_add,show y+y=x from by exact aa1 hy hm]
 ·rw[if_pos (by simp[hm]),<-Nat.mul_mod,<-Nat.pow_add,Nat.mod_mul_mod,<-Nat.pow_succ,show(y+y).succ=x from by exact aa2 hy hm]
theorem B4{b e m:Nat}:∀(k p:Nat),p=b ^ (e/2 ^ k)%m->(List.range k).reverse.foldl (jC b e m) p=b ^ e%m:=by
 intro k
 induction k with
 |zero=>intro p h;simpa using h
 |succ k ih=>
  intro p h
  rw[List.range_succ,List.reverse_append]
  show((List.range k).reverse).foldl (jC b e m) (jC b e m p k)=_
  exact ih _ (B3 h)
theorem jD{b e m:Nat}:Builtin.powMod b e m=b ^ e%m:=by
 have:Builtin.powMod b e m=(List.range (Builtin.Int.intBits (e:Int))).reverse.foldl (jC b e m) (1%m):=rfl
 rw[this]
 refine B4 _ _ ?_
 have hz:e/2 ^ Builtin.Int.intBits (e:Int)=0:=by
  apply Nat.div_eq_of_lt
  unfold Builtin.Int.intBits
  split
  ·rename_i h;simp at h;subst h;decide
  ·rename_i h
   have h0:e≠0:=by intro q;apply h;simp[q]
   show e<2 ^ (Nat.log2 e+1)
   exact(Nat.log2_lt h0).mp (Nat.lt_succ_self _)
 rw[hz,Nat.pow_zero]
noncomputable def ef(a b c:Int):Int:=(a%c) ^ b.toNat%c
theorem G7{a b c:Int}(hb:¬b<0)(hc:1<c):((Builtin.powMod (a%(c.natAbs:Int)).toNat b.natAbs c.natAbs:Nat):Int)=ef a b c:=by
 have hn:(c.natAbs:Int)=c:=Int.natAbs_of_nonneg (A3 hc)
 rw[jD,Int.natCast_emod,Int.natCast_pow,hn,Int.toNat_of_nonneg (Int.emod_nonneg _ (JW hc))]
 unfold ef
 congr 2
 exact Int.ofNat_inj.mp ((Int.natAbs_of_nonneg (Int.not_lt.mp hb)).trans (Int.toNat_of_nonneg (Int.not_lt.mp hb)).symm)
theorem rS(a:Int)(t:Tok)(b:Int)(u:Tok)(c:Int)(v:Tok)(hb:¬b<0)(hc:1<c):
  Gives (Builtin.«int.__pow__» ⟨[.int a t,.int b u,.int c v],[]⟩) (.int (ef a b c)):=
 .of_wp fun M A E s Q h=>by
  have h0:¬(c==0)=true:=by simp;exact Int.ne_of_gt (Int.le_of_lt hc)
  have h1:¬(c.natAbs==1)=true:=by simp;exact aa3 hc
  obtain⟨hp,g,d,tk,os⟩:=s
  wp_walk
  refine⟨_,rfl,?_⟩
  rw[if_neg (by simp;exact aa4 hc),G7 hb hc]
  exact h
section
variable{w:World}{A:Around}{E:Value->Shared->Prop}{h:Heap}{gn:Array GenState}{dr:Drawn}{tk:Nat}{os:OsState}
theorem G8{a b c:Int}{t u v:Tok}{Q:Value->Shared->Prop}(hb:¬b<0)(hc:1<c)(k:Q (.int (ef a b c) tk) ⟨h,gn,dr,tk+1,os⟩):
  wpAny (MM w) A (call (.builtin "pow") [.int a t,.int b u,.int c v]) Q E ⟨h,gn,dr,tk,os⟩:=by
 refine call_function_entry BZ yM yN (B0 _ _ _) ?_
 have hT:(⟨h,gn,dr,tk,os⟩:Shared).TypeIs (.int a t) "int":=rfl
 have f3:=F.slot_int_pow.lookup
 have f5:typeLookup (.type "int") ("__pow__")=pure (some (.builtin "int.__pow__")):=f3
 have f4:=F.slot_int_pow.bind (.int a t)
 repeat (any_goals (first|assumption|((with_reducible show wpAny _ _ (call (Value.builtin "int.__pow__") _ _) _ _ _);refine call_gives F.slot_int_pow hT F.entry_int_pow (F.args_int_pow_3 _ _ _) (rS a t b u c v hb hc) ?_;dsimp only[Made.post])|wp_step))
 all_goals exact⟨_,rfl,k⟩
end
noncomputable abbrev jb(l:List Env):List Addr:=l.filterMap (·.frame)
def j7(A₀:Around)(base:Heap)(outer:List Env)(fs:List Addr)(agj:Heap)(L:Addr)(m:Str->Option Value)(g:Heap)(R:Result->Shared->Prop)(v:Value)(s':Shared):Prop:=
 ∃g' L' m' bK,KtsTurn fs g g'/\Fr g' L' s'.heap m'/\News g' L' s'.heap bK/\∀di,KtsTurn (jb outer) agj di->Fr di L s'.heap m->News di L s'.heap bK->Below A₀ base outer di->KtsDicts (jb outer) di->R (.ok (.ret v)) s'
theorem uu{env:Env}{outer:List Env}{L b:Addr}(hf:env.frame=some L)(hm:b∈jb (env::outer)):b=L\/b∈jb outer:=by
 obtain⟨e,he,h⟩:=List.mem_filterMap.mp hm
 rcases List.mem_cons.mp he with rfl|he
 ·exact .inl (Option.some.inj (hf.symm.trans h)).symm
 ·exact .inr (List.mem_filterMap.mpr ⟨e,he,h⟩)
section
variable{prog:Program}{w:World}{A₀ A:Around}{s:Shared}{base agj:Heap}{outer:List Env}{L:Addr}{m:Str->Option Value}{env:Env}{news:Led}
 {R:Result->Shared->Prop} {name qual:Str} {params:Arguments} {body:List Stmt} {scope:Scope} {dV kV doc pm bu ct:Value} {an:Option Addr} {fo:Obj} {f:Addr} {args:Args} {binds:List (Str×Value)}
theorem uw(B:Below A₀ base outer agj)(F:Fr agj L s.heap m)(N:News agj L s.heap news)(hA:A.frames=some (env::outer))(hf:env.frame=some L)(Lv:env.scope.kind=.function)(D:KtsDicts (jb outer) agj):
  Fr agj L (hideAll s.heap (news.map (·.1))) m/\Below A base (env::outer) (hideAll s.heap (news.map (·.1)))/\agj.StaysIn (hideAll s.heap (news.map (·.1)))/\KtsDicts (jb (env::outer)) (hideAll s.heap (news.map (·.1)))/\
   ∀v s',j7 A₀ base outer (jb (env::outer)) agj L m (hideAll s.heap (news.map (·.1))) R v s'->R (.ok (.ret v)) s':=by
 obtain⟨FG,BG,st,_⟩:=groundX (R:=R) B F N hA hf Lv
 refine⟨FG,BG,st,fun b hb=>?_,fun v s' hl=>?_⟩
 ·rcases uu hf hb with rfl|hb
  ·obtain⟨oL,es,ep,hL,hd,_⟩:=FG.ns
   exact⟨oL,es,ep,hL,hd⟩
  ·obtain⟨o,es,n,ho,hd⟩:=D b hb
   exact⟨o,es,n,st b o ho,hd⟩
 ·obtain⟨oL,es,ep,hLg,hLd,hLk,hLf⟩:=FG.ns
  have Lw:agj.get? L=none:=kts_self F
  obtain⟨g',L',m',bK,T',F',N',k⟩:=hl
  obtain⟨sl,hs⟩:=T'.up hLg
  obtain⟨wL,aa5⟩:=kts_turn_at (h:=s'.heap) (fs:=jb outer) (g:=agj)
   (fun b hb=>by
    obtain⟨_,o,wC,_⟩:=B.frames.mem hb
    exact⟨o,wC⟩)
   (fun b o e aa6=>F'.keep b o (T'.other b o (st b o e) (fun q=>by
    rcases uu hf q with z|z
    ·rw[z,Lw] at e
     cases e
    ·exact aa6 z)))
   (fun b o e hm=>by
    obtain⟨sl',cM⟩:=T'.up (st b o e)
    exact⟨sl',F'.keep _ _ cM⟩)
  have aa7:Below A₀ base outer (ktsHeap s'.heap (jb outer) agj):=⟨B.stack,fun b o e=>wL.other b o (B.stays b o e) (fun hm=>by
   rw[(B.frames.mem hm).1] at e
   cases e),B.frames.of_keeps fun b o e _=>by
   obtain⟨sl',cM⟩:=wL.up e
   exact⟨_,cM,rfl⟩⟩
  refine k _ wL ⟨⟨_,es,ep,F'.keep _ _ hs,hLd,hLk,hLf⟩,aa5,by rw[wL.size];exact F.above⟩ (fun p hp=>⟨(N' p hp).1,fun q=>?_,?_⟩) aa7 (D.turn wL)
  ·have:=(N' p hp).2.2;rw[q,hs] at this;cases this
  ·refine wL.none_ _ ?_
   cases q:agj.get? p.1 with
   |none=>rfl
   |some o=>
    obtain⟨sl',cM⟩:=T'.up (st _ _ q)
    have:=(N' p hp).2.2
    rw[cM] at this
    cases this
theorem DW(B:Below A₀ base outer agj)(F:Fr agj L s.heap m)(N:News agj L s.heap news)(G9:agj.NoLimit)(hA:A.frames=some (env::outer))(hf:env.frame=some L)(Lv:env.scope.kind=.function)(D:KtsDicts (jb outer) agj)
  (ho:s.heap.get? f=some fo) (hd:fo.data=.func (fnX name qual params body scope [] dV kV doc pm an bu ct)) (hcd:s.heap.CodeRec bu qual) (cg:A.depth<recursionLimit)
  (dG:BindsTo s (fnX name qual params body scope [] dV kV doc pm an bu ct) args binds) (nS:∀y∈binds,scope.names.lookup y.1=some .local)
  (h:∀g L' aq,Fr agj L g m->Fr g L' aq (fun y=>binds.reverse.lookup y)->News g L' aq news->Below A base (env::outer) g->agj.StaysIn g->(∀p∈news,p.1<L')->KtsDicts (jb (env::outer)) g->
   wpAny (model prog w) (A.deeper (envX qual scope L' f bu [])) (execs body (envX qual scope L' f bu []))
    (fun fl s'=>j7 A₀ base outer (jb (env::outer)) agj L m g R (match fl with| .ret v=>v|_=>.none) s')
    (fun e s'=>wpAny (model prog w) (A.deeper (envX qual scope L' f bu [])) (leaving (envX qual scope L' f bu []) e) (fun _ ri=>R (.error e) ri) (fun e' ri=>R (.error e') ri) s')
    { s with heap:=aq,toks:=s.toks+binds.length})
  (cL:∀x∈scope.names,x.2≠.cell) (jy:scope.isCoroutine=false) (fy:scope.isGenerator=false) (hk:scope.kind=.function):codeAny (model prog w) A (.call (.ref f) args) R s:=by
 obtain⟨FG,BG,st,DG,lv⟩:=uw (R:=R) B F N hA hf Lv D
 refine codeAny_call_def (fd:=fnX name qual params body scope [] dV kV doc pm an bu ct) (body:=body) (binds:=binds) cg ho hd (G9.keeps F.keep) hcd rfl dG cL nS (fun aq pQ qn=>?_) jy fy hk
 exact wpAny_mono (h _ s.heap.objs.size aq FG ⟨pQ,fun b o e=>qn b o (of_hideAll _ e),Nat.le_of_eq (hideAll_size _ _)⟩
  (fun p hp=>⟨qn _ _ (N p hp).1,Nat.ne_of_lt (Heap.lt_size (N p hp).1),hideAll_none _ (List.mem_map_of_mem hp)⟩) BG st (fun p hp=>Heap.lt_size (N p hp).1) DG) (fun fl s' hl=>lv _ _ hl) fun _ _ y=>y
theorem qo(B:Below A₀ base outer agj)(F:Fr agj L s.heap m)(N:News agj L s.heap news)(G9:agj.NoLimit)(hA:A.frames=some (env::outer))(hf:env.frame=some L)(Lv:env.scope.kind=.function)(D:KtsDicts (jb outer) agj)
  (ho:s.heap.get? f=some fo) (hd:fo.data=.func (fnX name qual params body scope [] dV kV doc pm an bu ct)) (hcd:s.heap.CodeRec bu qual) (cg:A.depth<recursionLimit)
  (dG:BindsTo s (fnX name qual params body scope [] dV kV doc pm an bu ct) args binds)
  (bz:∀n,∀x∈binds,scope.names.lookup x.1=some .local\/(scope.names.lookup x.1=some .cell/\((cellsFrom n scope.names []).lookup x.1).isSome=true))
  (xC:((cellsFrom 0 scope.names []).map (·.1)).Nodup)
  (h:∀g L' aq tk cells,Fr agj L g m->Fr g L' aq (bindL (envOfC qual scope L' f bu).kindOf binds fun _=>none)->News g L' aq (cells++news)->
   CellsAre (bindC (envOfC qual scope L' f bu).kindOf binds fun _=>none) (cellsFrom (L'+1) scope.names []) cells->Below A base (env::outer) g->agj.StaysIn g->(∀p∈news,p.1<L')->KtsDicts (jb (env::outer)) g->
   wpAny (model prog w) (A.deeper (envOfC qual scope L' f bu)) (execs body (envOfC qual scope L' f bu))
    (fun fl s'=>j7 A₀ base outer (jb (env::outer)) agj L m g R (match fl with| .ret v=>v|_=>.none) s')
    (fun e s'=>wpAny (model prog w) (A.deeper (envOfC qual scope L' f bu)) (leaving (envOfC qual scope L' f bu) e) (fun _ ri=>R (.error e) ri) (fun e' ri=>R (.error e') ri) s')
    { s with heap:=aq,toks:=tk})
  (jy:scope.isCoroutine=false) (fy:scope.isGenerator=false) (hk:scope.kind=.function):codeAny (model prog w) A (.call (.ref f) args) R s:=by
 obtain⟨FG,BG,st,DG,lv⟩:=uw (R:=R) B F N hA hf Lv D
 refine codeAny_call_function cg ho hd jy fy rfl hcd (dG _ _ _ _ ?_)
 refine wpAny_newFunctionEnv_cells hk (bz _) fun env' he s' x=>?_
 subst he
 refine⟨(G9.keeps F.keep).keeps x.toInCall.keep,codeAny_func ?_⟩
 obtain⟨aq,tk,rfl,_⟩:=x.done
 have qn:=x.toInCall.keep
 obtain⟨cells,NC,Y⟩:=Cl.news (h₀:=s.heap) (Nat.le_refl _) fun n c hm=>⟨x.cell n c (lookup_of_mem_nodup (cellsFrom_names scope.names 0 (s.heap.objs.size+1) [] [] rfl▸xC) hm),x.above n c hm⟩
 refine wpAny_mono (h _ s.heap.objs.size aq tk cells FG ⟨x.toInCall.ns,fun b o e=>qn b o (of_hideAll _ e),Nat.le_of_eq (hideAll_size _ _)⟩ (fun p hp=>?_) Y BG st (fun p hp=>Heap.lt_size (N p hp).1) DG) (fun fl s' hl=>lv _ _ hl) fun _ _ y=>y
 rcases List.mem_append.mp hp with hp|hp
 ·refine⟨(NC p hp).1,(NC p hp).2.1,?_⟩
  cases q:(hideAll s.heap (news.map (·.1))).get? p.1 with
  |none=>rfl
  |some o=>have:=of_hideAll _ q;rw[(NC p hp).2.2] at this;cases this
 ·exact⟨qn _ _ (N p hp).1,Nat.ne_of_lt (Heap.lt_size (N p hp).1),hideAll_none _ (List.mem_map_of_mem hp)⟩
end
section
variable{w:World}{p:Program}{loose:List Str}{aY:ExcName->Option Value}{mg mb:Str->Option Value}
 {dp un:Nat} {gd:Option (List Code)} {cn:Str} {cs:Scope} {a:Addr} {aJ:Value} {cl:List (Str×Addr)} {outer:List Env} {A₀:Around} {base agj:Heap} {L:Addr} {m:Str->Option Value} {nw led led' news:Led} {d:Nat} {Q E:Value->Shared->Prop}
 {h:Heap} {gn:Array GenState} {dr:Drawn} {tk:Nat} {os:OsState} {K:Frag}
def BQS(A₀:Around)(base:Heap)(outer:List Env)(fs:List Addr)(agj:Heap)(L:Addr)(m:Str->Option Value)(g:Heap)(Q:Value->Shared->Prop)(E:Value->Shared->Prop):Flow->Shared->Prop:=
 fun fl s'=>j7 A₀ base outer fs agj L m g (Back Q E) (match fl with| .ret v=>v|_=>.none) s'
def aa8(A₀:Around)(base:Heap)(outer:List Env)(agj:Heap)(L:Addr)(nw:Led)(d:Nat)(m:Str->Option Value)(led:Led)(dr:Drawn)(os:OsState)(Q:Value->Shared->Prop)(P:Led->Value->Prop):Prop:=
 ∀r tl h' bB aN di,KtsTurn (jb outer) agj di->Below A₀ base outer di->KtsDicts (jb outer) di->St di L nw d h' m (tl++led)->AllBare bB->P tl r->Q r ⟨h',bB,dr,aN,os⟩
theorem Hf{fs:List Addr}{g g':Heap}{L':Addr}{m':Str->Option Value}{aZ:Led}{v:Value}{P:Led->Value->Prop}(ret:aa8 A₀ base outer agj L nw d m aZ dr os Q P)(KT:KtsTurn fs g g')(fP:cj aZ/\(∀p∈aZ,@LT.lt Nat _ 277 p.1)/\Split aZ nw d/\@LE.le Nat _ d (L+1))(Z:St g' L' aZ (L'+1) h m' led)(hG:AllBare gn)(hb:∀p∈aZ,p.1<L')(hl:@LT.lt Nat _ L L')
  (sub:∀p∈aZ,p∈led) (hp:∀tl,(∀p∈led,p∈tl++aZ)->(∀p∈led,Ge (L'+1) p.1->p∈tl)->P tl v):BQS A₀ base outer fs agj L m g Q E (.ret v) ⟨h,gn,dr,tk,os⟩:=by
 have yC:∀p∈aZ,@LT.lt Nat _ p.1 (L'+1):=fun p hp=>Nat.lt_succ_of_lt (hb p hp)
 obtain⟨tl,h1,h2,h3,h4,h5⟩:=GG Z yC sub
 exact Z.elim fun o7 h7 N7=>⟨g',L',m',_,KT,Z.F,(fun p hp=>N7 p ((List.mem_append.mp hp).elim (fun x=>aA (h1 p x)) fun x=>List.mem_append_right _ x)),fun di B5 F N B' D'=>
  ret v tl _ _ _ di B5 B' D' (yz h7 (fun p hp=>Z.lo p (h1 p (List.mem_append_left _ hp))) fP F N yC (Nat.lt_succ_of_lt hl) h2 h5) hG (hp tl h3 h4)⟩
def yO(base:Heap)(envs:List Env)(agj:Heap)(L:Addr)(m:Str->Option Value)(led:Led)(dr:Drawn)(os:OsState)(E:Value->Shared->Prop):Prop:=
 ∀G e t vs o7 h' bB aN,gu o7->RaisedS base G envs e (.type "ValueError") t vs (led++[((277:Nat),o7)]) h'->Fr agj L G m->G.UpToSlots h'->AllBare bB->E (.ref e) ⟨h',bB,dr,aN,os⟩
theorem B6{g:Heap}{L' f:Addr}{m':Str->Option Value}{aZ:Led}{d':Nat}{qual:Str}{scope:Scope}{bu:Value}{np aa9 pos:Pos}{B8:Expr}{QF:Flow->Shared->Prop}
  (exc:yO base (envX cn cs L a aJ cl::outer) agj L m aZ dr os E) (FG:Fr agj L g m)
  (B:Below (ktrTop dp un gd cn cs L a aJ cl outer) base (envX cn cs L a aJ cl::outer) g) (Z:St g L' aZ d' h m' led) (X:K.In g) (T:Top p loose aY mg mb g) (hG:AllBare gn) (sub:∀p∈aZ,p∈led)
  (ex:nsIn K mainGlobals ("ValueError")=some none) (hx:(envX qual scope L' f bu []).kindOf ("ValueError")=some .globalImplicit) (mD:scope.kind=.function)
  (he:starEach [B8] (envX qual scope L' f bu [])=[(false,eval B8 (envX qual scope L' f bu []))])
  (k:∀E' tk,wpAny (MM w) (ktrTop (dp+1) (un+3) gd qual scope L' f bu [] (envX cn cs L a aJ cl::outer)) (eval B8 (envX qual scope L' f bu [])) (fun _ aC=>∃aN,aC=⟨h,gn,dr,aN,os⟩) E' ⟨h,gn,dr,tk,os⟩):
  wpAny (MM w) (ktrTop (dp+1) (un+3) gd qual scope L' f bu [] (envX cn cs L a aJ cl::outer)) (exec (.Raise (some (.Call (.Name ("ValueError") np) [B8] [] aa9)) none pos) (envX qual scope L' f bu [])) QF
   (BE w (ktrTop (dp+1) (un+3) gd qual scope L' f bu [] (envX cn cs L a aJ cl::outer)) (envX qual scope L' f bu []) E) ⟨h,gn,dr,tk,os⟩:=by
 refine Raise_madeB PySem.F.excCall_ValueError PySem.F.excRaise_ValueError rfl (d9 Z.F X T ex PyProof.Rows.Boot.«ValueError» (by decide) mD hx (by kernel_rfl) ⟨rfl,?_⟩) he rfl
 refine bx he (wpAny_mono (k _ tk) ?_ fun _ _ e=>e)
 rintro v aC ⟨aN,rfl⟩
 refine cT ⟨by rw[sizeLine_eq];simp,fun h' e hx=>?_⟩
 obtain⟨o7,h7,N7⟩:=Z.NT
 have N':News g L' h (aZ++[((277:Nat),o7)]):=fun p hp=>N7 p ((List.mem_append.mp hp).elim (fun x=>aA (sub p x)) fun x=>List.mem_append_right _ x)
 refine leave_raiseS (A:=ktrTop dp un gd cn cs L a aJ cl outer) (s':=⟨h',gn,dr,aN,os⟩) B hx.of Z.F N' (fun bE t R _ U=>?_) mD
 exact exc g e t _ o7 bE gn aN h7 R FG U hG
theorem yP{Lx g:Heap}{L' f:Addr}{m':Str->Option Value}{d':Nat}{qual:Str}{scope:Scope}{bu:Value}{envs:List Env}{A:Around}{np pos:Pos}{Ly:Stmt}{DX:List Stmt}{rest:List ExceptHandler}{QF:Flow->Shared->Prop}
  (B:Below A base envs g) (Z:St g L' nw d' h m' led) (XB:K.In base) (TB:Top p loose aY mg mb base) (D:KtsDicts (jb envs) g) (KT:KtsTurn (jb envs) Lx g)
  (ex:nsIn K mainGlobals ("ValueError")=some none) (hx:(envX qual scope L' f bu []).kindOf ("ValueError")=some .globalImplicit) (mD:scope.kind=.function)
  (hE:∀e,PassesOwnAt (MM w) ((A.deeper (envX qual scope L' f bu [])).mark (some (.ref e))) (A.deeper (envX qual scope L' f bu [])) (envX qual scope L' f bu []) E)
  (k:∀e h' g' bB aN,KtsTurn (jb envs) Lx g'->Below A base envs g'->K.In g'->Top p loose aY mg mb g'->KtsDicts (jb envs) g'->St g' L' nw d' h' m' led->AllBare bB->
   wpAny (MM w) ((A.deeper (envX qual scope L' f bu [])).mark (some (.ref e))) (execs (Ly::DX) (envX qual scope L' f bu [])) QF E ⟨h',bB,dr,aN,os⟩):
  yO base (envX qual scope L' f bu []::envs) g L' m' led dr os (fun e aC=>wpAny (MM w) (A.deeper (envX qual scope L' f bu [])) (noteFrame e (envX qual scope L' f bu [])) (fun _ bw=>wpAny (MM w) (A.deeper (envX qual scope L' f bu [])) (setFlight e none) (fun _ dJ=>
    wpAny (MM w) (A.deeper (envX qual scope L' f bu [])) (handleBy e (envX qual scope L' f bu []) (.ExceptHandler (some (.Name ("ValueError") np)) none (Ly::DX) pos::rest)) QF E dJ) E bw) E aC):=by
 intro G e t vs o7 bE bB aN h7 R F U hG
 refine caught_S0 (s':=⟨bE,bB,dr,aN,os⟩) (T':="ValueError") (x:="ValueError") R F B U XB TB D KT ex PyProof.Rows.Boot.«ValueError» (by decide) PySem.F.isExc_ValueError PySem.F.notTuple_ValueError (by rw[isSubtype_type];kernel_rfl) ?_ mD hx (by kernel_rfl) (hE e)
 intro h' g' aaw B5 F' yi _ N' B' X' T' D'
 exact k e h' g' bB aN B5 B' X' T' D' ⟨F',⟨o7,h7,N'⟩,Z.S,Z.lo,Z.P,Z.D⟩ hG
end
noncomputable def setB(nb:Led)(G:Led):Led:=G.map fun p=>(p.1,(nb.lookup p.1).getD p.2)
noncomputable def fQ(ks:List Addr)(G:Led):Led:=G.filter fun p=> !(ks.contains p.1)
theorem Lz{nb:Led}{x:Addr}{o:Obj}:nb.lookup x=some o->(x,o)∈nb:=by
 induction nb with
 |nil=>exact fun h=>nomatch h
 |cons q r ih=>
  intro h
  rw[List.lookup_cons] at h
  cases e:x==q.1 with
  |true=>rw[e] at h;rw[show(x,o)=q from Prod.ext (by simpa using e) (Option.some.inj h).symm];exact .head _
  |false=>rw[e] at h;exact .tail _ (ih h)
theorem dj{nb:Led}{x:Addr}:nb.lookup x=none↔∀p∈nb,p.1≠x:=by
 induction nb with
 |nil=>exact⟨fun _ _ h=>(nomatch h),fun _=>rfl⟩
 |cons q r ih=>
  rw[List.lookup_cons]
  cases e:x==q.1 with
  |true=>exact⟨fun h=>(nomatch h),fun h=>absurd (by simpa using e) (h q (.head _)).symm⟩
  |false=>
   have mO:q.1≠x:=fun h=>by rw[h,beq_self_eq_true] at e;cases e
   refine⟨fun h p hp=>?_,fun h=>ih.mpr fun p hp=>h p (.tail _ hp)⟩
   rcases List.mem_cons.mp hp with rfl|hp
   ·exact mO
   ·exact ih.mp h p hp
theorem ek{nb G:Led}{p:Addr×Obj}(h:p∈setB nb G):(p∈G/\nb.lookup p.1=none)\/((∃o,(p.1,o)∈G)/\p∈nb):=by
 obtain⟨q,hq,rfl⟩:=List.mem_map.mp h
 cases e:nb.lookup q.1 with
 |none=>exact .inl ⟨by rw[show(none:Option Obj).getD q.2=q.2 from rfl];exact hq,rfl⟩
 |some o=>exact .inr ⟨⟨_,hq⟩,Lz e⟩
theorem fC{nb G:Led}{p:Addr×Obj}(h:p∈G)(e:nb.lookup p.1=none):p∈setB nb G:=List.mem_map.mpr ⟨p,h,by rw[e];rfl⟩
theorem qp{nb G:Led}:(setB nb G).map (·.1)=G.map (·.1):=by unfold setB;rw[List.map_map];rfl
theorem jn{nb G:Led}(h:∀p∈G,nb.lookup p.1=none):setB nb G=G:=by
 unfold setB
 have:∀p∈G,(p.1,(nb.lookup p.1).getD p.2)=p:=fun p hp=>by rw[h p hp];rfl
 exact(List.map_congr_left this).trans (List.map_id G)
theorem ez{nb G H:Led}:setB nb (G++H)=setB nb G++setB nb H:=List.map_append
theorem yQ{ks:List Addr}{G H:Led}:fQ ks (G++H)=fQ ks G++fQ ks H:=List.filter_append ..
theorem fD{ks:List Addr}{G:Led}{p:Addr×Obj}:p∈fQ ks G↔p∈G/\p.1∉ks:=by
 unfold fQ
 rw[List.mem_filter]
 simp
theorem B9{ks:List Addr}{G:Led}(h:∀p∈G,p.1∉ks):fQ ks G=G:=List.filter_eq_self.mpr fun p hp=>by simpa using h p hp
theorem ux{agj h h':Heap}{L:Addr}{nb G:Led}(N:News agj L h G)(hx:∀b o,(∀p∈nb,p.1≠b)->h.get? b=some o->h'.get? b=some o)(hb:∀p∈nb,h'.get? p.1=some p.2):News agj L h' (setB nb G):=fun p hp=>by
 rcases ek hp with⟨a,b⟩|⟨⟨o,a⟩,b⟩
 ·exact⟨hx _ _ (dj.mp b) (N p a).1,(N p a).2⟩
 ·exact⟨hb p b,(N _ a).2⟩
section
variable{agj h h':Heap}{L:Addr}{nw led:Led}{d:Nat}{m m':Str->Option Value}{o7:Obj}{nb:Led}
theorem St.Hg(Z:St agj L nw d h m led)(hk:∀p∈nb,(∃o,(p.1,o)∈led)/\Ge d p.1):setB nb ([((277:Nat),o7)]:Led)=[((277:Nat),o7)]:=jn fun p hp=>dj.mpr fun q hq e=>by
 obtain⟨⟨o,ho⟩,_⟩:=hk q hq
 have:=Z.lo _ ho
 rw[List.mem_singleton.mp hp] at e
 rw[e] at this
 exact Nat.lt_irrefl _ this
theorem St.setB(Z:St agj L nw d h m led)(h7:gu o7)(hk:∀p∈nb,(∃o,(p.1,o)∈led)/\Ge d p.1)(F:Fr agj L h' m')(N:News agj L h' (setB nb (led++[((277:Nat),o7)]))):St agj L nw d h' m' (setB nb led):=by
 rw[ez,Z.Hg hk] at N
 refine⟨F,⟨o7,h7,N⟩,?_,fun p hp=>?_,fun p hp=>?_,Z.D⟩
 ·have a:(led.map (·.1)).Pairwise fun p q=>@LT.lt Nat _ q p:=List.pairwise_map.mpr Z.S
  rw[<-qp (nb:=nb)] at a
  exact List.pairwise_map.mp a
 ·rcases ek hp with⟨a,_⟩|⟨⟨o,a⟩,_⟩
  ·exact Z.lo p a
  ·exact Z.lo (p.1,o) a
 ·rcases ek hp with⟨a,_⟩|⟨_,a⟩
  ·exact Z.P p a
  ·exact .inr (hk p a).2
theorem St.fQ(Z:St agj L nw d h m led)(h7:gu o7){ks:List Addr}(F:Fr agj L h' m')(N:News agj L h' (fQ ks led++[((277:Nat),o7)])):St agj L nw d h' m' (fQ ks led):=Z.sub h7 List.filter_sublist F N
end
section
variable{w:World}{A:Around}{agj:Heap}{L:Addr}{m:Str->Option Value}{nw led news:Led}{d:Nat}{E:Value->Shared->Prop}{h:Heap}{gn:Array GenState}{dr:Drawn}{tk:Nat}{os:OsState}
theorem uy{T:Addr}{o:Obj}{h':Heap}{G:Led}(F:Fr agj L h m)(e:T=h.objs.size)(hT:h'.get? T=some o)(N:News agj L h' G):News agj L h' ((T,o)::G):=fun p hp=>by
 rcases List.mem_cons.mp hp with rfl|hp
 ·subst e
  refine⟨hT,Nat.ne_of_gt F.ns.lt,?_⟩
  cases q:agj.get? h.objs.size with
  |none=>rfl
  |some _=>exact absurd (Heap.lt_size (F.keep _ _ q)) (Nat.lt_irrefl _)
 ·exact N p hp
theorem Ca{z TO TI i2 i1 t1 t2:Addr}{o1 o2:Obj}{i:Nat}{a b x y:Value}{v1 v2:List Value}{n1 n2:Nat}{Q:Option Value->Shared->Prop}(F:Fr agj L h m)(N:News agj L h news)
  (c1:(z,b7 .none TI TO)∈news) (c2:(TO,aj [a,b] 0)∈news) (c3:(TI,aj [.ref i1,.ref i2] 0)∈news) (c4:(i2,o2)∈news) (c5:(i1,o1)∈news) (j1:bg o1 t1 i) (j2:bg o2 t2 i) (jO:(t1,aj v1 n1)∈news) (pV:(t2,aj v2 n2)∈news)
  (hx:v1[i]?=some x) (hy:v2[i]?=some y) (Z:jB t1 t2 i1 i2 TI TO z)
  (k:∀T h' gZ ia,Fr agj L h' m->News agj L h' ((T,aj [x,y] 0)::setB [(z,b7 (rawInt T) TI TO),(TO,aj [x,y] 0),(i2,ia),(i1,gZ)] news)->bg gZ t1 (i+1)->bg ia t2 (i+1)->
   (∀p∈news,p.1<T)->@LT.lt Nat _ L T->Q (some (.ref T)) ⟨h',gn,dr,tk,os⟩):wpAny (MM w) A (pyNext (.ref z)) Q E ⟨h,gn,dr,tk,os⟩:=by
 have hT:Shared.TypeIs ⟨h,gn,dr,tk,os⟩ (.ref z) "zip":=⟨_,(N _ c1).1,rfl⟩
 unfold pyNext
 refine wpAny_bind (wpAny_attempt (wpAny_callSpecial?_slot (name:="__next__") hT PySem.F.slot_zip_next (wpAny_call_entry PySem.F.slot_zip_next hT PySem.F.entry_zip_next
  (kL (s:=⟨h,gn,dr,tk,os⟩) Z.apart (N _ c1).1 (N _ c3).1 (N _ c2).1 ⟨_,(N _ c5).1,j1.1,j1.2⟩ ⟨_,(N _ c4).1,j2.1,j2.2⟩ (N.isTup jO) (N.isTup pV) (by simpa using hx) (by simpa using hy) fun h' a1 a2 a3 a4 a5 a6 a7=>wpAny_pure ?_) (PySem.F.args_zip_next_1 _))))
 obtain⟨gZ,ho1,hc1,Jy⟩:=a3
 obtain⟨ia,ho2,hc2,hd2⟩:=a4
 have iJ:∀b o,b∉[z,TO,i2,i1]->h.get? b=some o->h'.get? b=some o:=fun b o hb e=>by
  simp only[List.mem_cons,List.not_mem_nil,or_false,not_or] at hb
  exact a7 b o hb.1 hb.2.1 hb.2.2.2 hb.2.2.1 e
 have F':Fr agj L h' m:=fN F N (fun d hd=>by
  simp only[List.mem_cons,List.not_mem_nil,or_false] at hd
  rcases hd with rfl|rfl|rfl|rfl
  ·exact⟨_,c1⟩
  ·exact⟨_,c2⟩
  ·exact⟨_,c4⟩
  ·exact⟨_,c5⟩) iJ
 have N':=ux (nb:=[(z,b7 (rawInt h.objs.size) TI TO),(TO,aj [x,y] 0),(i2,ia),(i1,gZ)]) N (fun b o hb=>iJ b o fun hm=>by
  simp only[List.mem_cons,List.not_mem_nil,or_false] at hm
  rcases hm with rfl|rfl|rfl|rfl
  ·exact hb _ (.head _) rfl
  ·exact hb _ (.tail _ (.head _)) rfl
  ·exact hb _ (.tail _ (.tail _ (.head _))) rfl
  ·exact hb _ (.tail _ (.tail _ (.tail _ (.head _)))) rfl) (fun p hp=>by
  simp only[List.mem_cons,List.not_mem_nil,or_false] at hp
  rcases hp with rfl|rfl|rfl|rfl
  ·exact a1
  ·exact a2
  ·exact ho2
  ·exact ho1)
 exact k h.objs.size h' gZ ia F' (uy F rfl a5 N') ⟨hc1,Jy⟩ ⟨hc2,hd2⟩ (fun p hp=>Heap.lt_size (N p hp).1) F.ns.lt
theorem Cb{z TO TI i2 i1 t1 t2:Addr}{o1 o2:Obj}{i:Nat}{a b:Value}{v1:List Value}{n1:Nat}{Q:Option Value->Shared->Prop}(F:Fr agj L h m)(N:News agj L h news)
  (c1:(z,b7 .none TI TO)∈news) (c2:(TO,aj [a,b] 0)∈news) (c3:(TI,aj [.ref i1,.ref i2] 0)∈news) (c4:(i2,o2)∈news) (c5:(i1,o1)∈news) (j1:bg o1 t1 i) (jO:(t1,aj v1 n1)∈news)
  (hx:v1[i]?=none) (Z:jB t1 t2 i1 i2 TI TO z) (hh:A.handled=none)
  (k:∀h',Fr agj L h' m->News agj L h' (fQ [z,TO,TI,i2,i1] news)->Q none ⟨h',gn,dr,tk,os⟩):wpAny (MM w) A (pyNext (.ref z)) Q E ⟨h,gn,dr,tk,os⟩:=by
 have hT:Shared.TypeIs ⟨h,gn,dr,tk,os⟩ (.ref z) "zip":=⟨_,(N _ c1).1,rfl⟩
 unfold pyNext
 refine wpAny_bind (wpAny_attempt (wpAny_callSpecial?_slot (name:="__next__") hT PySem.F.slot_zip_next (wpAny_call_entry PySem.F.slot_zip_next hT PySem.F.entry_zip_next
  (m6 (s:=⟨h,gn,dr,tk,os⟩) hh Z.apart (N _ c1).1 (N _ c3).1 (N _ c2).1 ⟨_,(N _ c5).1,j1.1,j1.2⟩ (N.isTup jO) (by simpa using hx) fun h' e hk he=>?_) (PySem.F.args_zip_next_1 _))))
 obtain⟨o,ho,hc⟩:=he
 refine wpAny_bind (wpAny_isInstance (T:="StopIteration") (b:=true) ⟨o,ho,hc⟩ isSubtype_stop ?_)
 have iJ:∀b o,b∉[z,TO,i2,i1]->h.get? b=some o->h'.get? b=some o:=fun b o hb e=>by
  simp only[List.mem_cons,List.not_mem_nil,or_false,not_or] at hb
  exact hk b o hb.1 hb.2.1 hb.2.2.2 hb.2.2.1 e
 have F':Fr agj L h' m:=fN F N (fun d hd=>by
  simp only[List.mem_cons,List.not_mem_nil,or_false] at hd
  rcases hd with rfl|rfl|rfl|rfl
  ·exact⟨_,c1⟩
  ·exact⟨_,c2⟩
  ·exact⟨_,c4⟩
  ·exact⟨_,c5⟩) iJ
 exact wpAny_pure (k h' F' fun p hp=>by
  obtain⟨a,b⟩:=fD.mp hp
  exact⟨iJ _ _ (fun hm=>b (by
   simp only[List.mem_cons,List.not_mem_nil,or_false] at hm⊢
   rcases hm with h|h|h|h<;>simp[h])) (N p a).1,(N p a).2⟩)
theorem Hh{z TO TI i2 i1 t1 t2:Addr}{o1 o2:Obj}{i:Nat}{a b x y:Value}{v1 v2:List Value}{n1 n2:Nat}{Q:Option Value->Shared->Prop}(Z:St agj L nw d h m led)
  (c1:(z,b7 .none TI TO)∈led) (c2:(TO,aj [a,b] 0)∈led) (c3:(TI,aj [.ref i1,.ref i2] 0)∈led) (c4:(i2,o2)∈led) (c5:(i1,o1)∈led) (g:Ge d i1) (j1:bg o1 t1 i) (j2:bg o2 t2 i) (jO:(t1,aj v1 n1)∈led) (pV:(t2,aj v2 n2)∈led)
  (hx:v1[i]?=some x) (hy:v2[i]?=some y) (ZO:jB t1 t2 i1 i2 TI TO z)
  (k:∀T h' gZ ia,St agj L nw d h' m ((T,aj [x,y] 0)::setB [(z,b7 (rawInt T) TI TO),(TO,aj [x,y] 0),(i2,ia),(i1,gZ)] led)->bg gZ t1 (i+1)->bg ia t2 (i+1)->
   Ge d T->Q (some (.ref T)) ⟨h',gn,dr,tk,os⟩):wpAny (MM w) A (pyNext (.ref z)) Q E ⟨h,gn,dr,tk,os⟩:=
 Z.elim fun o7 h7 N7=>Ca Z.F N7 (aA c1) (aA c2) (aA c3) (aA c4) (aA c5) j1 j2 (aA jO) (aA pV) hx hy ZO fun T h' gZ ia F N hi1 BO hl hL=>by
  have a3:=ZO.a3
  have a4:=ZO.a4
  have a5:=ZO.a5
  have a6:=ZO.a6
  have g2:Ge d i2:=Nat.le_trans g (Nat.le_of_lt a3)
  have g3:Ge d TI:=Nat.le_trans g2 (Nat.le_of_lt a4)
  have g4:Ge d TO:=Nat.le_trans g3 (Nat.le_of_lt a5)
  have g5:Ge d z:=Nat.le_trans g4 (Nat.le_of_lt a6)
  have hk:∀p∈([(z,b7 (rawInt T) TI TO),(TO,aj [x,y] 0),(i2,ia),(i1,gZ)]:Led),(∃o,(p.1,o)∈led)/\Ge d p.1:=fun p hp=>by
   simp only[List.mem_cons,List.not_mem_nil,or_false] at hp
   rcases hp with rfl|rfl|rfl|rfl
   ·exact⟨⟨_,c1⟩,g5⟩
   ·exact⟨⟨_,c2⟩,g4⟩
   ·exact⟨⟨_,c4⟩,g2⟩
   ·exact⟨⟨_,c5⟩,g⟩
  have Z1:=Z.setB h7 hk F fun p hp=>N p (.tail _ hp)
  rw[ez,Z.Hg hk] at N
  refine k T h' gZ ia (Z1.push h7 F N (fun p hp=>?_) hL) hi1 BO (Z.ge hL)
  rcases List.mem_append.mp hp with hp|hp
  ·rcases ek hp with⟨a,_⟩|⟨⟨o,a⟩,_⟩
   ·exact hl p (aA a)
   ·exact hl (p.1,o) (aA a)
  ·exact hl p (List.mem_append_right _ hp)
theorem Hi{z TO TI i2 i1 t1 t2:Addr}{o1 o2:Obj}{i:Nat}{a b:Value}{v1:List Value}{n1:Nat}{Q:Option Value->Shared->Prop}(Z:St agj L nw d h m led)
  (c1:(z,b7 .none TI TO)∈led) (c2:(TO,aj [a,b] 0)∈led) (c3:(TI,aj [.ref i1,.ref i2] 0)∈led) (c4:(i2,o2)∈led) (c5:(i1,o1)∈led) (j1:bg o1 t1 i) (jO:(t1,aj v1 n1)∈led)
  (hx:v1[i]?=none) (ZO:jB t1 t2 i1 i2 TI TO z) (hh:A.handled=none)
  (k:∀h',St agj L nw d h' m (fQ [z,TO,TI,i2,i1] led)->Q none ⟨h',gn,dr,tk,os⟩):wpAny (MM w) A (pyNext (.ref z)) Q E ⟨h,gn,dr,tk,os⟩:=
 Z.elim fun o7 h7 N7=>Cb Z.F N7 (aA c1) (aA c2) (aA c3) (aA c4) (aA c5) j1 (aA jO) hx ZO hh fun h' F N=>k h' (Z.fQ h7 F (by
  rw[yQ,B9 (G:=[((277:Nat),o7)]) (fun p hp hm=>by
   have l1:=Z.lo _ c1
   have l2:=Z.lo _ c2
   have l3:=Z.lo _ c3
   have l4:=Z.lo _ c4
   have l5:=Z.lo _ c5
   rw[List.mem_singleton.mp hp] at hm
   simp only[List.mem_cons,List.not_mem_nil,or_false] at hm
   rcases hm with q|q|q|q|q
   ·exact Nat.lt_irrefl _ (q▸l1)
   ·exact Nat.lt_irrefl _ (q▸l2)
   ·exact Nat.lt_irrefl _ (q▸l3)
   ·exact Nat.lt_irrefl _ (q▸l4)
   ·exact Nat.lt_irrefl _ (q▸l5))] at N
  exact N))
theorem Cc{e it t:Addr}{oi:Obj}{i:Nat}{j:Int}{old x:Value}{vs:List Value}{n:Nat}{Q:Option Value->Shared->Prop}(Z:St agj L nw d h m led)
  (he:(e,aS .none it j old)∈led) (hI:(it,oi)∈led) (ge:Ge d e) (gt:Ge d it) (hi:bg oi t i) (hj:j=(i:Int)) (hm:(t,aj vs n)∈led) (hx:vs[i]?=some x) (hh:A.handled=none)
  (k:∀T h' o' aN,St agj L nw d h' m ((T,aj [.int j aN,x] 0)::setB [(e,aS (rawInt T) it (j+1) x),(it,o')] led)->bg o' t (i+1)->Ge d T->Q (some (.ref T)) ⟨h',gn,dr,aN+1,os⟩):
  wpAny (MM w) A (pyNext (.ref e)) Q E ⟨h,gn,dr,tk,os⟩:=by
 subst hj
 refine Z.elim fun o7 h7 N7=>?_
 have F:=Z.F
 have a1:e≠it:=eO N7 (aA he) (aA hI) (by rw[hi.1];show Value.type "enumerate"≠Value.type "tuple_iterator";decide)
 have a2:t≠it:=eO N7 (aA hm) (aA hI) (by rw[hi.1];show Value.type "tuple"≠Value.type "tuple_iterator";decide)
 have a4:e≠t:=eO N7 (aA he) (aA hm) (show Value.type "enumerate"≠Value.type "tuple" by decide)
 have a3:e∉[it,t]:=by simp only[List.mem_cons,List.not_mem_nil,or_false,not_or];exact⟨a1,a4⟩
 have cO:i<vs.toArray.size:=by simp only[List.size_toArray];exact(List.getElem?_eq_some_iff.mp hx).1
 refine wpAny_pyNext_enum_itemD (s:=⟨h,gn,dr,tk,os⟩) (gX (A:=A.in1) hh it t a2 vs.toArray) (N7 _ (aA he)).1 ⟨⟨oi,(N7 _ (aA hI)).1,hi.1,hi.2⟩,N7.isTup (aA hm)⟩ cO a1 a3 fun y h' aN hP ho hs hT hz hk=>?_
 have hy:y=x:=by
  have Gg:vs.toArray[i]?=some y:=hP
  simp only[List.getElem?_toArray,hx,Option.some.injEq] at Gg
  exact Gg.symm
 subst hy
 obtain⟨⟨o',wC,hc,hd⟩,_⟩:=hs
 have iJ:∀b o,b∉[e,it]->h.get? b=some o->h'.get? b=some o:=fun b o hb z=>hk b o (fun q=>hb (q▸.head _)) (fun q=>hb (q▸.tail _ (.head _))) z
 have F':Fr agj L h' m:=fN F N7 (fun d hd=>by
  rcases List.mem_cons.mp hd with rfl|hd
  ·exact⟨_,aA he⟩
  ·rcases List.mem_cons.mp hd with rfl|hd
   ·exact⟨_,aA hI⟩
   ·cases hd) iJ
 have ja:∀p∈([(e,aS (rawInt h.objs.size) it ((i:Int)+1) y),(it,o')]:Led),(∃o,(p.1,o)∈led)/\Ge d p.1:=fun p hp=>by
  rcases List.mem_cons.mp hp with rfl|hp
  ·exact⟨⟨_,he⟩,ge⟩
  ·rcases List.mem_cons.mp hp with rfl|hp
   ·exact⟨⟨_,hI⟩,gt⟩
   ·cases hp
 have N':=ux (nb:=[(e,aS (rawInt h.objs.size) it ((i:Int)+1) y),(it,o')]) N7 (fun b o hb=>iJ b o fun hm=>by
  rcases List.mem_cons.mp hm with rfl|hm
  ·exact hb _ (.head _) rfl
  ·rcases List.mem_cons.mp hm with rfl|hm
   ·exact hb _ (.tail _ (.head _)) rfl
   ·cases hm) (fun p hp=>by
  rcases List.mem_cons.mp hp with rfl|hp
  ·exact ho
  ·rcases List.mem_cons.mp hp with rfl|hp
   ·exact wC
   ·cases hp)
 have Z1:=Z.setB h7 ja F' N'
 rw[ez,Z.Hg ja] at N'
 have hl:∀p∈led++[((277:Nat),o7)],@LT.lt Nat _ p.1 h.objs.size:=fun p hp=>Heap.lt_size (N7 p hp).1
 refine k h.objs.size h' o' aN (Z1.push h7 F' (uy F rfl hT N') (fun p hp=>?_) F.ns.lt) ⟨hc,hd⟩ (Z.ge F.ns.lt)
 rcases List.mem_append.mp hp with hp|hp
 ·rcases ek hp with⟨a,_⟩|⟨⟨o,a⟩,_⟩
  ·exact hl p (aA a)
  ·exact hl (p.1,o) (aA a)
 ·exact hl p (List.mem_append_right _ hp)
end
theorem lu:∀{a0:Int},0<a0->a0≠0:=fun h1=>(Int.ne_of_gt h1)
theorem eT:∀{a0:Int},0<a0->0<=a0:=fun h1=>(Int.le_of_lt h1)
theorem Hj:∀{a0:Nat},a0+300<PySem.cLine->a0+1+200<PySem.cLine:=fun h1=>Nat.lt_of_le_of_lt (by rw[Nat.add_assoc];exact Nat.add_le_add_left (by decide) _) h1
theorem aba:∀{a0:Int},Int.toNat a0%2=1↔(↑(Int.toNat a0):Int)%2=1:=@fun a0=>(Int.ofNat_inj (m:=a0.toNat%2) (n:=1)).symm
theorem yR:∀{a0 a1:Int},0<=a0->a0<a1->0<a1:=fun h1 h2=>(Int.lt_of_le_of_lt h1 h2)
set_option backward.match.sparseCases false
section
variable{w:World}{p:Program}{loose:List Str}{aY:ExcName->Option Value}{mg mb:Str->Option Value}
 {dp un:Nat} {gd:Option (List Code)} {cn:Str} {cs:Scope} {a:Addr} {aJ:Value} {cl:List (Str×Addr)} {outer:List Env} {A₀:Around} {base agj:Heap} {L:Addr} {m:Str->Option Value} {nw led:Led} {d:Nat} {Q E:Value->Shared->Prop}
 {h:Heap} {gn:Array GenState} {dr:Drawn} {tk:Nat} {os:OsState}
theorem yS{D:Led}{x:Addr}{q a0 a1:Int}{ex:Bool}(Z:St agj L nw d h m led)(X:(Mine.pre.heap_1 w.params).In agj)(hx:bk D x q a0 a1)(sub:∀p∈D,p∈led)(k:∀t c1 c2 n,IsPair D t a0 a1->(t,aj [.int a0 c1,.int a1 c2] n)∈D->Q (.ref t) ⟨h,gn,dr,tk+1,os⟩):
  wpAny (MM w) (ktrTop dp un gd cn cs L a aJ cl outer) (getAttr (.ref x) ("coeffs") ex) Q E ⟨h,gn,dr,tk,os⟩:=by
 have F:=Z.F
 have N:=Z.N
 clear Z
 obtain⟨fz,cI,kF,kH,jZ,jg⟩:=hx
 have o8:=sub _ fz
 have jz:=sub _ cI
 walk1
 exact k _ _ _ _ ⟨jZ⟩ jZ
theorem LA{D:Led}{x:Addr}{q a0 a1:Int}{ex:Bool}(Z:St agj L nw d h m led)(X:(Mine.pre.heap_1 w.params).In agj)(hx:bk D x q a0 a1)(sub:∀p∈D,p∈led)(k:∀t c1 c2 n,IsPair D t 1 0->(t,aj [.int 1 c1,.int 0 c2] n)∈D->Q (.ref t) ⟨h,gn,dr,tk+1,os⟩):
  wpAny (MM w) (ktrTop dp un gd cn cs L a aJ cl outer) (getAttr (.ref x) ("modulus_coeffs") ex) Q E ⟨h,gn,dr,tk,os⟩:=by
 have F:=Z.F
 have N:=Z.N
 clear Z
 obtain⟨fz,cI,kF,kH,jZ,jg⟩:=hx
 have o8:=sub _ fz
 have jz:=sub _ cI
 walk1
 exact k _ _ _ _ ⟨jg⟩ jg
theorem LB{D:Led}{x:Addr}{q a0 a1:Int}{ex:Bool}(Z:St agj L nw d h m led)(X:(Mine.pre.heap_1 w.params).In agj)(hx:bk D x q a0 a1)(sub:∀p∈D,p∈led)(k:∀l e n1 n2 e1 e2,(l,ay [.ref e] n1)∈D->(e,aj [.int 0 e1,.int 1 e2] n2)∈D->Q (.ref l) ⟨h,gn,dr,tk+1,os⟩):
  wpAny (MM w) (ktrTop dp un gd cn cs L a aJ cl outer) (getAttr (.ref x) ("mc_tuples") ex) Q E ⟨h,gn,dr,tk,os⟩:=by
 have F:=Z.F
 have N:=Z.N
 clear Z
 obtain⟨fz,cI,kF,kH,jZ,jg⟩:=hx
 have o8:=sub _ fz
 have jz:=sub _ cI
 walk1
 exact k _ _ _ _ _ _ kF kH
end
def Cop(q:Int):Prop:=∀a:Int,0<a->a<q->Int.gcd a q=1
theorem fmod_fmod(a b:Int):(a.fmod b).fmod b=a.fmod b:=by simp
section
variable{w:World}{p:Program}{loose:List Str}{aY:ExcName->Option Value}{mg mb:Str->Option Value}
 {dp un:Nat} {gd:Option (List Code)} {cn:Str} {cs:Scope} {a:Addr} {aJ:Value} {cl:List (Str×Addr)} {outer:List Env} {A₀:Around} {base agj:Heap} {L:Addr} {m:Str->Option Value} {nw led:Led} {d:Nat} {Q E:Value->Shared->Prop}
 {h:Heap} {gn:Array GenState} {dr:Drawn} {tk:Nat} {os:OsState}
theorem abb{x dx c:Addr}{oC:Obj}{es:List DictEntry}{nd:Nat}{q u v:Int}{ta tb tq:Tok}{scope:Scope}{bA:List (Str×Addr)}{env:Env}{p1 p2 p3 p4:Pos}(X:(Mine.pre.heap_1 w.params).In agj)(hx:(x,instObj 418 dx)∈led)(hdx:(dx,dictOf es nd)∈led)(hg:getL ("field_modulus") es=some (some (.int q tq)))
  (hc:(c,oC)∈led) (hoC:oC.data=.cell (some (.ref x))) (hq:0<q)
  (h1:∀C cd,(genEnv scope bA C cd builtinsNs env).scope.kind=.function) (h2:∀C cd,(genEnv scope bA C cd builtinsNs env).kindOf (Str.ofString "coeff")=some .local) (h3:∀C cd,(genEnv scope bA C cd builtinsNs env).kindOf (Str.ofString "self")=some .free) (h4:bA.lookup (Str.ofString "self")=some c):
  rO w agj L m led scope bA env ("coeff") (.BinOp (.Name ("coeff") p1) .Mod (.Attribute (.Name ("self") p2) ("field_modulus") p3) p4) [.int u ta,.int v tb]
   (fun i y=>∃t,y=.int (([u,v].getD i 0).fmod q) t):=by
 intro A' E' C cd i y bE kP kQ kR kT m₂ hA hv pQ hm Gu yi
 have hy:∃t,y=.int ([u,v].getD i 0) t:=by
  rcases i with _|_|i
  ·exact⟨ta,(Option.some.inj hv).symm⟩
  ·exact⟨tb,(Option.some.inj hv).symm⟩
  ·cases hv
 obtain⟨t,rfl⟩:=hy
 refine pG (GB pQ hm (h1 _ _) (h2 _ _) (by kernel_rfl) ?_)
 refine kC (by with_unfolding_all rfl) (BC yi (h1 _ _) (h3 _ _) h4 hc hoC (by kernel_rfl) (by kernel_rfl) ?_)
 refine' xR Gu X yi hx hdx ?k3 ?k4 ?k5 ?k6 hg ?k8 ?_
 case k3=>k_dflt k_is
 case k4=>k_dflt k_is
 case k5=>k_dflt k_is
 case k6=>k_dflt k_is
 case k8=>k_handed
 refine xN (lu hq) ?_
 exact⟨⟨_,rfl⟩,⟨_,_,rfl,fun _ _ e=>e⟩⟩
theorem Ce{x0 mt:Addr}{oc:Obj}{u v q:Int}{ta tb tq:Tok}(B:Below A₀ base outer agj)(Z:St agj L nw d h m led)(X:(Mine.pre.heap_1 w.params).In agj)(T:Top p loose aY mg mb agj)(hk:cs.kind=.function)(hG:AllBare gn)(hd:dp+5<recursionLimit)(hu:un+50<cLine)(hx:(x0,oc)∈led)(ho:jR oc [.int u ta,.int v tb])(hm:IsPair led mt 1 0)(hq:0<q)
 (ret:yx agj L nw d m led dr os Q fun tl r=>∃x,r=.ref x/\kY tl x mt q (u.fmod q) (v.fmod q)):wpAny (MM w) (ktrTop dp un gd cn cs L a aJ cl outer) (call (.ref 418) [.ref x0,.ref mt,.int q tq]) Q E ⟨h,gn,dr,tk,os⟩:=by
 obtain⟨hm⟩:=hm
 rename_i m1 m2 n4
 ((have Zb:=zb Z);(refine' wJ (fun x=>[("self",.ref x),("coeffs",.ref x0),("modulus_coeffs",.ref mt),("field_modulus",.int q tq)]) (fun x=>[("field_modulus",.int q tq),("modulus_coeffs",.ref mt),("coeffs",.ref x0)]) ("self") (fun x=>some (.ref x)) B Z X T hk ?hm ?hi ?hf ?ho ?hcd ?hr ?hb ?hl ?hx ?hv ?hn ?hw ?c1 ?c2 ?c3 ?_);((case hm=>k_dflt k_is);(case hi=>k_dflt k_is);(case hf=>k_dflt k_is);(case ho=>k_dflt k_is);(case hcd=>k_dflt k_is);(case hr=>exact Nat.lt_of_le_of_lt (Nat.add_le_add_left (by decide) _) hd);(case hb=>exact fun _ _=>BindsTo.of_eq rfl);(case hl=>exact fun _=>rfl);(case hx=>exact fun _=>rfl);(case hv=>exact fun _=>by kernel_rfl);(case hn=>decide +kernel);(case hw=>exact fun _=>rfl);(case c1=>exact rfl);(case c2=>exact rfl);(case c3=>exact rfl)));clear B Z X T;intro x dx g L' aq tk oCa oC hoC Z hdx hgx hgC B X T lx hL
 (refine bI ?_;(refine' iH ?mT ?_;(case mT=>exact rfl));(refine' cK ?k14 ?k24 ?k34 ?k44 ?k54 ?_;(case k14=>exact St.F (by assumption));(case k44=>exact rfl);(case k24=>exact aR);(case k34=>exact rfl);(case k54=>kernel_rfl));(refine' iI ?kN6 ?k16 ?k26 ?k36 ?k46 ?k56 ?k66 ?_;(case kN6=>exact St.N (by assumption));(case k16=>exact rfl);(case k26=>exact rfl);(case k36=>exact .head _);(case k46=>assumption);(case k56=>exact rfl);(case k66=>kernel_rfl));(refine' kW ?Z9 ?X9 ?k19 ?kU9 ?k39 ?k49 ?k59 ?k69 ?k79 ?k89 ?kc9 ?z9 ?_;(case Z9=>assumption);(case X9=>assumption);(case k19=>exact .tail _ (.head _));(case kU9=>exact ak (ak bO));(case k39=>k_dflt k_is);(case k49=>k_dflt k_is);(case k59=>k_dflt k_is);(case k69=>k_dflt k_is);(case k79=>k_get);(case k89=>k_put);(case kc9=>assumption);(case z9=>exact Nat.le_of_ble_eq_true rfl);((rename St _ _ _ _ _ _ _=>abc);clear abc);intro h'9 Z9;(try dsimp only at Z9));refine bZ ?_;refine bI ?_;(refine' iH ?abd ?_;(case abd=>exact rfl));(refine' xX ?abe ?abf ?abg ?abh ?_;(case abe=>exact rfl);(case abf=>exact fun _=>rfl);(case abg=>exact rfl);(case abh=>decide));(refine' cC ?abi ?_;(case abi=>exact rfl));(refine' d9 ?abj ?abk ?abl ?abm ?abn ?abo ?abp ?abq ?abr ?_;(case abj=>exact St.F (by assumption));(case abk=>assumption);(case abl=>assumption);(case abq=>exact rfl);(case abm=>k_dflt k_is);(case abn=>boot_by_name);(case abo=>decide);(case abp=>exact rfl);(case abr=>kernel_rfl));(refine' jf ?abt ?abu ?_;(case abt=>exact rfl);(case abu=>exact rfl));(refine' bx ?abv ?_;(case abv=>exact rfl));(refine' cK ?abw ?abx ?aby ?abz ?abA ?_;(case abw=>exact St.F (by assumption));(case abz=>exact rfl);(case abx=>exact aW (by kernel_rfl) aR);(case aby=>exact rfl);(case abA=>kernel_rfl));refine cT ?_;(refine' rQ ?Z28 ?abB ?_;(case Z28=>assumption);(case abB=>exact .tail _ (.tail _ (.tail _ hm)));((rename St _ _ _ _ _ _ _=>abC);clear abC);intro e28 it28 oi28 h'28 Z28 hi28 hd28 afi);(refine' ud ?Z31 ?abD ?abE ?_;(case Z31=>assumption);(case abD=>exact .head _);(case abE=>exact gY rfl));(refine' qb ?Z34 ?abF ?abG ?abH ?abI ?_;(case Z34=>assumption);(case abF=>exact .head _);(case abG=>exact gY rfl);(case abH=>decide);(case abI=>exact rfl);((rename St _ _ _ _ _ _ _=>abJ);clear abJ);intro D34 C34 o34 h'34 Z34 ns34 hd34 afj);(refine' gr ?_;intro E'38);(refine' tZ ?Z39 ?abK ?abL ?abM ?abN ?abO ?abP ?abQ ?abR ?abS ?_;(case Z39=>assumption);(case abK=>exact .tail _ (.tail _ (.head _)));(case abL=>exact cY (cY yv));(case abM=>assumption);(case abN=>assumption);(case abO=>assumption);(case abP=>exact rfl);(case abQ=>exact .tail _ (.tail _ (.tail _ (.tail _ (.tail _ (.tail _ (.tail _ hm)))))));(case abR=>exact rfl);(case abS=>exact rfl);((rename St _ _ _ _ _ _ _=>abT);clear abT);(rename bg _ _ _=>abU);clear abU;intro T39 h'39 o'39 afk Z39 abV hd39;(try dsimp only[List.cons_append,List.nil_append] at Z39);(try dsimp only[Nat.zero_add,Nat.reduceAdd] at abV));refine rI ?_;(refine' nX ?Z46 ?abW ?abX ?_;(case Z46=>assumption);(case abW=>exact ak (ak (ak bO)));(case abX=>assumption);((rename St _ _ _ _ _ _ _=>abY);clear abY);intro h'46 Z46;(try dsimp only at Z46));(refine' kU ?Z50 ?abZ ?ab0 ?ab1 ?ab2 ?_;(case Z50=>assumption);(case abZ=>exact .head _);(case ab0=>exact rfl);(case ab1=>exact rfl);(case ab2=>exact rfl);((rename St _ _ _ _ _ _ _=>ab3);clear ab3);intro h'50 Z50);refine dX ?_;(refine' qa ?Z54 ?ab4 ?ab5 ?ab6 ?ab7 ?ab8 ?_;(case Z54=>assumption);(case ab7=>exact rfl);(case ab8=>exact rfl);(case ab4=>exact ak bO);(case ab5=>assumption);(case ab6=>assumption);((rename St _ _ _ _ _ _ _=>ab9);clear ab9);(rename mF _ _ _=>LC);clear LC;intro h'54 o'54 Z54 ns54;(try dsimp only at Z54));refine dX ?_;(refine' qa ?Z60 ?acd ?ace ?acf ?acg ?ach ?_;(case Z60=>assumption);(case acg=>exact rfl);(case ach=>exact rfl);(case acd=>exact ak bO);(case ace=>assumption);(case acf=>assumption);((rename St _ _ _ _ _ _ _=>aci);clear aci);(rename mF _ _ _=>LD);clear LD;intro h'60 o'60 Z60 ns60;(try dsimp only at Z60));refine kI ?_;refine FP ?_;(refine' fM ?acj ?_;(case acj=>exact rfl));(refine' pP ?ack ?acm ?acn ?aco ?acp ?acq ?acr ?_;(case ack=>exact St.N (by assumption));(case acm=>exact .tail _ (.head _));(case acn=>assumption);(case acq=>exact rfl);(case aco=>exact aR);(case acp=>exact rfl);(case acr=>kernel_rfl));refine xH ?_;(refine' BF ?e72 ?_;(case e72=>exact rfl));refine DF ?_;(refine' bx ?acs ?_;(case acs=>exact rfl));(refine' pP ?acu ?acv ?acw ?acy ?acz ?acA ?acB ?_;(case acu=>exact St.N (by assumption));(case acv=>exact .tail _ (.head _));(case acw=>assumption);(case acA=>exact rfl);(case acy=>exact aW (by kernel_rfl) aR);(case acz=>exact rfl);(case acB=>kernel_rfl));(refine' bx ?acC ?_;(case acC=>exact rfl));(refine' pP ?acD ?acE ?acF ?acG ?acH ?acI ?acJ ?_;(case acD=>exact St.N (by assumption));(case acE=>exact .tail _ (.head _));(case acF=>assumption);(case acI=>exact rfl);(case acG=>exact aR);(case acH=>exact rfl);(case acJ=>kernel_rfl));refine cT ?_;(refine' DP ?Z83 ?z83 ?_;(case Z83=>assumption);(case z83=>exact Nat.le_of_ble_eq_true rfl);((rename St _ _ _ _ _ _ _=>acK);clear acK);intro t83 h'83 Z83 hd83);(refine' GI ?Z86 ?acL ?acM ?acN ?_;(case Z86=>assumption);(case acL=>exact ak (ak (ak bO)));(case acM=>assumption);(case acN=>exact Nat.le_of_ble_eq_true rfl);((rename St _ _ _ _ _ _ _=>acO);clear acO);intro h'86 n'86 Z86;(try dsimp only[List.cons_append,List.nil_append] at Z86));(refine' gr ?_;intro E'90);(refine' tZ ?Z91 ?acP ?acQ ?acR ?acS ?acT ?acU ?acV ?acW ?acX ?_;(case Z91=>assumption);(case acP=>exact .tail _ (.tail _ (.tail _ (.tail _ (.head _)))));(case acQ=>exact cY (cY (cY (cY yv))));(case acR=>assumption);(case acS=>assumption);(case acT=>assumption);(case acU=>exact rfl);(case acV=>exact .tail _ (.tail _ (.tail _ (.tail _ (.tail _ (.tail _ (.tail _ (.tail _ (.tail _ hm)))))))));(case acW=>exact rfl);(case acX=>exact rfl);((rename St _ _ _ _ _ _ _=>acY);clear acY);(rename bg _ _ _=>acZ);clear acZ;intro T91 h'91 o'91 afl Z91 ac0 hd91;(try dsimp only[List.cons_append,List.nil_append] at Z91);(try dsimp only[Nat.zero_add,Nat.reduceAdd] at ac0));refine rI ?_;(refine' nX ?Z98 ?ac1 ?ac2 ?_;(case Z98=>assumption);(case ac1=>exact ak (ak (ak (ak (ak bO)))));(case ac2=>assumption);((rename St _ _ _ _ _ _ _=>LF);clear LF);intro h'98 Z98;(try dsimp only at Z98));(refine' kU ?LG ?LH ?LI ?LJ ?LK ?_;(case LG=>assumption);(case LH=>exact .head _);(case LI=>exact rfl);(case LJ=>exact rfl);(case LK=>exact rfl);((rename St _ _ _ _ _ _ _=>LL);clear LL);intro afm LG);refine dX ?_;(refine' qa ?Hl ?LM ?LN ?LO ?LP ?LQ ?_;(case Hl=>assumption);(case LP=>exact rfl);(case LQ=>exact rfl);(case LM=>exact ak (ak (ak bO)));(case LN=>assumption);(case LO=>assumption);((rename St _ _ _ _ _ _ _=>LR);clear LR);(rename mF _ _ _=>Ho);clear Ho;intro afn afo Hl afp;(try dsimp only at Hl));refine dX ?_;(refine' qa ?Hp ?LS ?LU ?LV ?LW ?LX ?_;(case Hp=>assumption);(case LW=>exact rfl);(case LX=>exact rfl);(case LS=>exact ak (ak (ak bO)));(case LU=>assumption);(case LV=>assumption);((rename St _ _ _ _ _ _ _=>LY);clear LY);(rename mF _ _ _=>Hq);clear Hq;intro afq afr Hp afs;(try dsimp only at Hp));refine kI ?_;refine FP ?_;(refine' fM ?LZ ?_;(case LZ=>exact rfl));(refine' pP ?L0 ?L5 ?L6 ?L7 ?Ma ?Mb ?Mc ?_;(case L0=>exact St.N (by assumption));(case L5=>exact .tail _ (.tail _ (.tail _ (.head _))));(case L6=>assumption);(case Mb=>exact rfl);(case L7=>exact aR);(case Ma=>exact rfl);(case Mc=>kernel_rfl));refine xH ?_;(refine' GD ?ac3 ?_;(case ac3=>exact rfl));(refine' gr ?_;intro aft);(refine' uc ?Me ?Mf ?Mg ?Mh ?Mi ?Mj ?Mk ?Ml ?Mm ?_;(case Me=>assumption);(case Mf=>exact .tail _ (.tail _ (.tail _ (.tail _ (.tail _ (.head _))))));(case Mh=>exact .tail _ (.tail _ (.tail _ (.tail _ (.tail _ (.tail _ (.head _)))))));(case Mj=>assumption);(case Mg=>exact rfl);(case Mi=>exact .tail (.tail (.tail (.tail (.tail (.tail .here))))));(case Mk=>exact .tail _ (.tail _ (.tail _ (.tail _ (.tail _ (.tail _ (.tail _ (.tail _ (.tail _ (.tail _ hm))))))))));(case Ml=>exact rfl);(case Mm=>exact rfl);((rename St _ _ _ _ _ _ _=>Mn);clear Mn);(rename bg _ _ _=>Mp);clear Mp;intro afu Me);refine tO ?_;(refine' yF ?Mq ?Mr ?Ms ?Mt ?_;(case Mq=>assumption);(case Mr=>exact .tail _ (.tail _ (.tail _ (.head _))));(case Ms=>assumption);(case Mt=>exact .tail (.tail (.tail .here)));((rename St _ _ _ _ _ _ _=>Mu);clear Mu);intro afv Mq);(refine' iI ?Mv ?Mw ?Mx ?My ?Mz ?MA ?MB ?_;(case Mv=>exact St.N (by assumption));(case Mw=>exact rfl);(case Mx=>exact rfl);(case My=>exact .tail _ (.tail _ (.tail _ (.tail _ (.tail _ (.head _))))));(case Mz=>assumption);(case MA=>exact rfl);(case MB=>kernel_rfl));(refine' kW ?Hr ?ac4 ?MC ?MD ?ME ?MF ?MG ?MH ?MI ?MJ ?MK ?ac5 ?_;(case Hr=>assumption);(case ac4=>assumption);(case MC=>exact .tail _ (.tail _ (.tail _ (.tail _ (.tail _ (.tail _ (.head _)))))));(case MD=>exact ak (ak (ak (ak (ak (ak (ak bO)))))));(case ME=>k_dflt k_is);(case MF=>k_dflt k_is);(case MG=>k_dflt k_is);(case MH=>k_dflt k_is);(case MI=>k_get);(case MJ=>k_put);(case MK=>assumption);(case ac5=>exact Nat.le_of_ble_eq_true rfl);((rename St _ _ _ _ _ _ _=>ML);clear ML);intro afw Hr;(try dsimp only at Hr));refine bZ ?_;refine bI ?_;refine pC ?_;(refine' pF ?MN ?_;(case MN=>with_unfolding_all rfl));(refine' cC ?MO ?_;(case MO=>exact rfl));(refine' d9 ?MP ?MQ ?MR ?MS ?MT ?MU ?MV ?MW ?MX ?_;(case MP=>exact St.F (by assumption));(case MQ=>assumption);(case MR=>assumption);(case MW=>exact rfl);(case MS=>k_dflt k_is);(case MT=>boot_by_name);(case MU=>decide);(case MV=>exact rfl);(case MX=>kernel_rfl));(refine' gk ?MY ?MZ ?_;(case MY=>exact rfl);(case MZ=>exact rfl);(try dsimp only[List.nil_append,List.cons_append]));(refine' bx ?M0 ?_;(case M0=>exact rfl));(refine' cK ?M1 ?M3 ?M4 ?M5 ?M6 ?_;(case M1=>exact St.F (by assumption));(case M5=>exact rfl);(case M3=>exact aW (by kernel_rfl) (aW (by kernel_rfl) aR));(case M4=>exact rfl);(case M6=>kernel_rfl));refine cT ?_;(refine' DO ?M7 ?M8 ?M9 ?Na ?_;(case M7=>exact St.N (by assumption));(case M9=>assumption);(case M8=>exact .tail _ (.tail _ (.tail _ (.tail _ (.tail _ (.tail _ (.tail _ (.tail _ hx))))))));(case Na=>exact Nat.le_of_ble_eq_true rfl));(refine' cC ?Nb ?_;(case Nb=>exact rfl));(refine' d9 ?Nc ?Nd ?Nf ?Ng ?Nh ?Ni ?Nj ?Nk ?Nl ?_;(case Nc=>exact St.F (by assumption));(case Nd=>assumption);(case Nf=>assumption);(case Nk=>exact rfl);(case Ng=>k_dflt k_is);(case Nh=>boot_by_name);(case Ni=>decide);(case Nj=>exact rfl);(case Nl=>kernel_rfl));(refine' gk ?Nm ?Nn ?_;(case Nm=>exact rfl);(case Nn=>exact rfl);(try dsimp only[List.nil_append,List.cons_append]));(refine' bx ?Np ?_;(case Np=>exact rfl));(refine' cK ?Nq ?Nr ?Nt ?Nu ?Nv ?_;(case Nq=>exact St.F (by assumption));(case Nu=>exact rfl);(case Nr=>exact aW (by kernel_rfl) aR);(case Nt=>exact rfl);(case Nv=>kernel_rfl));refine cT ?_;(refine' yo ?Ny ?Nz ?NB ?_;(case Ny=>exact St.N (by assumption));(case Nz=>exact .tail _ (.tail _ (.tail _ (.tail _ (.tail _ (.tail _ (.tail _ (.tail _ hm))))))));(case NB=>exact Nat.le_of_ble_eq_true rfl));refine Fl ?_;refine gj ?_;(refine' J1 ?ac6 ?_;(case ac6=>exact rfl));refine fu ?_;refine bZ ?_;refine bI ?_;refine pC ?_;(refine' fM ?ND ?_;(case ND=>exact rfl));(refine' cC ?NF ?_;(case NF=>exact rfl));(refine' d9 ?NG ?NH ?NI ?NJ ?NK ?NL ?NN ?NO ?NP ?_;(case NG=>exact St.F (by assumption));(case NH=>assumption);(case NI=>assumption);(case NO=>exact rfl);(case NJ=>k_dflt k_is);(case NK=>boot_by_name);(case NL=>decide);(case NN=>exact rfl);(case NP=>kernel_rfl));(refine' gk ?NQ ?NR ?_;(case NQ=>exact rfl);(case NR=>exact rfl);(try dsimp only[List.nil_append,List.cons_append]));(refine' bx ?NS ?_;(case NS=>exact rfl));refine v_sub ?_;(refine' cK ?NU ?NV ?NW ?NX ?NY ?_;(case NU=>exact St.F (by assumption));(case NX=>exact rfl);(case NV=>exact aW (by kernel_rfl) (aW (by kernel_rfl) aR));(case NW=>exact rfl);(case NY=>kernel_rfl));refine DH ?_;(refine' GC ?NZ ?N6 ?N8 ?ac7 ?ac8 ?ac9 ?N9 ?_;(case NZ=>exact St.N (by assumption));(case N8=>assumption);(case N6=>exact .tail _ (.tail _ (.tail _ (.tail _ (.tail _ (.tail _ (.tail _ (.tail _ hx))))))));(case ac7=>decide);(case ac8=>decide);(case ac9=>rfl);(case N9=>with_unfolding_all rfl));(refine' bx ?Oa ?_;(case Oa=>exact rfl));(refine' d9 ?Ob ?Oc ?Od ?Oe ?Of ?Og ?Oh ?Oi ?Oj ?_;(case Ob=>exact St.F (by assumption));(case Oc=>assumption);(case Od=>assumption);(case Oi=>exact rfl);(case Oe=>k_dflt k_is);(case Of=>boot_by_name);(case Og=>decide);(case Oh=>exact rfl);(case Oj=>kernel_rfl));refine cT ?_;(refine' gq ?ada ?adb ?ade ?_;(case ada=>exact St.F (by assumption));(case adb=>assumption);(case ade=>exact St.N (by assumption));intro afx);refine gj ?_;refine i_t ?_;refine bI ?_;(refine' iH ?Ol ?_;(case Ol=>exact rfl));(refine' cC ?Om ?_;(case Om=>exact rfl));(refine' d9 ?Oo ?Oq ?Ot ?Ou ?Ov ?Ow ?Ox ?Oz ?OA ?_;(case Oo=>exact St.F (by assumption));(case Oq=>assumption);(case Ot=>assumption);(case Oz=>exact rfl);(case Ou=>k_dflt k_is);(case Ov=>boot_by_name);(case Ow=>decide);(case Ox=>exact rfl);(case OA=>kernel_rfl));(refine' jf ?OB ?OC ?_;(case OB=>exact rfl);(case OC=>exact rfl));(refine' bx ?OD ?_;(case OD=>exact rfl)))
 rename St _ _ _ _ _ _ _=>Z
 have Cd:CodeHd g 279 (277:Nat):=codeHd_of_K X (by kernel_rfl)
 refine' zge (o:=oc) (Fv:=fun i y=>∃t,y=.int (([u,v].getD i 0).fmod q) t) Z hG T Cd rfl ?hr rfl rfl rfl ?hc ?hce ?h0 ?hx ?hk ?hs ?hm ?ho ?hl ?hit ?he ?_
 case hr=>show dp+2<recursionLimit;exact Nat.le_of_lt (Nat.le_of_lt (Nat.le_of_lt hd))
 case hc=>exact rfl
 case hce=>decide
 case h0=>kernel_rfl
 case hx=>kernel_rfl
 case hk=>exact rfl
 case hs=>exact fun _=>rfl
 case hm=>exact .tail _ (.tail _ (.tail _ (.tail _ (.tail _ (.tail _ (.tail _ (.tail _ hx)))))))
 case ho=>exact ho
 case hl=>exact rfl
 case hit=>intro Q k;(((with_reducible refine' cK ?OE ?OF ?OG ?OH ?OI ?_);(case OE=>(exact St.F (by with_reducible assumption)));(case OH=>exact rfl);(case OF=>exact aW (by kernel_rfl) (aW (by kernel_rfl) aR));(case OG=>exact rfl);(case OI=>kernel_rfl)));exact k
 case he=>exact abb X (by exact .tail _ (.tail _ (.tail _ (.tail _ (.tail _ (.tail _ (.head _))))))) (by exact .tail _ (.tail _ (.tail _ (.tail _ (.tail _ (.tail _ (.tail _ (.head _)))))))) (by k_get) (by exact .tail _ (.tail _ (.tail _ (.tail _ (.tail _ (.head _)))))) hoC hq (fun _ _=>rfl) (fun _ _=>rfl) (fun _ _=>rfl) rfl
 clear Z hG
 intro a1 h1 gn1 tk1 Z hG G
 (with_reducible refine cT ?_)
 refine' ztg G ?_
 clear Z G hG
 rintro t y0 y1 h2 Jz uo Z hG hgt ⟨t0,rfl⟩ ⟨t1,rfl⟩
 change St _ _ _ _ _ _ ((t,aj [.int (u.fmod q) t0,.int (v.fmod q) t1] 0)::_) at Z
 ((refine' iI ?OJ ?OL ?OM ?ON ?OO ?OP ?OQ ?_;(case OJ=>exact St.N (by assumption));(case OL=>exact rfl);(case OM=>exact rfl);(case ON=>exact .tail _ (.tail _ (.tail _ (.tail _ (.tail _ (.tail _ (.head _)))))));(case OO=>assumption);(case OP=>exact rfl);(case OQ=>kernel_rfl));(refine' kW ?Hs ?adf ?OR ?OS ?OT ?OU ?OV ?OW ?OX ?OY ?OZ ?adg ?_;(case Hs=>assumption);(case adf=>assumption);(case OR=>exact .tail _ (.tail _ (.tail _ (.tail _ (.tail _ (.tail _ (.tail _ (.head _))))))));(case OS=>exact ak (ak (ak (ak (ak (ak (ak (ak bO))))))));(case OT=>k_dflt k_is);(case OU=>k_dflt k_is);(case OV=>k_dflt k_is);(case OW=>k_dflt k_is);(case OX=>k_get);(case OY=>k_put);(case OZ=>assumption);(case adg=>exact Nat.le_of_ble_eq_true rfl);((rename St _ _ _ _ _ _ _=>O0);clear O0);intro afy Hs;(try dsimp only at Hs));refine bZ ?_;refine fu ?_;refine bZ ?_;refine bI ?_;(refine' iH ?O1 ?_;(case O1=>exact rfl));(refine' cC ?O2 ?_;(case O2=>exact rfl));(refine' d9 ?O3 ?O4 ?O5 ?O6 ?O7 ?O8 ?O9 ?Pa ?Pb ?_;(case O3=>exact St.F (by assumption));(case O4=>assumption);(case O5=>assumption);(case Pa=>exact rfl);(case O6=>k_dflt k_is);(case O7=>boot_by_name);(case O8=>decide);(case O9=>exact rfl);(case Pb=>kernel_rfl));(refine' jf ?Pc ?Pd ?_;(case Pc=>exact rfl);(case Pd=>exact rfl));(refine' bx ?Pe ?_;(case Pe=>exact rfl));(refine' cK ?Pf ?Pg ?Ph ?Pj ?Pk ?_;(case Pf=>exact St.F (by assumption));(case Pj=>exact rfl);(case Pg=>exact aW (by kernel_rfl) aR);(case Ph=>exact rfl);(case Pk=>kernel_rfl));refine cT ?_;(refine' yp ?Pn ?Po ?_;(case Pn=>exact St.N (by assumption));(case Po=>exact .tail _ (.tail _ (.tail _ (.tail _ (.tail _ (.tail _ (.tail _ (.tail _ (.tail _ hm))))))))));(refine' iI ?Pp ?Pq ?Pu ?Pw ?Px ?Py ?Pz ?_;(case Pp=>exact St.N (by assumption));(case Pq=>exact rfl);(case Pu=>exact rfl);(case Pw=>exact .tail _ (.tail _ (.tail _ (.tail _ (.tail _ (.tail _ (.head _)))))));(case Px=>assumption);(case Py=>exact rfl);(case Pz=>kernel_rfl));(refine' kW ?Ht ?adh ?PA ?PB ?PC ?PD ?PE ?PF ?PG ?PI ?PJ ?adi ?_;(case Ht=>assumption);(case adh=>assumption);(case PA=>exact .tail _ (.tail _ (.tail _ (.tail _ (.tail _ (.tail _ (.tail _ (.head _))))))));(case PB=>exact ak (ak (ak (ak (ak (ak (ak (ak bO))))))));(case PC=>k_dflt k_is);(case PD=>k_dflt k_is);(case PE=>k_dflt k_is);(case PF=>k_dflt k_is);(case PG=>k_get);(case PI=>k_put);(case PJ=>assumption);(case adi=>exact Nat.le_of_ble_eq_true rfl);((rename St _ _ _ _ _ _ _=>PK);clear PK);intro afz Ht;(try dsimp only at Ht));refine bZ ?_;refine bI ?_;(refine' iH ?PL ?_;(case PL=>exact rfl));(refine' cC ?PM ?_;(case PM=>exact rfl));(refine' d9 ?PN ?PO ?PR ?PS ?PT ?PU ?PV ?PW ?PX ?_;(case PN=>exact St.F (by assumption));(case PO=>assumption);(case PR=>assumption);(case PW=>exact rfl);(case PS=>k_dflt k_is);(case PT=>boot_by_name);(case PU=>decide);(case PV=>exact rfl);(case PX=>kernel_rfl));(refine' gk ?PY ?PZ ?_;(case PY=>exact rfl);(case PZ=>exact rfl);(try dsimp only[List.nil_append,List.cons_append]));(refine' bx ?P0 ?_;(case P0=>exact rfl));(refine' kC ?P4 ?_;(case P4=>with_unfolding_all rfl));(refine' iI ?P5 ?P6 ?P7 ?P8 ?P9 ?Qa ?Qc ?_;(case P5=>exact St.N (by assumption));(case P6=>exact rfl);(case P7=>exact rfl);(case P8=>exact .tail _ (.tail _ (.tail _ (.tail _ (.tail _ (.tail _ (.head _)))))));(case P9=>assumption);(case Qa=>exact rfl);(case Qc=>kernel_rfl));(refine' xR ?Qd ?Qe ?Qg ?Qh ?Qi ?Qj ?Qk ?Ql ?Qn ?Qo ?Qp ?_;(case Qd=>exact St.F (by assumption));(case Qe=>assumption);(case Qg=>exact St.N (by assumption));(case Qh=>exact .tail _ (.tail _ (.tail _ (.tail _ (.tail _ (.tail _ (.tail _ (.head _))))))));(case Qi=>exact .tail _ (.tail _ (.tail _ (.tail _ (.tail _ (.tail _ (.tail _ (.tail _ (.head _)))))))));(case Qj=>k_dflt k_is);(case Qk=>k_dflt k_is);(case Ql=>k_dflt k_is);(case Qn=>k_dflt k_is);(case Qo=>k_get);(case Qp=>k_handed));refine cT ?_;(refine' yo ?Qq ?Qs ?Qt ?_;(case Qq=>exact St.N (by assumption));(case Qs=>exact .tail _ (.tail _ (.tail _ (.tail _ (.tail _ (.tail _ (.tail _ (.tail _ (.tail _ hm)))))))));(case Qt=>exact Nat.le_of_ble_eq_true rfl));(refine' iI ?Qu ?Qv ?Qw ?Qx ?Qy ?Qz ?QA ?_;(case Qu=>exact St.N (by assumption));(case Qv=>exact rfl);(case Qw=>exact rfl);(case Qx=>exact .tail _ (.tail _ (.tail _ (.tail _ (.tail _ (.tail _ (.head _)))))));(case Qy=>assumption);(case Qz=>exact rfl);(case QA=>kernel_rfl));(refine' kW ?Hu ?adj ?QB ?QC ?QD ?QE ?QG ?QH ?QI ?QJ ?QK ?adk ?_;(case Hu=>assumption);(case adj=>assumption);(case QB=>exact .tail _ (.tail _ (.tail _ (.tail _ (.tail _ (.tail _ (.tail _ (.head _))))))));(case QC=>exact ak (ak (ak (ak (ak (ak (ak (ak bO))))))));(case QD=>k_dflt k_is);(case QE=>k_dflt k_is);(case QG=>k_dflt k_is);(case QH=>k_dflt k_is);(case QI=>k_get);(case QJ=>k_put);(case QK=>assumption);(case adk=>exact Nat.le_of_ble_eq_true rfl);((rename St _ _ _ _ _ _ _=>QL);clear QL);intro afA Hu;(try dsimp only at Hu));refine bZ ?_;(refine fu ?_))
 rename St _ _ _ _ _ _ _=>Z
 rw[show(([Value.int 1 m1,Value.int 0 m2].length:Nat):Int)=2 from rfl] at Z
 (((with_reducible refine' yD ?QM ?QN ?QO ?QS ?QT ?QU ?QV ?_);(case QM=>(with_reducible assumption));(case QN=>(with_reducible assumption));(case QO=>(with_reducible assumption));(case QS=>(with_reducible assumption));(case QT=>(with_reducible assumption));(case QU=>(with_reducible assumption));(case QV=>exact aL (aL (aL (aL (aL (aL (aL (aL (aL ee)))))))));intro afB afC afD))
 exact⟨_,rfl,⟨by(((rename ∀p∈_,Ge _ _->p∈_=>QW);refine QW _ ?_ ?_;exact .tail _ (.tail _ (.tail _ (.tail _ (.tail _ (.tail _ (.tail _ (.head _)))))));first|assumption|exact Nat.le_refl _)),by(((rename ∀p∈_,Ge _ _->p∈_=>QX);refine QX _ ?_ ?_;exact .tail _ (.tail _ (.tail _ (.tail _ (.tail _ (.tail _ (.tail _ (.tail _ (.head _))))))));first|assumption|exact Nat.le_refl _)),by(((rename ∀p∈_,Ge _ _->p∈_=>QY);refine QY _ ?_ ?_;exact .tail _ (.tail _ (.tail _ (.tail _ (.head _))));first|assumption|exact Nat.le_refl _)),by(((rename ∀p∈_,Ge _ _->p∈_=>QZ);refine QZ _ ?_ ?_;exact .tail _ (.tail _ (.head _));first|assumption|exact Nat.le_refl _)),by(((rename ∀p∈_,Ge _ _->p∈_=>Q0);refine Q0 _ ?_ ?_;exact .head _;first|assumption|exact Nat.le_refl _))⟩⟩
end
theorem Q2{a b:Int}(h:(a !=b)=true):a≠b:=by simpa using h
theorem DY{a b:Int}(h:(a !=b)=false):a=b:=by simpa using h
theorem n6{q v u u':Int}(hq:1<q)(h:fk q v u)(h':fk q v u'):u=u':=by
 obtain⟨a0,a1,a2,a3⟩:=h
 obtain⟨b0,b1,b2,b3⟩:=h'
 by_cases hv:v%q=0
 ·rw[a2 hv,b2 hv]
 ·have ea:=a3 hv
  have eb:=b3 hv
  have e1:(u*(v*u'))%q=u:=by
   rw[Int.mul_emod,eb,Int.mul_one,Int.emod_emod,Int.emod_eq_of_lt a0 a1]
  have e2:(u'*(v*u))%q=u':=by
   rw[Int.mul_emod,ea,Int.mul_one,Int.emod_emod,Int.emod_eq_of_lt b0 b1]
  have e3:u*(v*u')=u'*(v*u):=by
   rw[Int.mul_left_comm u v u',Int.mul_left_comm u' v u,Int.mul_comm u u']
  rw[<-e1,e3,e2]
noncomputable def iv(q v:Int):Int:=open Classical in if h:∃u,fk q v u then h.choose else 0
theorem DZ{q v u:Int}(hq:1<q)(h:fk q v u):u=iv q v:=by
 have he:∃u,fk q v u:=⟨u,h⟩
 unfold iv
 rw[dif_pos he]
 exact n6 hq h he.choose_spec
theorem yT{q v u:Int}(h:fk q v u):fk q v (iv q v):=by
 have he:∃u,fk q v u:=⟨u,h⟩
 unfold iv
 rw[dif_pos he]
 exact he.choose_spec
section
variable{w:World}{p:Program}{loose:List Str}{aY:ExcName->Option Value}{mg mb:Str->Option Value}
 {dp un:Nat} {gd:Option (List Code)} {cn:Str} {cs:Scope} {a:Addr} {aJ:Value} {cl:List (Str×Addr)} {outer:List Env} {A₀:Around} {base agj:Heap} {L:Addr} {m:Str->Option Value} {nw led:Led} {d:Nat} {Q E:Value->Shared->Prop}
 {h:Heap} {gn:Array GenState} {dr:Drawn} {tk:Nat} {os:OsState}
theorem Hv{x y:Addr}{q q2 a0 a1 b0 b1:Int}(B:Below A₀ base outer agj)(Z:St agj L nw d h m led)(X:(Mine.pre.heap_1 w.params).In agj)(T:Top p loose aY mg mb agj)(hk:cs.kind=.function)(hG:AllBare gn)(hd:dp+15<recursionLimit)(hu:un+150<cLine)(hx:bk led x q a0 a1)(hy:bk led y q2 b0 b1)(ret:yy agj L nw d m led dr os Q fun r=>r=.bool (a0==b0&&a1==b1)):wpAny (MM w) (ktrTop dp un gd cn cs L a aJ cl outer) (call (.ref 352) [.ref x,.ref y]) Q E ⟨h,gn,dr,tk,os⟩:=by
 ((have Zb:=zb Z);(refine' GF [("other",.ref y),("self",.ref x)] B Z X T hk ?ho ?hcd ?hr ?hb ?hl ?c1 ?c2 ?c3 ?c4 ?_);(((case ho=>k_dflt k_is);(case hcd=>k_dflt k_is);(case hr=>exact Nat.lt_of_le_of_lt (Nat.le_add_right _ _) hd);(case hb=>exact BindsTo.of_eq rfl);(case hl=>exact rfl);(case c1=>exact rfl);(case c2=>exact rfl);(case c3=>exact rfl);(case c4=>decide))));clear B Z X T;intro g L' aq tk Z B X T hb hL
 (refine bI ?_;refine pC ?_;refine DC ?_;(refine' fM ?Q3 ?_;(case Q3=>exact rfl));(refine' cC ?Q4 ?_;(case Q4=>exact rfl));(refine' d9 ?Q5 ?Q6 ?Q7 ?Q8 ?Q9 ?Ra ?Rb ?Rc ?Rd ?_;(case Q5=>exact St.F (by assumption));(case Q6=>assumption);(case Q7=>assumption);(case Rc=>exact rfl);(case Q8=>k_dflt k_is);(case Q9=>boot_by_name);(case Ra=>decide);(case Rb=>exact rfl);(case Rd=>kernel_rfl));(refine' gk ?Rf ?Rg ?_;(case Rf=>exact rfl);(case Rg=>exact rfl);(try dsimp only[List.nil_append,List.cons_append]));(refine' bx ?Rh ?_;(case Rh=>exact rfl));(refine' cK ?Ri ?Rj ?Rk ?Rl ?Rm ?_;(case Ri=>exact St.F (by assumption));(case Rl=>exact rfl);(case Rj=>exact aR);(case Rk=>exact rfl);(case Rm=>kernel_rfl));(refine' bx ?Rn ?_;(case Rn=>exact rfl));(refine' rg ?Ro ?Rp ?Rq ?Rr ?Rt ?Ru ?Rv ?_;(case Ro=>exact St.F (by assumption));(case Rp=>assumption);(case Rq=>assumption);(case Ru=>exact rfl);(case Rr=>k_dflt k_is);(case Rt=>exact rfl);(case Rv=>kernel_rfl));refine cT ?_;(refine' jK ?adl ?adm ?adn ?Rw ?_;(case adl=>exact St.F (by assumption));(case adm=>assumption);(case adn=>exact St.N (by assumption));(case Rw=>assumption);intro afE);refine gj ?_;(refine' J1 ?ado ?_;(case ado=>exact rfl));refine fu ?_;refine bZ ?_;refine bI ?_;(refine' DJ ?Rx ?_;(case Rx=>exact fun _=>rfl));(refine' cC ?Ry ?_;(case Ry=>exact rfl));(refine' d9 ?Rz ?RA ?RB ?RC ?RD ?RE ?RG ?RH ?RI ?_;(case Rz=>exact St.F (by assumption));(case RA=>assumption);(case RB=>assumption);(case RH=>exact rfl);(case RC=>k_dflt k_is);(case RD=>boot_by_name);(case RE=>decide);(case RG=>exact rfl);(case RI=>kernel_rfl));(refine' jf ?RJ ?RK ?_;(case RJ=>exact rfl);(case RK=>exact rfl));(refine' bx ?RL ?_;(case RL=>exact rfl));(refine' kC ?RM ?_;(case RM=>with_unfolding_all rfl));(refine' cK ?RN ?RO ?RP ?RQ ?RT ?_;(case RN=>exact St.F (by assumption));(case RQ=>exact rfl);(case RO=>exact aW (by kernel_rfl) aR);(case RP=>exact rfl);(case RT=>kernel_rfl));(refine' yS ?adp ?adq ?RU ?RV ?_;(case adp=>assumption);(case adq=>assumption);(case RU=>assumption);(case RV=>exact ee);intro t348 afF afG n348 afH uz);(refine' bx ?RW ?_;(case RW=>exact rfl));(refine' kC ?RX ?_;(case RX=>with_unfolding_all rfl));(refine' cK ?RY ?R6 ?R7 ?R8 ?R9 ?_;(case RY=>exact St.F (by assumption));(case R8=>exact rfl);(case R6=>exact aR);(case R7=>exact rfl);(case R9=>kernel_rfl));(refine' yS ?ads ?adt ?Sa ?Sb ?_;(case ads=>assumption);(case adt=>assumption);(case Sa=>assumption);(case Sb=>exact ee);intro t356 afI afJ n356 afK yU);refine cT ?_;(refine' DQ ?Sd ?Se ?Sf ?_;(case Sd=>assumption);(case Se=>exact uz);(case Sf=>exact yU);((rename St _ _ _ _ _ _ _=>Si);clear Si);intro z361 afL afM afN afO afP afQ afR Sd afS adu afT afU adv);(refine' ud ?adw ?Sj ?Sk ?_;(case adw=>assumption);(case Sj=>exact .head _);(case Sk=>exact kO));refine jh ?_;(refine' yG ?Hw ?Sl ?Sn ?So ?Sp ?Sq ?Ss ?Su ?Sv ?Sw ?Sx ?Sy ?Sz ?SA ?_;(case Hw=>assumption);(case Sl=>exact .head _);(case Sn=>exact .tail _ (.tail _ (.head _)));(case So=>exact yw);(case Sy=>assumption);(case Sp=>assumption);(case Sq=>assumption);(case Ss=>assumption);(case Su=>exact .tail _ (.tail _ (.tail _ (.tail _ (.tail _ uz)))));(case Sv=>exact .tail _ (.tail _ (.tail _ (.tail _ (.tail _ yU)))));(case Sw=>exact rfl);(case Sx=>exact rfl);(case Sz=>exact rfl);(case SA=>exact rfl);((rename St _ _ _ _ _ _ _=>SD);clear SD);(rename bg _ _ _=>yV);clear yV;(rename bg _ _ _=>yV);clear yV;intro T368 afV afW afX Hw SE Hx afY;(try dsimp only[List.cons_append,List.nil_append] at Hw);(try dsimp only[Nat.zero_add,Nat.reduceAdd] at SE Hx));refine rK ?_;(refine' rR ?Hy ?SG ?SH ?_;(case Hy=>assumption);(case SG=>exact ak bO);(case SH=>assumption);((rename St _ _ _ _ _ _ _=>SI);clear SI);intro afZ Hy;(try dsimp only at Hy));(refine' kU ?SJ ?SK ?SM ?SN ?SO ?_;(case SJ=>assumption);(case SK=>exact .head _);(case SM=>exact rfl);(case SN=>exact rfl);(case SO=>exact rfl);((rename St _ _ _ _ _ _ _=>SQ);clear SQ);intro af0 SJ);refine dX ?_;(refine' yE ?SR ?SS ?SW ?_;(case SR=>assumption);(case SS=>exact rfl);(case SW=>exact rfl);((rename St _ _ _ _ _ _ _=>SX);clear SX);intro af1 SR);refine dX ?_;(refine' yE ?SY ?S0 ?S1 ?_;(case SY=>assumption);(case S0=>exact rfl);(case S1=>exact rfl);((rename St _ _ _ _ _ _ _=>S3);clear S3);intro af2 SY);refine kI ?_;refine bI ?_;refine pC ?_;(refine' pF ?S4 ?_;(case S4=>with_unfolding_all rfl));(refine' cK ?S5 ?S6 ?S7 ?S8 ?S9 ?_;(case S5=>exact St.F (by assumption));(case S8=>exact rfl);(case S6=>exact aW (by kernel_rfl) aR);(case S7=>exact rfl);(case S9=>kernel_rfl));(refine' cK ?Tc ?Td ?Tf ?Tg ?Th ?_;(case Tc=>exact St.F (by assumption));(case Tg=>exact rfl);(case Td=>exact aR);(case Tf=>exact rfl);(case Th=>kernel_rfl));refine Fl ?_;(refine gj ?_))
 refine tN ?_ ?_<;>intro hz
 ·((with_reducible refine bI ?_);(with_reducible refine pB ?_);(with_reducible refine nQ ?_);(with_reducible refine je ?_);(with_reducible refine je ?_);(with_reducible refine rL ?_);(with_reducible refine je ?_))
  (((with_reducible refine' rP ?Tj ?Tn ?To ?Tp ?Tq ?_);(case Tj=>(with_reducible assumption));(case Tn=>(with_reducible assumption));(case To=>(with_reducible assumption));(case Tp=>(with_reducible assumption));(case Tq=>exact aL (aL (aL (aL (aL (aL ee))))))))
  have:=Q2 hz
  simp[this]
 ·(refine fu ?_;refine bZ ?_;refine fu ?_;refine nW ?_;refine jh ?_;(refine' yG ?Hz ?Tr ?Tt ?Tu ?Tv ?Tw ?Tz ?TA ?TF ?TG ?TH ?TJ ?TL ?TM ?_;(case Hz=>assumption);(case Tr=>exact .tail _ (.head _));(case Tt=>exact .tail _ (.tail _ (.tail _ (.head _))));(case Tu=>exact cY yw);(case TJ=>assumption);(case Tv=>assumption);(case Tw=>assumption);(case Tz=>assumption);(case TA=>exact .tail _ (.tail _ (.tail _ (.tail _ (.tail _ (.tail _ uz))))));(case TF=>exact .tail _ (.tail _ (.tail _ (.tail _ (.tail _ (.tail _ yU))))));(case TG=>exact rfl);(case TH=>exact rfl);(case TL=>exact rfl);(case TM=>exact rfl);((rename St _ _ _ _ _ _ _=>TN);clear TN);(rename bg _ _ _=>yW);clear yW;(rename bg _ _ _=>yW);clear yW;intro T430 af3 af4 af5 Hz TP HA af6;(try dsimp only[List.cons_append,List.nil_append] at Hz);(try dsimp only[Nat.zero_add,Nat.reduceAdd] at TP HA));refine rK ?_;(refine' rR ?HC ?TQ ?TR ?_;(case HC=>assumption);(case TQ=>exact ak (ak bO));(case TR=>assumption);((rename St _ _ _ _ _ _ _=>TU);clear TU);intro af7 HC;(try dsimp only at HC));(refine' kU ?TV ?TX ?TY ?TZ ?T3 ?_;(case TV=>assumption);(case TX=>exact .head _);(case TY=>exact rfl);(case TZ=>exact rfl);(case T3=>exact rfl);((rename St _ _ _ _ _ _ _=>T4);clear T4);intro af8 TV);refine dX ?_;(refine' yE ?T5 ?T6 ?T7 ?_;(case T5=>assumption);(case T6=>exact rfl);(case T7=>exact rfl);((rename St _ _ _ _ _ _ _=>T8);clear T8);intro af9 T5);refine dX ?_;(refine' yE ?T9 ?Ua ?Ub ?_;(case T9=>assumption);(case Ua=>exact rfl);(case Ub=>exact rfl);((rename St _ _ _ _ _ _ _=>Uc);clear Uc);intro aga T9);refine kI ?_;refine bI ?_;refine pC ?_;(refine' pF ?Ud ?_;(case Ud=>with_unfolding_all rfl));(refine' cK ?Ue ?Ug ?Uh ?Ui ?Uj ?_;(case Ue=>exact St.F (by assumption));(case Ui=>exact rfl);(case Ug=>exact aW (by kernel_rfl) aR);(case Uh=>exact rfl);(case Uj=>kernel_rfl));(refine' cK ?Uk ?Ul ?Um ?Un ?Uo ?_;(case Uk=>exact St.F (by assumption));(case Un=>exact rfl);(case Ul=>exact aR);(case Um=>exact rfl);(case Uo=>kernel_rfl));refine Fl ?_;(refine gj ?_))
  have h1:=DY hz
  refine tN ?_ ?_<;>intro hz
  ·((with_reducible refine bI ?_);(with_reducible refine pB ?_);(with_reducible refine nQ ?_);(with_reducible refine je ?_);(with_reducible refine je ?_);(with_reducible refine rL ?_);(with_reducible refine je ?_))
   (((with_reducible refine' rP ?Up ?Uq ?Ur ?Us ?Ut ?_);(case Up=>(with_reducible assumption));(case Uq=>(with_reducible assumption));(case Ur=>(with_reducible assumption));(case Us=>(with_reducible assumption));(case Ut=>exact aL (aL (aL (aL (aL (aL (aL ee)))))))))
   have:=Q2 hz
   simp[this]
  ·(refine fu ?_;refine bZ ?_;refine fu ?_;refine nW ?_;refine jh ?_;(refine' GR ?HD ?Uu ?Uv ?Uw ?Ux ?Uy ?Uz ?UA ?UB ?UC ?UD ?_;(case HD=>assumption);(case Uu=>exact .tail _ (.tail _ (.head _)));(case Uv=>exact .tail _ (.tail _ (.tail _ (.tail _ (.head _)))));(case Uw=>exact cY (cY yw));(case UA=>assumption);(case Ux=>assumption);(case Uy=>exact .tail _ (.tail _ (.tail _ (.tail _ (.tail _ (.tail _ (.tail _ uz)))))));(case Uz=>exact rfl);(case UB=>exact rfl);(case UC=>exact rfl);(case UD=>exact rfl);((rename St _ _ _ _ _ _ _=>UE);clear UE);(rename bg _ _ _=>yX);clear yX;(rename bg _ _ _=>yX);clear yX;intro agb HD;(try dsimp only[List.cons_append,List.nil_append] at HD));refine tQ ?_;refine bZ ?_;refine bI ?_;refine pB ?_;refine nQ ?_;(refine je ?_))
   have h2:=DY hz
   (((with_reducible refine' rP ?UG ?UH ?UI ?UJ ?UK ?_);(case UG=>(with_reducible assumption));(case UH=>(with_reducible assumption));(case UI=>(with_reducible assumption));(case UJ=>(with_reducible assumption));(case UK=>exact aL (aL ee))))
   simp[h1,h2]
end
noncomputable def aF(q:Int)(x y:Int×Int):Int×Int:=((x.1*y.1-x.2*y.2).fmod q,(x.1*y.2+x.2*y.1).fmod q)
noncomputable def jS(q:Int):Nat->Nat->Int×Int->Int×Int->Int×Int
 |0,_,o,_=>o
 |k+1,n,o,t=>if n=0 then o else jS q k (n/2) (if n%2=1 then aF q o t else o) (aF q t t)
noncomputable def dN(q:Int)(n:Nat)(o t:Int×Int):Int×Int:=jS q n n o t
theorem uA{q:Int}:∀(k n:Nat),n<=k->∀o t,jS q (k+1) n o t=jS q k n o t
 |0,n,h,o,t=>by cases Nat.le_zero.mp h;rfl
 |k+1,n,h,o,t=>by
  show(if n=0 then o else jS q (k+1) (n/2) (if n%2=1 then aF q o t else o) (aF q t t))=if n=0 then o else jS q k (n/2) (if n%2=1 then aF q o t else o) (aF q t t)
  rw[uA k (n/2) (Nat.le_of_lt_succ (Nat.div_lt_of_lt_mul (Nat.lt_of_le_of_lt h (by rw[Nat.two_mul];exact Nat.lt_add_of_pos_left (Nat.succ_pos _)))))]
theorem qq{q:Int}(n:Nat):∀d o t,jS q (n+d) n o t=jS q n n o t
 |0,_,_=>rfl
 |d+1,o,t=>(uA _ _ (Nat.le_add_right n d) o t).trans (qq n d o t)
theorem j9{q:Int}(n:Nat)(o t:Int×Int):dN q n o t=if n=0 then o else dN q (n/2) (if n%2=1 then aF q o t else o) (aF q t t):=by
 cases n with
 |zero=>rfl
 |succ m=>
  have h:(m+1)/2<=m:=by exact Nat.le_of_lt_succ (Nat.div_lt_self (Nat.le_add_left _ _) (Nat.le_refl _))
  show(if m+1=0 then o else jS q m ((m+1)/2) (if(m+1)%2=1 then aF q o t else o) (aF q t t))=if m+1=0 then o else jS q ((m+1)/2) ((m+1)/2) (if(m+1)%2=1 then aF q o t else o) (aF q t t)
  have e:jS q m ((m+1)/2)=jS q ((m+1)/2) ((m+1)/2):=by
   funext a b
   have:=qq (q:=q) ((m+1)/2) (m-(m+1)/2) a b
   rwa[Nat.add_sub_cancel' h] at this
  rw[e]
def bP(q:Int)(x:Int×Int):Prop:=0<=x.1/\x.1<q/\0<=x.2/\x.2<q
theorem bP.mul{q:Int}(hq:0<q)(x y:Int×Int):bP q (aF q x y):=
 ⟨Int.fmod_nonneg_of_pos _ hq,Int.fmod_lt_of_pos _ hq,Int.fmod_nonneg_of_pos _ hq,Int.fmod_lt_of_pos _ hq⟩
theorem UL{n:Nat}:(Builtin.bitAnd (n:Int) 1 !=0)=decide (n%2=1):=by
 have h:Builtin.bitAnd (n:Int) 1=((n%2:Nat):Int):=by
  have:=bitAnd_pp (x:=(n:Int)) (y:=1) (Int.natCast_nonneg _) (by decide)
  rw[this]
  simp[Nat.and_one_is_mod]
 rw[h]
 rcases Nat.mod_two_eq_zero_or_one n with e|e<;>simp[e]
theorem HE{q v:Int}(hq:1<q)(h:∃u,fk q v u)(h0:0<v)(h1:v<q):0<iv q v/\iv q v<q:=by
 obtain⟨u,hu⟩:=h
 have hi:=yT hu
 obtain⟨a,b,c,d⟩:=hi
 refine⟨?_,b⟩
 have hv:v%q≠0:=by rw[Int.emod_eq_of_lt (eT h0) h1];exact lu h0
 have:=d hv
 rcases Int.lt_or_eq_of_le a with h|h
 ·exact h
 ·rw[<-h] at this;simp at this
noncomputable def fR(q a0 a1:Int):Int×Int×Int:=
 if a1=0 then(1,0,a0) else if(-(a0*iv q a1)).fmod q=0 then(0,(-iv q a1).fmod q,1)
 else(1,(-((-iv q a1).fmod q*(a1*iv q ((-(a0*iv q a1)).fmod q)).fmod q)).fmod q,(a0-(a1*iv q ((-(a0*iv q a1)).fmod q)).fmod q).fmod q)
theorem fmm{q:Int}(hq:0<q)(a b:Int):((a.fmod q)*b).fmod q=(a*b).fmod q:=by
 rw[Int.fmod_eq_emod_of_nonneg _ (eT hq),Int.fmod_eq_emod_of_nonneg _ (eT hq),Int.fmod_eq_emod_of_nonneg _ (eT hq),Int.mul_emod,Int.emod_emod,<-Int.mul_emod]
noncomputable def n7(q:Int)(b:Int×Int):Int×Int:=(((fR q b.1 b.2).1*iv q (fR q b.1 b.2).2.2).fmod q,((fR q b.1 b.2).2.1*iv q (fR q b.1 b.2).2.2).fmod q)
noncomputable def dI(q:Int)(a b:Int×Int):Int×Int:=aF q a (n7 q b)
structure Qf(q:Int):Prop where
 one:1<q
 Cf:Cop q
 sm:Sm 400 q
inductive F2(D:Led)(x:Addr)(q:Int)(v:Int×Int):Prop
 |mk(h:bk D x q v.1 v.2)(r:bP q v):F2 D x q v
inductive F1(D:Led)(x:Addr)(q:Int)(v:Int):Prop
 |mk(h:gi D x q v)(h0:0<=v)(h1:v<q):F1 D x q v
theorem F2.is{D:Led}{x:Addr}{q:Int}{v:Int×Int}(h:F2 D x q v):bk D x q v.1 v.2:=let⟨a,_⟩:=h;a
theorem F2.inq{D:Led}{x:Addr}{q:Int}{v:Int×Int}(h:F2 D x q v):bP q v:=let⟨_,a⟩:=h;a
theorem F1.is{D:Led}{x:Addr}{q v:Int}(h:F1 D x q v):gi D x q v:=let⟨a,_,_⟩:=h;a
theorem F1.lo{D:Led}{x:Addr}{q v:Int}(h:F1 D x q v):0<=v:=let⟨_,a,_⟩:=h;a
theorem F1.hi{D:Led}{x:Addr}{q v:Int}(h:F1 D x q v):v<q:=let⟨_,_,a⟩:=h;a
theorem F2.mono{D D':Led}{x:Addr}{q:Int}{v:Int×Int}(h:F2 D x q v)(k:∀p∈D,p∈D'):F2 D' x q v:=⟨h.is.mono k,h.inq⟩
theorem F1.mono{D D':Led}{x:Addr}{q v:Int}(h:F1 D x q v)(k:∀p∈D,p∈D'):F1 D' x q v:=⟨h.is.mono k,h.lo,h.hi⟩
noncomputable def cG(q:Int)(a b:Int×Int):Int×Int:=((a.1+b.1).fmod q,(a.2+b.2).fmod q)
noncomputable def qs(q:Int)(a b:Int×Int):Int×Int:=((a.1-b.1).fmod q,(a.2-b.2).fmod q)
noncomputable def bW(q:Int)(a:Int×Int):Int×Int:=((-a.1).fmod q,(-a.2).fmod q)
noncomputable def n8(q:Int)(a:Int×Int)(i:Int):Int×Int:=((a.1*i).fmod q,(a.2*i).fmod q)
theorem eV{q:Int}(hq:0<q)(a b:Int):bP q (a.fmod q,b.fmod q):=⟨Int.fmod_nonneg_of_pos _ hq,Int.fmod_lt_of_pos _ hq,Int.fmod_nonneg_of_pos _ hq,Int.fmod_lt_of_pos _ hq⟩
theorem bP.pow{q:Int}(hq:0<q):∀(n:Nat) (o t:Int×Int),bP q o->bP q (dN q n o t):=by
 intro n
 induction n using Nat.strongRecOn with
 |_ n ih=>
  intro o t ho
  rw[j9]
  split
  ·exact ho
  ·refine ih _ (by omega) _ _ ?_
   split
   ·exact bP.mul hq _ _
   ·exact ho
section
variable{w:World}{p:Program}{loose:List Str}{aY:ExcName->Option Value}{mg mb:Str->Option Value}
 {dp un:Nat} {gd:Option (List Code)} {cn:Str} {cs:Scope} {a:Addr} {aJ:Value} {cl:List (Str×Addr)} {outer:List Env} {A₀:Around} {base agj:Heap} {L:Addr} {m:Str->Option Value} {nw led:Led} {d:Nat} {Q E:Value->Shared->Prop}
 {h:Heap} {gn:Array GenState} {dr:Drawn} {tk:Nat} {os:OsState}
theorem UM{x y:Addr}{q q2:Int}{va vb:Int×Int}(B:Below A₀ base outer agj)(Z:St agj L nw d h m led)(X:(Mine.pre.heap_1 w.params).In agj)(T:Top p loose aY mg mb agj)(hk:cs.kind=.function)(hG:AllBare gn)(hd:dp+15<recursionLimit)(hu:un+150<cLine)(hx:F2 led x q va)(hy:F2 led y q2 vb)(ret:yy agj L nw d m led dr os Q fun r=>r=.bool (va.1==vb.1&&va.2==vb.2)):wpAny (MM w) (ktrTop dp un gd cn cs L a aJ cl outer) (call (.ref 352) [.ref x,.ref y]) Q E ⟨h,gn,dr,tk,os⟩:=
 Hv B Z X T hk hG hd hu hx.is hy.is ret
end
noncomputable def dm(a b:Int×Int):Bool:=a.1==b.1&&a.2==b.2
noncomputable def ly(q:Int)(x y z b:Int×Int):Bool:=if z=(0,0) then true else
 dm (qs q (aF q (dN q 2 (1,0) y) z) (dN q 3 (1,0) x)) (aF q b (dN q 3 (1,0) z))
section
variable{w:World}{A:Around}{E:Value->Shared->Prop}{env:Env}{Q:Value->Shared->Prop}{s:Shared}
theorem HF{rest pos v}(k:wpAny (MM w) A (eval (.BoolOp .And rest pos) env) Q E s):pA w A env rest pos v Q E true s:=k
theorem HG{rest pos v}(k:Q v s):pA w A env rest pos v Q E false s:=k
theorem UN{rest pos v}(k:Q v s):xG w A env rest pos v Q E true s:=k
theorem UO{rest pos v}(k:wpAny (MM w) A (eval (.BoolOp .Or rest pos) env) Q E s):xG w A env rest pos v Q E false s:=k
end
noncomputable def cR(z:Int)(n:Nat):Bool:=Builtin.bitAnd (z.fdiv (2 ^ n)) 1 !=0
noncomputable def uB(q x y z:Int):Int:=if z=0 then 2 ^ 383+2 ^ 382 else(x*iv q z).fmod q+((y*iv q z).fmod q*2).fdiv q*2 ^ 381+2 ^ 383
section
variable{w:World}{A:Around}{E:Value->Shared->Prop}{env:Env}{h:Heap}{gn:Array GenState}{dr:Drawn}{tk:Nat}{os:OsState}
theorem UP{i:Nat}{a n:Int}{t u:Tok}{Q:Value->Shared->Prop}(hn:0<=n)(sa:Sm i a)(hi:(i:Int)*n<=2 ^ 27)(k:Q (.int (a ^ n.toNat) tk) ⟨h,gn,dr,tk+1,os⟩):
  wpAny (MM w) A (binaryOp .Pow (.int a t) (.int n u)) Q E ⟨h,gn,dr,tk,os⟩:=by
 have hb:=sa.bits
 refine pow_int hn (Int.le_trans (Int.mul_le_mul_of_nonneg_right (Int.ofNat_le.mpr hb) hn) hi) k
theorem yY{b:Bool}{Q:Value->Shared->Prop}(k:Q (.int (if b then 1 else 0) tk) ⟨h,gn,dr,tk+1,os⟩):wpAny (MM w) A (call (.type "int") [.bool b]) Q E ⟨h,gn,dr,tk,os⟩:=call_int_bool k
theorem yZ{b:Bool}:Sm 64 (if b then 1 else 0):=by cases b<;>exact Sm.lit (by decide) (by decide)
theorem UQ{c1:Str}{k1 p1 p2 pos}{value:Expr}{Q:Value->Shared->Prop}(hc:c1.length<=1000)
  (k:wpAny (MM w) A (eval value env) (fun v aC=>∃x t aN,v=.int x t/\Sm 1900 x/\aC=⟨h,gn,dr,aN,os⟩) E ⟨h,gn,dr,tk+1,os⟩) (k2:∀v aN,Q v ⟨h,gn,dr,aN,os⟩):
  wpAny (MM w) A (eval (.JoinedStr [.Constant (.str c1) k1 p1,.FormattedValue value (-1) none p2] pos) env) Q E ⟨h,gn,dr,tk,os⟩:=by
 refine JoinedStr_many (joinParts_cons (wpAny_Constant_str ?_))
 have e1:(Str.empty++c1).length=c1.length:=by rw[strLen_append];exact Nat.zero_add _
 refine⟨by rw[e1,sizeLine_eq];exact pq hc,joinParts_cons (FormattedValue_plain (wpAny_mono k ?_ fun _ _ e=>e))⟩
 rintro v aC ⟨x,t,aN,rfl,sx,rfl⟩
 have hl:x.natAbs.log2<1920:=by
  by_cases h0:x.natAbs=0
  ·rw[h0];decide +kernel
  ·have:=(Nat.log2_lt h0).mpr sx
   exact Nat.le_trans this (Nat.le_add_left _ _)
 refine wpAny_formatField_int hl ?_
 have e3:=int_text_length_le (k:=1920) (by decide) hl
 have e2:(Str.empty++c1++Str.ofString (toString x)).length<=sizeLine:=by
  rw[strLen_append,e1,PySem.ofString_length,sizeLine_eq];exact Nat.le_trans (Nat.add_le_add hc e3) (by decide)
 exact⟨e2,joinParts_nil (k2 _ _) e2⟩
end
noncomputable def lz(q c z:Int):Option (Int×Int×Int):=
 if cR z 383=false then none else
 if cR z 382≠decide (z.fmod (2 ^ 381)=0) then none else
 if z.fmod (2 ^ 381)=0 then(if cR z 381 then none else some (1,1,0)) else
 if q<=z.fmod (2 ^ 381) then none else
 if ef (ef ((z.fmod (2 ^ 381) ^ 3+c).fmod q) ((q+1).fdiv 4) q) 2 q≠(z.fmod (2 ^ 381) ^ 3+c).fmod q then none else
 some ((z.fmod (2 ^ 381)).fmod q,(if((ef ((z.fmod (2 ^ 381) ^ 3+c).fmod q) ((q+1).fdiv 4) q)*2).fdiv q≠(if cR z 381 then 1 else 0) then q-ef ((z.fmod (2 ^ 381) ^ 3+c).fmod q) ((q+1).fdiv 4) q else ef ((z.fmod (2 ^ 381) ^ 3+c).fmod q) ((q+1).fdiv 4) q).fmod q,1)
theorem n9{a b c:Int}(hc:0<c):0<=ef a b c:=Int.emod_nonneg _ (lu hc)
theorem oh{a b c:Int}(hc:0<c):ef a b c<c:=Int.emod_lt_of_pos _ hc
theorem rT{p q:Addr×Obj}{agj h:Heap}{L:Addr}{led:Led}(N:News agj L h led)(hp:p∈led)(hq:q∈led)(e:p.1=q.1):p.2=q.2:=by
 have a:=(N p hp).1
 have b:=(N q hq).1
 rw[e,b] at a
 exact(Option.some.inj a).symm
theorem HH{agj h:Heap}{L:Addr}{led:Led}{x:Addr}{q q2:Int}{va vb:Int×Int}(N:News agj L h led)(h1:F2 led x q va)(h2:F2 led x q2 vb):va=vb:=by
 obtain⟨h1,_⟩:=h1
 obtain⟨h2,_⟩:=h2
 obtain⟨a1,a2,_,_,a5,_⟩:=h1
 obtain⟨b1,b2,_,_,b5,_⟩:=h2
 have e1:=rT N a1 b1 rfl
 simp[instObj] at e1
 subst e1
 have e2:=rT N a2 b2 rfl
 simp[dictOf] at e2
 have e4:=e2.1.2.2.1.2.2
 subst e4
 have e5:=rT N a5 b5 rfl
 simp at e5
 obtain⟨x1,x2⟩:=va
 obtain⟨y1,y2⟩:=vb
 simp_all
theorem y9(a:Int×Int):dm a a=true:=by unfold dm;simp
noncomputable def L2(led:Led)(q:Int):List Value->List (Int×Int)->Prop
 |[],[]=>True
 |v::vs,a::as=>(∃x,v=.ref x/\F2 led x q a)/\L2 led q vs as
 |_,_=>False
theorem L2.length{D:Led}{q:Int}:∀{vs:List Value} {as:List (Int×Int)},L2 D q vs as->vs.length=as.length
 |[],[],_=>rfl
 |_::_,_::_,⟨_,r⟩=>congrArg (·+1) r.length
 |[],_::_,h=>h.elim
 |_::_,[],h=>h.elim
theorem L2.at{D:Led}{q:Int}:∀{vs:List Value} {as:List (Int×Int)} {i:Nat} (hv:i<vs.length) (ha:i<as.length),L2 D q vs as->∃x,vs[i]=.ref x/\F2 D x q as[i]
 |_::_,_::_,0,_,_,⟨h,_⟩=>h
 |_::vs,_::as,i+1,hv,ha,⟨_,r⟩=>L2.at (vs:=vs) (as:=as) (i:=i) (by simpa using hv) (by simpa using ha) r
 |[],_,_,hv,_,_=>absurd hv (Nat.not_lt_zero _)
 |_::_,[],_,_,_,h=>h.elim
section
variable{w:World}{p:Program}{loose:List Str}{aY:ExcName->Option Value}{mg mb:Str->Option Value}
 {dp un:Nat} {gd:Option (List Code)} {cn:Str} {cs:Scope} {a:Addr} {aJ:Value} {cl:List (Str×Addr)} {outer:List Env} {A₀:Around} {base agj:Heap} {L:Addr} {m:Str->Option Value} {nw led:Led} {d:Nat} {Q E:Value->Shared->Prop}
 {h:Heap} {gn:Array GenState} {dr:Drawn} {tk:Nat} {os:OsState}
theorem HJ{x y:Addr}{q q2:Int}{va vb:Int×Int}{Qb:Bool->Shared->Prop}(B:Below A₀ base outer agj)(Z:St agj L nw d h m led)(X:(Mine.pre.heap_1 w.params).In agj)(T:Top p loose aY mg mb agj)(hk:cs.kind=.function)(hG:AllBare gn)(hd:dp+20<recursionLimit)(hu:un+200<cLine)(hx:F2 led x q va)(hy:F2 led y q2 vb)
  (ret:∀h' bB aN,St agj L nw d h' m led->AllBare bB->Qb (dm va vb) ⟨h',bB,dr,aN,os⟩):wpAny (MM w) (ktrTop dp un gd cn cs L a aJ cl outer) (eqBool (.ref x) (.ref y)) Qb E ⟨h,gn,dr,tk,os⟩:=by
 unfold eqBool
 refine wpAny_holding ?_
 by_cases e:x=y
 ·subst e
  have e2:=HH Z.N hx hy
  subst e2
  rw[if_pos (by simp)]
  refine wpAny_bind (wpAny_rule (wpAny_pure ?_))
  have:=ret h gn tk Z hG
  rwa[y9] at this
 ·rw[if_neg (by simp[e])]
  refine wpAny_bind ?_
  obtain⟨fz,cI,kF,kH,jZ,jg⟩:=hx.is
  obtain⟨o8,jz,Fw,Kp,Kq,Kr⟩:=hy.is
  refine' cmp_K (s:=⟨h,gn,dr,tk,os⟩) (show un<cLine by exact Nat.lt_of_le_of_lt (Nat.le_add_right _ _) hu) Z.F X (InstAt.of_news Z.N fz cI) (InstAt.type (InstAt.of_news Z.N o8 jz)) ?k5 ?k6 ?k7 ?_
  (case k5=>k_dflt k_is)
  (case k6=>k_dflt k_is)
  (case k7=>k_dflt k_is)
  refine UM B Z X T hk hG (Nat.lt_of_le_of_lt (Nat.add_le_add_left (by decide) _) hd) (Nat.lt_of_le_of_lt (Nat.add_le_add_left (by decide) _) hu) hx hy ?_
  intro r h' bB aN Z' q7 hr
  subst hr
  exact wpAny_truthy_bool (ret h' bB aN Z' q7)
theorem wM{x l:Addr}{vs:List Value}{n:Nat}{as:List (Int×Int)}{va:Int×Int}{q q2:Int}{R:Result->Shared->Prop}(B:Below A₀ base outer agj)(X:(Mine.pre.heap_1 w.params).In agj)(T:Top p loose aY mg mb agj)(hk:cs.kind=.function)(hd:dp+20<recursionLimit)(hu:un+300<cLine)
  (hl:(l,ay vs n)∈led) (hv:L2 led q vs as) (hx:F2 led x q2 va) (hz:vs.length<=1000)
  (ret:∀h' bB aN,St agj L nw d h' m led->AllBare bB->R (.ok (.ret (.bool (as.any fun b=>dm b va)))) ⟨h',bB,dr,aN,os⟩) (hR:∀(e:Value) (s':Shared),E e s'->R (.error e) s'):
  ∀(k i:Nat),vs.length-i=k->(as.take i).any (fun b=>dm b va)=false->∀(h:Heap) (gn:Array GenState) (tk:Nat),St agj L nw d h m led->AllBare gn->
  wpAny (MM w) (ktrTop dp (un+1) gd cn cs L a aJ cl outer) (Builtin.«list.__contains__.loop» ⟨[.ref l,.ref x,rawInt i],[]⟩)
   (fun fin s'=>match fin with| .done f=>R (.ok f) s'| .again c'=>c'.quiet=true/\codeAny (MM w) (ktrTop dp un gd cn cs L a aJ cl outer) c' R s') (fun e s'=>R (.error e) s') ⟨h,gn,dr,tk,os⟩:=by
 intro k
 induction k with
 |zero=>
  intro i hi ha h gn tk Z hG
  have wN:=(Z.N _ hl).1
  have hn:vs.toArray[((i:Nat):Int).toNat]?=none:=by simp;exact Nat.le_of_sub_eq_zero hi
  have hlen:=hv.length
  rw[List.take_of_length_le (hlen▸Nat.le_of_sub_eq_zero hi)] at ha
  have h2:=ret h gn tk Z hG
  rw[ha] at h2
  wp_walk using PySem.AutoSeq1.wpAny_loadPart' wN
  rw[hn]
  wp_walk
  exact h2
 |succ k ih=>
  intro i hi ha h gn tk Z hG
  have wN:=(Z.N _ hl).1
  have cO:i<vs.length:=by exact Nat.sub_pos_iff_lt.mp (hi▸Nat.succ_pos _)
  have hlen:=hv.length
  have hn:vs.toArray[((i:Nat):Int).toNat]?=some vs[i]:=by simp[cO]
  obtain⟨y,hy,hf⟩:=hv.at cO (Nat.le_trans cO (Nat.le_of_eq hlen))
  wp_walk using PySem.AutoSeq1.wpAny_loadPart' wN
  rw[hn,hy]
  refine wpAny_bind (HJ (un:=un+1) B Z X T hk hG (hd) (Hj hu) hf hx fun h' bB aN Z' q7=>?_)
  have ht:as.take (i+1)=as.take i++[as[i]]:=by rw[List.take_succ_eq_append_getElem (Nat.le_trans cO (Nat.le_of_eq hlen))]
  cases hb:dm as[i] va with
  |true=>
   have h2:=ret h' bB aN Z' q7
   have:as.any (fun b=>dm b va)=true:=List.any_eq_true.mpr ⟨as[i],List.getElem_mem _,hb⟩
   rw[this] at h2
   wp_walk
   exact h2
  |false=>
   have hc:((i:Int)+1)=((i+1:Nat):Int):=by push_cast;rfl
   wp_walk
   rw[hc]
   exact⟨plainId_quiet PySem.MeetsSeq.plain_contains_loop _,codeAny_builtin PySem.MeetsSeq.entry_contains_loop (by
    rw[Around.under_plainId PySem.MeetsSeq.plain_contains_loop _]
    exact ih (i+1) (congrArg Nat.pred hi) (by rw[ht,List.any_append,ha];simp[hb]) h' bB aN Z' q7)⟩
theorem UR{x l:Addr}{vs:List Value}{n:Nat}{as:List (Int×Int)}{va:Int×Int}{q q2:Int}(B:Below A₀ base outer agj)(Z:St agj L nw d h m led)(X:(Mine.pre.heap_1 w.params).In agj)(T:Top p loose aY mg mb agj)(hk:cs.kind=.function)(hG:AllBare gn)(hd:dp+20<recursionLimit)(hu:un+400<cLine)(hl:(l,ay vs n)∈led)(hv:L2 led q vs as)(hx:F2 led x q2 va)(hz:vs.length<=1000)
  (ret:∀h' bB aN,St agj L nw d h' m led->AllBare bB->Q (.bool (as.any fun b=>dm b va)) ⟨h',bB,dr,aN,os⟩):wpAny (MM w) (ktrTop dp un gd cn cs L a aJ cl outer) (compareOp .In (.ref x) (.ref l)) Q E ⟨h,gn,dr,tk,os⟩:=by
 have wN:=(Z.N _ hl).1
 have hT:(⟨h,gn,dr,tk,os⟩:Shared).TypeIs (.ref l) "list":=⟨_,wN,rfl⟩
 show wpAny _ _ (do return .bool (<-contains (.ref l) (.ref x))) Q E _
 refine wpAny_bind (wpAny_contains_slot hT F.slot_list_contains ?_)
 refine wpAny_call (codeAny_call_builtin F.slot_list_contains.plain F.entry_list_contains (F.slot_list_contains.check _ _ _ _ _ _ _ _ hT (F.args_list_contains_2 _ _) ?_))
 wp_walk using PySem.AutoSeq1.wpAny_loadPart' wN
 refine⟨plainId_quiet PySem.MeetsSeq.plain_contains_loop _,codeAny_builtin PySem.MeetsSeq.entry_contains_loop (by
  rw[Around.under_plainId PySem.MeetsSeq.plain_contains_loop _]
  refine wM (E:=E) (R:=wants _ E) B X T hk (by omega) (show un+300<cLine by exact Nat.lt_of_le_of_lt (Nat.add_le_add_left (by decide) _) hu) hl hv hx hz (fun h' bB aN Z' q7=>?_) (fun _ _ e=>e) _ 0 rfl (by simp) h gn tk Z hG
  exact wpAny_truthy_bool (wpAny_pure (ret h' bB aN Z' q7)))⟩
theorem za{x l:Addr}{vs:List Value}{n j:Nat}{as:List (Int×Int)}{va:Int×Int}{q q2 stop:Int}{R:Result->Shared->Prop}(B:Below A₀ base outer agj)(X:(Mine.pre.heap_1 w.params).In agj)(T:Top p loose aY mg mb agj)(hk:cs.kind=.function)(hd:dp+20<recursionLimit)(hu:un+300<cLine)
  (hl:(l,ay vs n)∈led) (hv:L2 led q vs as) (hx:F2 led x q2 va) (hz:vs.length<=1000) (hj:j<as.length) (cU:(j:Int)<stop) (hit:dm as[j] va=true) (US:∀i (hi:i<as.length),i<j->dm as[i] va=false)
  (ret:∀h' bB aN,St agj L nw d h' m led->AllBare bB->R (.ok (.ret (.int j aN))) ⟨h',bB,dr,aN+1,os⟩) (hR:∀(e:Value) (s':Shared),E e s'->R (.error e) s'):
  ∀(k i:Nat),j-i=k->i<=j->∀(h:Heap) (gn:Array GenState) (tk:Nat),St agj L nw d h m led->AllBare gn->
  wpAny (MM w) (ktrTop dp (un+1) gd cn cs L a aJ cl outer) (Builtin.«list.index.loop» ⟨[.ref l,.ref x,rawInt i,rawInt stop],[]⟩)
   (fun fin s'=>match fin with| .done f=>R (.ok f) s'| .again c'=>c'.quiet=true/\codeAny (MM w) (ktrTop dp un gd cn cs L a aJ cl outer) c' R s') (fun e s'=>R (.error e) s') ⟨h,gn,dr,tk,os⟩:=by
 intro k
 induction k with
 |zero=>
  intro i hi Jv h gn tk Z hG
  have adx:i=j:=by exact Nat.le_antisymm Jv (Nat.le_of_sub_eq_zero hi)
  subst adx
  have wN:=(Z.N _ hl).1
  have hlen:=hv.length
  have cO:i<vs.length:=by exact Nat.le_trans hj (Nat.le_of_eq (Eq.symm hlen))
  obtain⟨y,hy,hf⟩:=hv.at cO hj
  wp_walk using PySem.AutoSeq1.wpAny_loadPart' wN
  have hn:(if(i:Int)<stop then vs.toArray[((i:Nat):Int).toNat]? else none)=some vs[i]:=by simp[cU,cO]
  rw[hn,hy]
  refine wpAny_bind (HJ (un:=un+1) B Z X T hk hG (hd) (Hj hu) hf hx fun h' bB aN Z' q7=>?_)
  rw[hit]
  wp_walk
  exact ret h' bB aN Z' q7
 |succ k ih=>
  intro i hi Jv h gn tk Z hG
  have wN:=(Z.N _ hl).1
  have hlen:=hv.length
  have cO:i<vs.length:=by exact hlen▸Nat.lt_of_le_of_lt Jv hj
  obtain⟨y,hy,hf⟩:=hv.at cO (Nat.le_trans cO (Nat.le_of_eq hlen))
  wp_walk using PySem.AutoSeq1.wpAny_loadPart' wN
  have hn:(if(i:Int)<stop then vs.toArray[((i:Nat):Int).toNat]? else none)=some vs[i]:=by simp[show(i:Int)<stop by exact Int.lt_of_le_of_lt (Int.ofNat_le.mpr Jv) cU,cO]
  have hc:((i:Int)+1)=((i+1:Nat):Int):=by push_cast;rfl
  rw[hn,hy]
  refine wpAny_bind (HJ (un:=un+1) B Z X T hk hG (hd) (Hj hu) hf hx fun h' bB aN Z' q7=>?_)
  rw[US i (Nat.le_trans cO (Nat.le_of_eq hlen)) (Nat.sub_pos_iff_lt.mp (hi▸Nat.succ_pos _))]
  wp_walk
  rw[hc]
  exact⟨plainId_quiet PySem.MeetsSeq.plain_index_loop _,codeAny_builtin PySem.MeetsSeq.entry_index_loop (by
   rw[Around.under_plainId PySem.MeetsSeq.plain_index_loop _]
   exact ih (i+1) (congrArg Nat.pred hi) (Nat.sub_pos_iff_lt.mp (hi▸Nat.succ_pos _)) h' bB aN Z' q7)⟩
theorem HK{x l:Addr}{vs:List Value}{n j:Nat}{as:List (Int×Int)}{va:Int×Int}{q q2:Int}(B:Below A₀ base outer agj)(Z:St agj L nw d h m led)(X:(Mine.pre.heap_1 w.params).In agj)(T:Top p loose aY mg mb agj)(hk:cs.kind=.function)(hG:AllBare gn)(hd:dp+20<recursionLimit)(hu:un+400<cLine)(hl:(l,ay vs n)∈led)(hv:L2 led q vs as)(hx:F2 led x q2 va)(hz:vs.length<=1000)(hj:j<as.length)(hit:dm as[j] va=true)(US:∀i (hi:i<as.length),i<j->dm as[i] va=false)
  (ret:∀h' bB aN,St agj L nw d h' m led->AllBare bB->Q (.int j aN) ⟨h',bB,dr,aN+1,os⟩):wpAny (MM w) (ktrTop dp un gd cn cs L a aJ cl outer) (call (.builtin "list.index") [.ref l,.ref x]) Q E ⟨h,gn,dr,tk,os⟩:=by
 have wN:=(Z.N _ hl).1
 have hT:(⟨h,gn,dr,tk,os⟩:Shared).TypeIs (.ref l) "list":=⟨_,wN,rfl⟩
 have hlen:=hv.length
 refine wpAny_call (codeAny_call_builtin F.slot_list_index.plain F.entry_list_index (F.slot_list_index.check _ _ _ _ _ _ _ _ hT (F.args_list_index_2 _ _) ?_))
 wp_walk using PySem.AutoSeq1.wpAny_loadPart' wN
 have a1:((fun i:Int=>if i<0 then max 0 (i+(vs.toArray.size:Int)) else i) ((none:Option Int).getD 0))=((0:Nat):Int):=by simp
 have a2:((fun i:Int=>if i<0 then max 0 (i+(vs.toArray.size:Int)) else i) ((none:Option Int).getD (2 ^ 63-1)))=2 ^ 63-1:=by simp
 rw[a1,a2]
 refine⟨plainId_quiet PySem.MeetsSeq.plain_index_loop _,codeAny_builtin PySem.MeetsSeq.entry_index_loop (by
  rw[Around.under_plainId PySem.MeetsSeq.plain_index_loop _]
  refine za (E:=E) (R:=wants Q E) (stop:=2 ^ 63-1) B X T hk (by omega) (show un+300<cLine by exact Nat.lt_of_le_of_lt (Nat.add_le_add_left (by decide) _) hu) hl hv hx hz hj (Int.lt_of_lt_of_le (Int.ofNat_lt.mpr (Nat.lt_of_lt_of_le hj (hlen▸hz))) (by decide)) hit US (fun h' bB aN Z' q7=>?_) (fun _ _ e=>e) _ 0 rfl (Nat.zero_le _) h gn tk Z hG
  exact ret h' bB aN Z' q7)⟩
end
section
variable{w:World}{A:Around}{agj:Heap}{L:Addr}{E:Value->Shared->Prop}{h:Heap}{gn:Array GenState}{dr:Drawn}{tk:Nat}{os:OsState}{led:Led}
theorem UT{t:Addr}{vs:List Value}{n:Nat}{pl:Sem Bool}{Q:Value×List Value->Shared->Prop}(N:News agj L h led)(hm:(t,ay vs n)∈led)(k:Q (.builtin "list.index",[.ref t]) ⟨h,gn,dr,tk,os⟩):
  wpAny (MM w) A (getMethod (.ref t) ("index") pl) Q E ⟨h,gn,dr,tk,os⟩:=yq N hm PySem.F.slot_list_index PySem.F.type_list_index k
end
noncomputable def iL(es:List (Int×Int))(v:Int×Int):Nat:=es.findIdx (fun b=>dm b v)
noncomputable def gw(es:List (Int×Int)):List (Int×Int):=[es.getD 0 (0,0),es.getD 2 (0,0),es.getD 4 (0,0),es.getD 6 (0,0)]
theorem getD_at{es:List (Int×Int)}{i:Nat}(h:i<es.length):es.getD i (0,0)=es[i]:=by simp[List.getD,h]
theorem uC{es:List (Int×Int)}{v:Int×Int}(hl:es.length=8)(h:(gw es).any (fun b=>dm b v)=true):∃hj:iL es v<es.length,dm es[iL es v] v=true/\∀i (hi:i<es.length),i<iL es v->dm es[i] v=false:=by
 have he:∃b∈es,dm b v=true:=by
  obtain⟨b,hb,e⟩:=List.any_eq_true.mp h
  refine⟨b,?_,e⟩
  unfold gw at hb
  simp only[List.mem_cons,List.not_mem_nil,or_false] at hb
  rcases hb with rfl|rfl|rfl|rfl
  all_goals
   rw[getD_at (by omega)]
   exact List.getElem_mem _
 have hj:iL es v<es.length:=List.findIdx_lt_length_of_exists he
 refine⟨hj,List.findIdx_getElem (w:=hj),fun i hi cO=>?_⟩
 have:=List.not_of_lt_findIdx cO
 simpa using this
noncomputable def HL(a b:Int×Int):Bool:=decide (b.2<a.2)||(a.2==b.2&&decide (b.1<a.1))
noncomputable def iM(q:Int)(v:Int×Int):Int×Int:=dN q ((q ^ 2-1+8).fdiv 16).toNat (1,0) v
noncomputable def gy(q:Int)(v:Int×Int):Int×Int:=dI q (dN q 2 (1,0) (iM q v)) v
noncomputable def ig(q:Int)(es:List (Int×Int))(v:Int×Int):Int×Int:=dI q (iM q v) (es.getD (iL es (gy q v)/2) (0,0))
noncomputable def lA(q:Int)(es:List (Int×Int))(v:Int×Int):Option (Int×Int):=
 if(gw es).any (fun b=>dm b (gy q v)) then some (if HL (ig q es v) (bW q (ig q es v)) then ig q es v else bW q (ig q es v)) else none
theorem oj{q:Int}{es:List (Int×Int)}{v:Int×Int}(h:(gw es).any (fun b=>dm b (gy q v))=true):lA q es v=some (if HL (ig q es v) (bW q (ig q es v)) then ig q es v else bW q (ig q es v)):=by unfold lA;rw[if_pos h]
theorem lB{q:Int}{es:List (Int×Int)}{v:Int×Int}(h:(gw es).any (fun b=>dm b (gy q v))=false):lA q es v=none:=by unfold lA;rw[h];rfl
noncomputable def lC(q:Int)(x y z b:Int×Int):Option (Int×Int):=
 if ly q x y z b=false then none else if z=(0,0) then some (2 ^ 383+2 ^ 382,0) else
 some ((dI q x z).2+((if 0<(dI q y z).2 then(dI q y z).2 else(dI q y z).1)*2).fdiv q*2 ^ 381+2 ^ 383,(dI q x z).1)
theorem Cg{q:Int}{x y z b:Int×Int}(h1:¬ly q x y z b=false)(h2:¬z=(0,0)):lC q x y z b=
 some ((dI q x z).2+((if 0<(dI q y z).2 then(dI q y z).2 else(dI q y z).1)*2).fdiv q*2 ^ 381+2 ^ 383,(dI q x z).1):=by unfold lC;rw[if_neg h1,if_neg h2]
noncomputable def eB(q:Int)(fl:Bool)(y:Int×Int):Int×Int:=
 if(0<y.2/\(y.2*2).fdiv q≠(if fl then 1 else 0))\/(y.2=0/\(y.1*2).fdiv q≠(if fl then 1 else 0)) then((n8 q y (-1)).1.fmod q,(n8 q y (-1)).2.fmod q) else y
noncomputable def UU(q:Int)(vd:Int×Int)(x1 x2:Int):Int×Int:=cG q (dN q 3 (1,0) (x2.fmod q,x1.fmod q)) vd
noncomputable def jT(q:Int)(es:List (Int×Int))(vd:Int×Int)(z1 z2:Int):Option ((Int×Int)×(Int×Int)×(Int×Int)):=
 if cR z1 383=false then none else
 if cR z1 382≠decide (z1.fmod (2 ^ 381)=0/\z2=0) then none else
 if z1.fmod (2 ^ 381)=0/\z2=0 then(if cR z1 381 then none else some ((1,0),(1,0),(0,0))) else
 if q<=z1.fmod (2 ^ 381) then none else if q<=z2 then none else
 match lA q es (UU q vd (z1.fmod (2 ^ 381)) z2) with
 |none=>none
 |some y=>if ly q (z2.fmod q,(z1.fmod (2 ^ 381)).fmod q) (eB q (cR z1 381) y) (1,0) vd=false then none else some ((z2.fmod q,(z1.fmod (2 ^ 381)).fmod q),eB q (cR z1 381) y,(1,0))
theorem qt{q:Int}{fl:Bool}{y:Int×Int}(h:(0<y.2/\(y.2*2).fdiv q≠(if fl then 1 else 0))\/(y.2=0/\(y.1*2).fdiv q≠(if fl then 1 else 0))):eB q fl y=((n8 q y (-1)).1.fmod q,(n8 q y (-1)).2.fmod q):=if_pos h
theorem uD{q:Int}{fl:Bool}{y:Int×Int}(h:¬((0<y.2/\(y.2*2).fdiv q≠(if fl then 1 else 0))\/(y.2=0/\(y.1*2).fdiv q≠(if fl then 1 else 0)))):eB q fl y=y:=if_neg h
inductive P2(D:Led)(x:Addr)(v:Int×Int):Prop
 |mk(h:IsPair D x v.1 v.2):P2 D x v
theorem P2.is{D:Led}{x:Addr}{v:Int×Int}(h:P2 D x v):IsPair D x v.1 v.2:=let⟨a⟩:=h;a
noncomputable def aK:List Int:=[11,19,43,227,2147483587,2147483659,1099511627563,1099511627803,9007199254740571,9007199254741067,72057594037927931,72057594037928299,1152921504606846883,1152921504606847067,4002409555221667393417789825735904156556882819939007885332058136124031650490837864442687629129015664037894272559787,21888242871839275222246405745257275088696311157297823662689037894645226208583]
noncomputable def cz(q:Int)(a:Int×Int):Int×Int:=aF q a (aF q a a)
noncomputable def aD(q:Int)(a:Int×Int):Int×Int:=(a.1.fmod q,a.2.fmod q)
noncomputable def fE(q:Int):Int:=ef ((q-1).fdiv 2) ((q+1).fdiv 4) q
noncomputable def o9(q:Int):Nat->Int×Int
 |0=>(1,0)
 |n+1=>aF q (o9 q n) (fE q,fE q)
noncomputable def aM(q:Int):List (Int×Int):=[aD q (o9 q 0),aD q (o9 q 1),aD q (o9 q 2),aD q (o9 q 3),aD q (o9 q 4),aD q (o9 q 5),aD q (o9 q 6),aD q (o9 q 7)]
noncomputable def gz(q:Int)(a:Int×Int):Bool:=ef ((a.1*a.1+a.2*a.2).fmod q) ((q-1).fdiv 2) q==1
theorem jE{led tl tl2:Led}{d:Nat}(kG:∀p∈led,Ge d p.1->p∈tl)(s:∀p∈tl2,p∈led)(g:∀p∈tl2,Ge d p.1):∀p∈tl2,p∈tl:=fun p hp=>kG p (s p hp) (g p hp)
section
variable{w:World}{A:Around}{E:Value->Shared->Prop}{env:Env}{s:Shared}{Q:Flow->Shared->Prop}
def KEx(Q:Flow->Shared->Prop):Value->Shared->Prop:=fun v s'=>match v with| .ref _=>False|_=>Q .next s'
theorem Ci{e pos}(hi:interactive env=false)(hs:swapsWith e none pos.line env=pure false)(k:wpAny (MM w) A (eval e env) (KEx Q) E s):wpAny (MM w) A (exec (.Expr e pos) env) Q E s:=
 E9 (wpAny_mono k (fun v s' h=>by cases v<;>exact h) fun _ _ e=>e) hi hs
theorem zc(k:Q .next s):KEx Q .none s:=k
end
noncomputable def D3(number p:Int)(bits:Nat):List Int:=
 [(number.fdiv 8).fmod p,(number.fdiv 8).fmod p,(number.fdiv 8).fmod p,(number.fdiv 8).fmod p,p+(number.fdiv 8).fmod 5,(number.fdiv 8).fmod (2 ^ bits),p-1-((number.fdiv 8).fmod 9).fmod p,0]
noncomputable def cZ(number p:Int)(bits:Nat):Int:=(D3 number p bits).getD (number.fmod 8).toNat 0
noncomputable def jo(number:Int):Int:=if number.fmod 8<6 then 4+number.fmod 2 else(number.fdiv 8).fmod 8
section
variable{w:World}{p:Program}{loose:List Str}{aY:ExcName->Option Value}{mg mb:Str->Option Value}
 {dp un:Nat} {gd:Option (List Code)} {cn:Str} {cs:Scope} {a:Addr} {aJ:Value} {cl:List (Str×Addr)} {outer:List Env} {A₀:Around} {base agj:Heap} {L:Addr} {m:Str->Option Value} {nw led:Led} {d:Nat} {Q E:Value->Shared->Prop}
 {h:Heap} {gn:Array GenState} {dr:Drawn} {tk:Nat} {os:OsState}
theorem UW{x:Str}{v:Value}{c:Addr}{o:Obj}{ady:Option Value}{g:Obj->Led}{Q:Unit->Shared->Prop}{A:Around}(Z:St agj L nw d h m led)(hc:cl.lookup x=some c)(U:cj led->UpdF c o led g)(mR:Ge d c)(hd:o.data=.cell ady)(hk:cs.kind=.function)(hx:(envX cn cs L a aJ cl).kindOf x=some .cell)
  (k:∀h' o',St agj L nw d h' m (g o')->o'.data=.cell (some v)->Q () ⟨h',gn,dr,tk,os⟩):wpAny (MM w) A (storeName (envX cn cs L a aJ cl) x v) Q E ⟨h,gn,dr,tk,os⟩:=
 have V:=U Z.S
 Z.elim fun o7 h7 N7=>storeX_C (s:=⟨h,gn,dr,tk,os⟩) Z.F N7 hc (Z.U7 V) hd (fun h' o' F N hv=>k h' o' (Z.upd h7 V mR F N) hv) hk hx
end
theorem rU{z M:Int}{n:Nat}{t:Int}(hM:(2:Int) ^ n=M)(h:z.fdiv M=t)(ht:0<=t):cR z n=decide (t%2=1):=by
 unfold cR
 rw[hM,h]
 have e:t=(t.toNat:Int):=by exact Eq.symm (Int.toNat_of_nonneg ht)
 rw[e,UL]
 exact decide_eq_decide.mpr (aba)
theorem HM{x t M:Int}(k:Int)(hk:0<k)(h0:0<=x)(h1:x<M):(x+t*M).fdiv (M*k)=t.fdiv k:=by
 have hM:0<M:=by exact yR h0 h1
 have hMk:0<=M*k:=Int.mul_nonneg (eT hM) (eT hk)
 rw[Int.fdiv_eq_ediv_of_nonneg _ hMk,Int.fdiv_eq_ediv_of_nonneg _ (eT hk),<-Int.ediv_ediv_of_nonneg (eT hM),Int.add_mul_ediv_right _ _ (lu hM),Int.ediv_eq_zero_of_lt h0 h1,Int.zero_add]
theorem zd{x t:Int}(h0:0<=x)(h1:x<2 ^ 381)(t0:0<=t):
  cR (x+t*2 ^ 381) 383=decide ((t.fdiv 4).fmod 2=1)/\cR (x+t*2 ^ 381) 382=decide ((t.fdiv 2).fmod 2=1)/\cR (x+t*2 ^ 381) 381=decide ((t.fdiv 1).fmod 2=1)/\(x+t*2 ^ 381).fmod (2 ^ 381)=x:=by
 have e3:(2:Int) ^ 383=2 ^ 381*4:=by decide +kernel
 have e2:(2:Int) ^ 382=2 ^ 381*2:=by decide +kernel
 have e1:(2:Int) ^ 381=2 ^ 381*1:=by rw[Int.mul_one]
 have d4:0<=t.fdiv 4:=by rw[Int.fdiv_eq_ediv_of_nonneg _ (by decide)];exact Int.ediv_nonneg t0 (Int.natCast_nonneg _)
 have d2:0<=t.fdiv 2:=by rw[Int.fdiv_eq_ediv_of_nonneg _ (by decide)];exact Int.ediv_nonneg t0 (Int.natCast_nonneg _)
 have d1:0<=t.fdiv 1:=by rw[Int.fdiv_eq_ediv_of_nonneg _ (by decide)];exact Int.ediv_nonneg t0 (Int.natCast_nonneg _)
 generalize hM:(2:Int) ^ 381=M at*
 have hM0:0<M:=by exact hM▸Int.pow_pos (by decide)
 have key:∀u:Int,decide (u%2=1)=decide (u.fmod 2=1):=fun u=>by rw[Int.fmod_eq_emod_of_nonneg _ (by decide)]
 refine⟨?_,?_,?_,?_⟩
 ·rw[rU e3 (HM 4 (by decide) h0 h1) d4,key]
 ·rw[rU e2 (HM 2 (by decide) h0 h1) d2,key]
 ·rw[rU (hM.trans e1) (HM 1 (by decide) h0 h1) d1,key]
 ·rw[Int.fmod_eq_emod_of_nonneg _ (hM▸Int.pow_nonneg (by decide)),Int.add_mul_emod_self_right,Int.emod_eq_of_lt h0 h1]
def HN(w:World)(A:Around)(env:Env)(hs:List ExceptHandler)(Q:Flow->Shared->Prop)(E:Value->Shared->Prop):Value->Shared->Prop:=
 fun e aC=>wpAny (MM w) A (noteFrame e env) (fun _ bw=>wpAny (MM w) A (setFlight e none) (fun _ dJ=>wpAny (MM w) A (handleBy e env hs) Q E dJ) E bw) E aC
def UX(w:World)(A:Around)(env:Env)(orelse:List Stmt)(Q:Flow->Shared->Prop)(E:Value->Shared->Prop):Flow->Shared->Prop:=
 fun f aC=>match f with| .next=>wpAny (MM w) A (execs orelse env) Q E aC|f=>Q f aC
section
variable{w:World}{A:Around}{E:Value->Shared->Prop}{env:Env}{Q:Flow->Shared->Prop}{s:Shared}
theorem UY{body orelse hs pos}{h0:ExceptHandler}(k:wpAny (MM w) A (execs body env) (UX w A env orelse Q E) (HN w A env (h0::hs) Q E) s):wpAny (MM w) A (exec (.Try body (h0::hs) orelse [] pos) env) Q E s:=
 wpAny_Try_except (wpAny_mono k (fun f aC h=>by cases f<;>exact h) fun _ _ e=>e)
theorem HO{orelse v}(k:Q (.ret v) s):UX w A env orelse Q E (.ret v) s:=k
end
structure HP(q c top x sc:Int):Prop where
 x0:0<=x
 x1:x<2 ^ 381
 t0:0<=top
 t1:top<8
 c0:0<c
 c1:c<q
 s0:0<sc
 s1:sc<q
 inf:x=0->top=6->lz q c (x+top*2 ^ Int.toNat 381)=some (1,1,0)
 no:¬(x=0/\top=6)->(x=0\/q<=x\/¬(top=4\/top=5)\/ef ((x*x*x+c).fmod q) ((q-1).fdiv 2) q=q-1)->lz q c (x+top*2 ^ Int.toNat 381)=none
 yes:¬(x=0\/q<=x\/¬(top=4\/top=5)\/ef ((x*x*x+c).fmod q) ((q-1).fdiv 2) q=q-1)->(x*x*x+c).fmod q≠0->∃y,lz q c (x+top*2 ^ Int.toNat 381)=some (x,y,1)/\
  (y*y).fmod q=(x*x*x+c).fmod q/\0<=y/\y<q/\(q<2*y↔top=5)/\uB q ((x*sc).fmod q) ((y*sc).fmod q) (sc.fmod q)=x+top*2 ^ Int.toNat 381
section
variable{w:World}{A:Around}{E:Value->Shared->Prop}{env:Env}{Q:Bool->Shared->Prop}{s:Shared}
def KCh(w:World)(A:Around)(env:Env)(op:CmpOp)(b:Value)(r:Expr)(Q:Bool->Shared->Prop)(E:Value->Shared->Prop):Bool->Shared->Prop:=
 fun t s=>if t then wpAny (MM w) A (eval r env) (fun d s'=>wpAny (MM w) A (compareOp op b d) (fun c ri=>wpAny (MM w) A (truthy c) Q E ri) E s') E s else Q false s
theorem UZ{l r1 r2 pos whole HQ A5}(hm:lastMarks [HQ,A5] [r1,r2]=false)(k:wpAny (MM w) A (eval l env) (fun a aC=>wpAny (MM w) A (eval r1 env) (fun b bw=>wpAny (MM w) A (compareOp HQ a b) (fun c dJ=>wpAny (MM w) A (truthy c) (KCh w A env A5 b r2 Q E) E dJ) E bw) E aC) E s):
  wpAny (MM w) A (isTrue (.Compare l [HQ,A5] [r1,r2] pos) env whole) Q E s:=by
 refine isTrue_chain (wpAny_mono k (fun a aC aq=>?_) fun _ _ e=>e) hm
 refine test_link (wpAny_mono aq (fun b bw bE=>wpAny_mono bE (fun c dJ bH=>wpAny_mono bH (fun t pR ie=>?_) fun _ _ e=>e) fun _ _ e=>e) fun _ _ e=>e)
 cases t with
 |false=>exact ie
 |true=>exact test_last ie
theorem Cj{op b r}{t:Bool}(e:t=true)(k:wpAny (MM w) A (eval r env) (fun d s'=>wpAny (MM w) A (compareOp op b d) (fun c ri=>wpAny (MM w) A (truthy c) Q E ri) E s') E s):KCh w A env op b r Q E t s:=by subst e;exact k
end
theorem HR{w:World}{A:Around}{agj h:Heap}{L:Addr}{nw led:Led}{d:Nat}{m:Str->Option Value}{gn:Array GenState}{dr:Drawn}{tk:Nat}{os:OsState}{E:Value->Shared->Prop}{t:Addr}{vs:List Value}{n:Nat}{Q:Value->Shared->Prop}(Z:St agj L nw d h m led)(hm:(t,ay vs n)∈led)(hz:vs.length<=1000)
  (k:∀x h',St agj L nw d h' m ((x,aj vs 0)::led)->Ge d x->Q (.ref x) ⟨h',gn,dr,tk,os⟩):wpAny (MM w) A (call (.type "tuple") [.ref t]) Q E ⟨h,gn,dr,tk,os⟩:=
 Z.elim fun o7 h7 N7=>by
  refine call_tuple_list (s:=⟨h,gn,dr,tk,os⟩) (N7.isList (aA hm)) (fun h' hk=>?_) (by rw[sizeLine_eq,List.size_toArray];exact pq hz)
  have F':=Z.F.keeps hk
  have hn:(h'.push (aj vs 0)).get? h'.objs.size=some (aj vs 0):=Heap.get?_push_size _ rfl
  have N':News agj L h' (led++[((277:Nat),o7)]):=fun p hp=>⟨hk _ _ (N7 p hp).1,(N7 p hp).2⟩
  have cO:@LT.lt Nat _ L h'.objs.size:=F'.ns.lt
  exact k _ (h'.push (aj vs 0)) (Z.push h7 (F'.push _) (N'.push F' (aj vs 0)) (fun p hp=>Heap.lt_size (N' p hp).1) cO) (Z.ge cO)
structure ze(q:Int)(f0 f1 f2 s:Int×Int):Prop where
 inf:f2=(0,0)->lC q (aD q f0) (aD q f1) (aD q f2) (aD q s)=some (2 ^ 383+2 ^ 382,0)
 fin:f2≠(0,0)->(lC q (aD q f0) (aD q f1) (aD q f2) (aD q s)).isSome=dm (aF q (aF q f1 f1) f2) (cG q (cz q f0) (aF q s (cz q f2)))
structure ng(q:Int)(v:Int×Int):Prop where
 no:lA q (aM q) (aD q v)=none->gz q v=false
 yes:∀y,lA q (aM q) (aD q v)=some y->aF q y y=v/\(q<2*y.2\/(y.2=0/\q<2*y.1))
noncomputable def nz(v:Int×Int):Int×Int:=if dm v (0,0) then(1,0) else v
structure zf(q:Int)(c s:Int×Int)(top x1 x2:Int):Prop where
 p0:0<=x1
 p1:x1<2 ^ 381
 t0:0<=top
 t1:top<8
 y0:0<=x2
 y1:Sm 1900 x2
 inf:x1=0/\x2=0/\top=6->jT q (aM q) (aD q c) (x1+top*2 ^ Int.toNat 381) x2=some ((1,0),(1,0),(0,0))
 no:¬(x1=0/\x2=0/\top=6)->((x1=0/\x2=0)\/¬(top=4\/top=5)\/q<=x1\/q<=x2)->jT q (aM q) (aD q c) (x1+top*2 ^ Int.toNat 381) x2=none
 nsq:¬((x1=0/\x2=0)\/¬(top=4\/top=5)\/q<=x1\/q<=x2)->gz q (cG q (cz q (x2.fmod q,x1.fmod q)) c)=false->cG q (cz q (x2.fmod q,x1.fmod q)) c≠(0,0)->jT q (aM q) (aD q c) (x1+top*2 ^ Int.toNat 381) x2=none
 yes:¬((x1=0/\x2=0)\/¬(top=4\/top=5)\/q<=x1\/q<=x2)->gz q (cG q (cz q (x2.fmod q,x1.fmod q)) c)=true->cG q (cz q (x2.fmod q,x1.fmod q)) c≠(0,0)->
  ∃u v,jT q (aM q) (aD q c) (x1+top*2 ^ Int.toNat 381) x2=some ((x2,x1),(u,v),(1,0))/\aF q (u,v) (u,v)=cG q (cz q (x2.fmod q,x1.fmod q)) c/\(q<2*(if v≠0 then v else u)↔top=5)/\
   lC q (aD q (aF q (x2,x1) s)) (aD q (aF q (u,v) s)) (aD q s) (aD q c)=some (x1+top*2 ^ Int.toNat 381,x2)
section
variable{w:World}{p:Program}{loose:List Str}{aY:ExcName->Option Value}{mg mb:Str->Option Value}
 {dp un:Nat} {gd:Option (List Code)} {cn:Str} {cs:Scope} {a:Addr} {aJ:Value} {cl:List (Str×Addr)} {outer:List Env} {A₀:Around} {base agj:Heap} {L:Addr} {m:Str->Option Value} {nw led:Led} {d:Nat} {Q E:Value->Shared->Prop}
 {h:Heap} {gn:Array GenState} {dr:Drawn} {tk:Nat} {os:OsState}
theorem Ck{v q:Int}{tv tq:Tok}(B:Below A₀ base outer agj)(Z:St agj L nw d h m led)(X:(Mine.pre.heap_1 w.params).In agj)(T:Top p loose aY mg mb agj)(hk:cs.kind=.function)(hG:AllBare gn)(hd:dp+5<recursionLimit)(hu:un+50<cLine)(hq:0<q)(ret:yx agj L nw d m led dr os Q fun tl r=>∃x,r=.ref x/\gi tl x q (v.fmod q)):wpAny (MM w) (ktrTop dp un gd cn cs L a aJ cl outer) (call (.ref 264) [.int v tv,.int q tq]) Q E ⟨h,gn,dr,tk,os⟩:=by
 ((have Zb:=zb Z);(refine' BK (fun x=>[("field_modulus",.int q tq),("val",.int v tv),("self",.ref x)]) B Z X T hk ?hm ?hi ?hf ?ho ?hcd ?hr ?hb ?hl ?c1 ?c2 ?c3 ?c4 ?_);(((case hm=>k_dflt k_is);(case hi=>k_dflt k_is);(case hf=>k_dflt k_is);(case ho=>k_dflt k_is);(case hcd=>k_dflt k_is);(case hr=>exact Nat.lt_of_le_of_lt (Nat.add_le_add_left (by decide) _) hd);(case hb=>exact fun _ _=>BindsTo.of_eq rfl);(case hl=>exact fun _=>rfl);(case c1=>exact rfl);(case c2=>exact rfl);(case c3=>exact rfl);(case c4=>decide))));clear B Z X T;intro x dx g L' aq tk Z hdx B X T lx hL
 have hx0:Ge dx x:=Nat.le_of_lt (Z.S.gt _ (.head _))
 (refine bI ?_;(refine' iH ?U0 ?_;(case U0=>exact rfl));(refine' cK ?U1 ?U3 ?U4 ?U5 ?U6 ?_;(case U1=>exact St.F (by assumption));(case U5=>exact rfl);(case U3=>exact aR);(case U4=>exact rfl);(case U6=>kernel_rfl));(refine' cK ?U8 ?U9 ?Va ?Vb ?Vc ?_;(case U8=>exact St.F (by assumption));(case Vb=>exact rfl);(case U9=>exact aW (by kernel_rfl) (aW (by kernel_rfl) aR));(case Va=>exact rfl);(case Vc=>kernel_rfl));(refine' kW ?HS ?adz ?Vd ?Ve ?Vf ?Vg ?Vh ?Vi ?Vj ?Vk ?Vl ?adA ?_;(case HS=>assumption);(case adz=>assumption);(case Vd=>exact .head _);(case Ve=>exact ak bO);(case Vf=>k_dflt k_is);(case Vg=>k_dflt k_is);(case Vh=>k_dflt k_is);(case Vi=>k_dflt k_is);(case Vj=>k_get);(case Vk=>k_put);(case Vl=>assumption);(case adA=>exact Nat.le_of_ble_eq_true rfl);((rename St _ _ _ _ _ _ _=>Vm);clear Vm);intro agc HS;(try dsimp only at HS));refine bZ ?_;refine bI ?_;refine pC ?_;(refine' fM ?Vn ?_;(case Vn=>exact rfl));(refine' cC ?Vo ?_;(case Vo=>exact rfl));(refine' d9 ?Vp ?Vq ?Vr ?Vt ?Vu ?Vv ?Vw ?Vx ?Vy ?_;(case Vp=>exact St.F (by assumption));(case Vq=>assumption);(case Vr=>assumption);(case Vx=>exact rfl);(case Vt=>k_dflt k_is);(case Vu=>boot_by_name);(case Vv=>decide);(case Vw=>exact rfl);(case Vy=>kernel_rfl));(refine' gk ?Vz ?VB ?_;(case Vz=>exact rfl);(case VB=>exact rfl);(try dsimp only[List.nil_append,List.cons_append]));(refine' bx ?VC ?_;(case VC=>exact rfl));(refine' cK ?VD ?VE ?VF ?VG ?VH ?_;(case VD=>exact St.F (by assumption));(case VG=>exact rfl);(case VE=>exact aW (by kernel_rfl) aR);(case VF=>exact rfl);(case VH=>kernel_rfl));(refine' bx ?VK ?_;(case VK=>exact rfl));(refine' rg ?VM ?VN ?VO ?VP ?VQ ?VS ?VT ?_;(case VM=>exact St.F (by assumption));(case VN=>assumption);(case VO=>assumption);(case VS=>exact rfl);(case VP=>k_dflt k_is);(case VQ=>exact rfl);(case VT=>kernel_rfl));refine cT ?_;(refine' kE ?adB ?adC ?adD ?_;(case adB=>exact St.F (by assumption));(case adC=>assumption);(case adD=>exact St.N (by assumption));intro agd);refine gj ?_;refine i_f ?_;refine bI ?_;refine pC ?_;(refine' fM ?VU ?_;(case VU=>exact rfl));(refine' cC ?VV ?_;(case VV=>exact rfl));(refine' d9 ?VW ?VX ?VY ?VZ ?V0 ?V1 ?V2 ?V3 ?V4 ?_;(case VW=>exact St.F (by assumption));(case VX=>assumption);(case VY=>assumption);(case V3=>exact rfl);(case VZ=>k_dflt k_is);(case V0=>boot_by_name);(case V1=>decide);(case V2=>exact rfl);(case V4=>kernel_rfl));(refine' gk ?V5 ?V6 ?_;(case V5=>exact rfl);(case V6=>exact rfl);(try dsimp only[List.nil_append,List.cons_append]));(refine' bx ?V8 ?_;(case V8=>exact rfl));(refine' cK ?V9 ?Wa ?Wb ?Wc ?We ?_;(case V9=>exact St.F (by assumption));(case Wc=>exact rfl);(case Wa=>exact aW (by kernel_rfl) aR);(case Wb=>exact rfl);(case We=>kernel_rfl));(refine' bx ?Wf ?_;(case Wf=>exact rfl));(refine' d9 ?Wg ?Wh ?Wi ?Wj ?Wl ?Wm ?Wn ?Wo ?Wq ?_;(case Wg=>exact St.F (by assumption));(case Wh=>assumption);(case Wi=>assumption);(case Wo=>exact rfl);(case Wj=>k_dflt k_is);(case Wl=>boot_by_name);(case Wm=>decide);(case Wn=>exact rfl);(case Wq=>kernel_rfl));refine cT ?_;(refine' gq ?adE ?adF ?adG ?_;(case adE=>exact St.F (by assumption));(case adF=>assumption);(case adG=>exact St.N (by assumption));intro age);refine gj ?_;refine i_t ?_;refine bI ?_;(refine' iH ?Wr ?_;(case Wr=>exact rfl));refine pG ?_;(refine' cK ?Ws ?Wt ?Wu ?Wv ?Ww ?_;(case Ws=>exact St.F (by assumption));(case Wv=>exact rfl);(case Wt=>exact aW (by kernel_rfl) aR);(case Wu=>exact rfl);(case Ww=>kernel_rfl));(refine' kC ?Wx ?_;(case Wx=>with_unfolding_all rfl));(refine' cK ?Wy ?Wz ?WA ?WB ?WC ?_;(case Wy=>exact St.F (by assumption));(case WB=>exact rfl);(case Wz=>exact aW (by kernel_rfl) (aW (by kernel_rfl) aR));(case WA=>exact rfl);(case WC=>kernel_rfl));(refine' xR ?WD ?WG ?WH ?WI ?WJ ?WK ?WL ?WM ?WN ?WO ?WQ ?_;(case WD=>exact St.F (by assumption));(case WG=>assumption);(case WH=>exact St.N (by assumption));(case WI=>exact .head _);(case WJ=>exact .tail _ (.head _));(case WK=>k_dflt k_is);(case WL=>k_dflt k_is);(case WM=>k_dflt k_is);(case WN=>k_dflt k_is);(case WO=>k_get);(case WQ=>k_handed));(refine' xN ?adH ?_;(case adH=>exact lu hq));(refine' cK ?WR ?WU ?WV ?WW ?WX ?_;(case WR=>exact St.F (by assumption));(case WW=>exact rfl);(case WU=>exact aW (by kernel_rfl) (aW (by kernel_rfl) aR));(case WV=>exact rfl);(case WX=>kernel_rfl));(refine' kW ?HT ?adI ?WY ?WZ ?Xa ?Xb ?Xc ?Xd ?Xe ?Xf ?Xg ?adJ ?_;(case HT=>assumption);(case adI=>assumption);(case WY=>exact .head _);(case WZ=>exact ak bO);(case Xa=>k_dflt k_is);(case Xb=>k_dflt k_is);(case Xc=>k_dflt k_is);(case Xd=>k_dflt k_is);(case Xe=>k_get);(case Xf=>k_put);(case Xg=>assumption);(case adJ=>exact Nat.le_of_ble_eq_true rfl);((rename St _ _ _ _ _ _ _=>Xh);clear Xh);intro agf HT;(try dsimp only at HT));refine bZ ?_;refine fu ?_;refine bZ ?_;refine fu ?_;refine bZ ?_;(refine fu ?_))
 ((((with_reducible refine' yD ?Xi ?Xj ?Xk ?Xl ?Xm ?Xn ?Xo ?_);(case Xi=>(with_reducible assumption));(case Xj=>(with_reducible assumption));(case Xk=>(with_reducible assumption));(case Xl=>(with_reducible assumption));(case Xm=>(with_reducible assumption));(case Xn=>(with_reducible assumption));(case Xo=>exact aL (aL ee));intro agg agh agi)))
 exact⟨_,rfl,⟨by(((rename ∀p∈_,Ge _ _->p∈_=>Xp);refine Xp _ ?_ ?_;exact .head _;first|assumption|exact Nat.le_refl _)),by(((rename ∀p∈_,Ge _ _->p∈_=>Xq);refine Xq _ ?_ ?_;exact .tail _ (.head _);first|assumption|exact Nat.le_refl _))⟩⟩
end
namespace S
theorem rV:∀{a0 a1:Nat},¬a0<a1->a1<=a0:=fun h1=>(Nat.le_of_not_lt h1)
theorem HU:∀{a0:Int},a0≠0->0<=a0->0<a0:=fun h1 h2=>(Int.lt_iff_le_and_ne.mpr (And.intro h2 (Ne.symm h1)))
theorem Xr:∀{a0:Int} {a1:Nat} {a2:Int},Int.natAbs a0<a1->a0<=a2->a2<0->Int.natAbs a2<a1:=@fun a0 a1 a2 h1 h2 h3=>by rw[<-Int.natAbs_neg] at h1 ⊢;exact Nat.lt_of_le_of_lt (Int.ofNat_le.mp (by rw[Int.natAbs_of_nonneg (Int.neg_nonneg_of_nonpos (Int.le_of_lt h3)),Int.natAbs_of_nonneg (Int.neg_nonneg_of_nonpos (Int.le_trans h2 (Int.le_of_lt h3)))];exact Int.neg_le_neg h2)) h1
set_option genSizeOf false
set_option genInjectivity false
structure IC where
 n:Nat
 nz:Bool
 nn:Bool
 md:Bool
 lit:Bool
inductive SV
 |int (a:Int) (c:IC)
 |bool (b:Bool) (lit:Bool)
 |none
 |tup (s:SV)
 |rl (s:SV)
 |nil
 |cons (h t:SV)
 |fq (q n:Int)
 |aU (q:Int) (v:Int×Int)
 |lst (i:Nat)
 |val (v:Value)
structure bT(a:Int)(c:IC):Prop where
 s:c.n≠0->Sm c.n a
 z:c.nz=true->a≠0
 p:c.nn=true->0<=a
 m:c.md=true->Qf a
structure Wd where
 ρ:List Addr
 D:Led
noncomputable def rel(W:Wd)(s:SV):(Value->Prop)×(List Value->Prop):=SV.rec (motive:=fun _=>(Value->Prop)×(List Value->Prop))
 (fun a c=>(fun v=>∃t,v=.int a t/\bT a c,fun _=>False))
 (fun b _=>(fun v=>v=.bool b,fun _=>False))
 (fun v=>v=.none,fun _=>False)
 (fun _ ih=>(fun v=>∃x vs n,v=.ref x/\(x,aj vs n)∈W.D/\ih.2 vs,fun _=>False))
 (fun _ ih=>(fun v=>∃x vs n,v=.ref x/\(x,ay vs n)∈W.D/\ih.2 vs,fun _=>False))
 (fun _=>False,fun vs=>vs=[])
 (fun _ _ h t=>(fun _=>False,fun vs=>∃v r,vs=v::r/\h.1 v/\t.2 r))
 (fun q n=>(fun v=>∃x,v=.ref x/\F1 W.D x q n/\Qf q,fun _=>False))
 (fun q p=>(fun v=>∃x,v=.ref x/\F2 W.D x q p/\Qf q,fun _=>False))
 (fun i=>(fun v=>∃x,v=.ref x/\W.ρ[i]?=some x,fun _=>False))
 (fun v'=>(fun v=>v=v',fun _=>False)) s
def VR(W:Wd)(s:SV)(v:Value):Prop:=(rel W s).1 v
def VL(W:Wd)(s:SV)(vs:List Value):Prop:=(rel W s).2 vs
structure Wd.le(W W':Wd):Prop where
 r:∃t,W'.ρ=W.ρ++t
 d:∀p∈W.D,p∈W'.D
theorem Wd.le.rfl(W:Wd):W.le W:=⟨⟨[],by simp⟩,fun _ h=>h⟩
theorem Wd.le.trans{a b c:Wd}(h:a.le b)(k:b.le c):a.le c:=
 ⟨let⟨t,e⟩:=h.r;let⟨u,f⟩:=k.r;⟨t++u,by rw[f,e,List.append_assoc]⟩,fun p hp=>k.d p (h.d p hp)⟩
theorem Wd.le.get{a b:Wd}{i:Nat}{x:Addr}(h:a.le b)(e:a.ρ[i]?=some x):b.ρ[i]?=some x:=by
 obtain⟨t,f⟩:=h.r
 rw[f,List.getElem?_append_left (List.getElem?_eq_some_iff.mp e).1,e]
theorem rel.mono{W W':Wd}(h:W.le W')(s:SV):(∀v,(rel W s).1 v->(rel W' s).1 v)/\∀vs,(rel W s).2 vs->(rel W' s).2 vs:=
 SV.rec (motive:=fun s=>(∀v,(rel W s).1 v->(rel W' s).1 v)/\∀vs,(rel W s).2 vs->(rel W' s).2 vs)
  (fun _ _=>⟨fun _ x=>x,fun _ x=>x⟩) (fun _ _=>⟨fun _ x=>x,fun _ x=>x⟩) ⟨fun _ x=>x,fun _ x=>x⟩
  (fun s ih=>⟨fun v k=>k.elim fun x k=>k.elim fun vs k=>k.elim fun n k=>⟨x,vs,n,k.1,h.d _ k.2.1,ih.2 _ k.2.2⟩,fun _ x=>x⟩)
  (fun s ih=>⟨fun v k=>k.elim fun x k=>k.elim fun vs k=>k.elim fun n k=>⟨x,vs,n,k.1,h.d _ k.2.1,ih.2 _ k.2.2⟩,fun _ x=>x⟩)
  ⟨fun _ x=>x,fun _ x=>x⟩
  (fun a b wO uE=>⟨fun _ x=>x,fun vs k=>k.elim fun v k=>k.elim fun r k=>⟨v,r,k.1,wO.1 _ k.2.1,uE.2 _ k.2.2⟩⟩)
  (fun q n=>⟨fun v k=>k.elim fun x k=>⟨x,k.1,F1.mono k.2.1 h.d,k.2.2⟩,fun _ x=>x⟩)
  (fun q n=>⟨fun v k=>k.elim fun x k=>⟨x,k.1,F2.mono k.2.1 h.d,k.2.2⟩,fun _ x=>x⟩)
  (fun i=>⟨fun v k=>k.elim fun x k=>⟨x,k.1,h.get k.2⟩,fun _ x=>x⟩)
  (fun _=>⟨fun _ x=>x,fun _ x=>x⟩) s
theorem VR.mono{W W':Wd}{s:SV}{v:Value}(k:VR W s v)(h:W.le W'):VR W' s v:=(rel.mono h s).1 v k
theorem VL.mono{W W':Wd}{s:SV}{v:List Value}(k:VL W s v)(h:W.le W'):VL W' s v:=(rel.mono h s).2 v k
noncomputable def jE(s:SV):Bool:=SV.rec (motive:=fun _=>Bool) (fun _ _=>true) (fun _ _=>true) true (fun _ h=>h) (fun _ h=>h) true (fun _ _ h t=>h&&t) (fun _ _=>true) (fun _ _=>true) (fun _=>false) (fun _=>true) s
theorem uF{ρ ρ':List Addr}{D:Led}(s:SV):jE s=true->(∀v,(rel ⟨ρ,D⟩ s).1 v->(rel ⟨ρ',D⟩ s).1 v)/\∀vs,(rel ⟨ρ,D⟩ s).2 vs->(rel ⟨ρ',D⟩ s).2 vs:=
 SV.rec (motive:=fun s=>jE s=true->(∀v,(rel ⟨ρ,D⟩ s).1 v->(rel ⟨ρ',D⟩ s).1 v)/\∀vs,(rel ⟨ρ,D⟩ s).2 vs->(rel ⟨ρ',D⟩ s).2 vs)
  (fun _ _ _=>⟨fun _ x=>x,fun _ x=>x⟩) (fun _ _ _=>⟨fun _ x=>x,fun _ x=>x⟩) (fun _=>⟨fun _ x=>x,fun _ x=>x⟩)
  (fun s ih c=>⟨fun v k=>k.elim fun x k=>k.elim fun vs k=>k.elim fun n k=>⟨x,vs,n,k.1,k.2.1,(ih c).2 _ k.2.2⟩,fun _ x=>x⟩)
  (fun s ih c=>⟨fun v k=>k.elim fun x k=>k.elim fun vs k=>k.elim fun n k=>⟨x,vs,n,k.1,k.2.1,(ih c).2 _ k.2.2⟩,fun _ x=>x⟩)
  (fun _=>⟨fun _ x=>x,fun _ x=>x⟩)
  (fun a b wO uE c=>⟨fun _ x=>x,fun vs k=>k.elim fun v k=>k.elim fun r k=>⟨v,r,k.1,(wO ((Bool.and_eq_true _ _).mp c).1).1 _ k.2.1,(uE ((Bool.and_eq_true _ _).mp c).2).2 _ k.2.2⟩⟩)
  (fun q n _=>⟨fun _ x=>x,fun _ x=>x⟩) (fun q n _=>⟨fun _ x=>x,fun _ x=>x⟩)
  (fun i c=>Bool.noConfusion c)
  (fun _ _=>⟨fun _ x=>x,fun _ x=>x⟩) s
noncomputable def dw(s:SV):Option (Int×IC):=match s with
 | .int a c=>some (a,c)
 |_=>none
noncomputable def D4(s:SV):Option (Bool×Bool):=match s with
 | .bool a c=>some (a,c)
 |_=>none
noncomputable def pe(s:SV):Option SV:=match s with
 | .tup r=>some r
 |_=>none
noncomputable def om(s:SV):Option SV:=match s with
 | .rl r=>some r
 |_=>none
noncomputable def D5(s:SV):Option (SV×SV):=match s with
 | .cons a b=>some (a,b)
 |_=>none
noncomputable def JA(s:SV):Option Unit:=match s with
 | .nil=>some ()
 |_=>none
theorem no{α:Type _}{a:α}{P:Prop}(h:none=some a):P:=by cases h
theorem bL{s:SV}{r:Int×IC}:dw s=some r->s=.int r.1 r.2:=SV.casesOn (motive:=fun s=>dw s=some r->s=.int r.1 r.2) s (fun _ _ h=>Option.some.inj h▸rfl) (fun _ _ h=>no h) (fun h=>no h) (fun _ h=>no h) (fun _ h=>no h) (fun h=>no h) (fun _ _ h=>no h) (fun _ _ h=>no h) (fun _ _ h=>no h) (fun _ h=>no h) (fun _ h=>no h)
theorem rW{s:SV}{r:Bool×Bool}:D4 s=some r->s=.bool r.1 r.2:=SV.casesOn (motive:=fun s=>D4 s=some r->s=.bool r.1 r.2) s (fun _ _ h=>no h) (fun _ _ h=>Option.some.inj h▸rfl) (fun h=>no h) (fun _ h=>no h) (fun _ h=>no h) (fun h=>no h) (fun _ _ h=>no h) (fun _ _ h=>no h) (fun _ _ h=>no h) (fun _ h=>no h) (fun _ h=>no h)
theorem gK{s:SV}{r:SV}:pe s=some r->s=.tup r:=SV.casesOn (motive:=fun s=>pe s=some r->s=.tup r) s (fun _ _ h=>no h) (fun _ _ h=>no h) (fun h=>no h) (fun _ h=>Option.some.inj h▸rfl) (fun _ h=>no h) (fun h=>no h) (fun _ _ h=>no h) (fun _ _ h=>no h) (fun _ _ h=>no h) (fun _ h=>no h) (fun _ h=>no h)
theorem ir{s:SV}{r:SV}:om s=some r->s=.rl r:=SV.casesOn (motive:=fun s=>om s=some r->s=.rl r) s (fun _ _ h=>no h) (fun _ _ h=>no h) (fun h=>no h) (fun _ h=>no h) (fun _ h=>Option.some.inj h▸rfl) (fun h=>no h) (fun _ _ h=>no h) (fun _ _ h=>no h) (fun _ _ h=>no h) (fun _ h=>no h) (fun _ h=>no h)
theorem mU{s:SV}{r:SV×SV}:D5 s=some r->s=.cons r.1 r.2:=SV.casesOn (motive:=fun s=>D5 s=some r->s=.cons r.1 r.2) s (fun _ _ h=>no h) (fun _ _ h=>no h) (fun h=>no h) (fun _ h=>no h) (fun _ h=>no h) (fun h=>no h) (fun _ _ h=>Option.some.inj h▸rfl) (fun _ _ h=>no h) (fun _ _ h=>no h) (fun _ h=>no h) (fun _ h=>no h)
theorem zg{s:SV}{r:Unit}:JA s=some r->s=.nil:=SV.casesOn (motive:=fun s=>JA s=some r->s=.nil) s (fun _ _ h=>no h) (fun _ _ h=>no h) (fun h=>no h) (fun _ h=>no h) (fun _ h=>no h) (fun _=>rfl) (fun _ _ h=>no h) (fun _ _ h=>no h) (fun _ _ h=>no h) (fun _ h=>no h) (fun _ h=>no h)
theorem iD{α β:Type _}{o:Option α}{f:α->Option β}{b:β}(h:o.bind f=some b):∃a,o=some a/\f a=some b:=Option.bind_eq_some_iff.mp h
def af{α:Type _}(o:Option α)(f:α->Prop):Prop:=match o with
 |some a=>f a
 |none=>False
def bF(b:Bool)(p:Prop):Prop:=match b with
 |true=>p
 |false=>False
theorem aH{α:Type _}{o:Option α}{f:α->Prop}(h:af o f):∃a,o=some a/\f a:=by
 cases o with
 |none=>exact False.elim h
 |some a=>exact⟨a,rfl,h⟩
theorem aa{α:Type _}{o:Option α}{f:α->Prop}{P:Prop}(h:af o f)(k:∀a,o=some a->f a->P):P:=let⟨a,b,c⟩:=aH h;k a b c
theorem gM{b:Bool}{p:Prop}(h:bF b p):b=true/\p:=by
 cases b with
 |true=>exact⟨rfl,h⟩
 |false=>exact False.elim h
theorem ai{b:Bool}{p P:Prop}(h:bF b p)(k:b=true->p->P):P:=k (gM h).1 (gM h).2
theorem ah{α β:Type _}{o:Option α}{f:α->Option β}{b:β}{P:Prop}(h:o.bind f=some b)(k:∀a,o=some a->f a=some b->P):P:=let⟨a,x,y⟩:=iD h;k a x y
def br(b lit:Bool)(p q:Prop):Prop:=match lit,b with
 |true,true=>p
 |true,false=>q
 |false,b=>(b=true->p)/\(b=false->q)
theorem kc{b lit:Bool}{p q:Prop}(h:br b lit p q):(b=true/\p)\/(b=false/\q):=by
 cases lit<;>cases b<;>first|exact .inl ⟨rfl,h⟩|exact .inr ⟨rfl,h⟩|exact .inl ⟨rfl,h.1 rfl⟩|exact .inr ⟨rfl,h.2 rfl⟩
set_option genSizeOf false
set_option genInjectivity false
theorem lD{K:Bool->Prop}{v b l:Bool}{p q:Prop}(r:v=b)(h:br b l p q)(t:p->K true)(f:q->K false):K v:=by
 rcases kc h with⟨e,h⟩|⟨e,h⟩<;>rw[r,e]
 ·exact t h
 ·exact f h
structure Sg where
 l:List (Str×SV)
 c:List (Str×SV)
 u:Option Str
 T:List (SV×Bool)
structure Cx where
 w:World
 p:Program
 loose:List Str
 aY:ExcName->Option Value
 mg:Str->Option Value
 mb:Str->Option Value
 dp:Nat
 un:Nat
 gd:Option (List Code)
 cn:Str
 cs:Scope
 a:Addr
 aJ:Value
 cl:List (Str×Addr)
 outer:List Env
 A₀:Around
 base:Heap
 g0:Heap
 L:Addr
 nw:Led
 d:Nat
 dr:Drawn
 os:OsState
 D0:Led
 turn:Bool
 env:Env
 kg:List (Str×Addr)
 ms:List (Str×Value)->Str->Option Value
 fr:Led->List (Str×Value)->Prop
 ex:(Value->Shared->Prop)->Prop
 rz:Prop
 ry:Prop
noncomputable abbrev Cx.A(c:Cx):Around:=ktrTop c.dp c.un c.gd c.cn c.cs c.L c.a c.aJ c.cl c.outer
noncomputable abbrev KK(P:Params):Frag:=Mine.pre.heap_1 P
def HB(c:Cx)(agj:Heap):Prop:=Below c.A₀ c.base c.outer agj/\match c.turn with
 |true=>KtsDicts (jb c.outer) agj/\KtsTurn (jb c.outer) c.g0 agj
 |false=>agj=c.g0
structure mH(c:Cx)(cd cu:Nat):Prop where
 XB:(KK c.w.params).In c.base
 TB:Top c.p c.loose c.aY c.mg c.mb c.base
 hk:c.cs.kind=.function
 hd:c.dp+cd<recursionLimit
 hu:c.un+cu<cLine
theorem mH.less{c:Cx}{cd cu HV Xs:Nat}(h:mH c cd cu)(h1:HV<=cd)(h2:Xs<=cu):mH c HV Xs:=
 ⟨h.XB,h.TB,h.hk,Nat.lt_of_le_of_lt (Nat.add_le_add_left h1 _) h.hd,Nat.lt_of_le_of_lt (Nat.add_le_add_left h2 _) h.hu⟩
theorem mH.X{c:Cx}{cd cu:Nat}(h:mH c cd cu){agj:Heap}(B:HB c agj):(KK c.w.params).In agj:=h.XB.keeps B.1.stays
theorem mH.T{c:Cx}{cd cu:Nat}(h:mH c cd cu){agj:Heap}(B:HB c agj):Top c.p c.loose c.aY c.mg c.mb agj:=h.TB.keeps B.1.stays
def HW(c:Cx)(its:Led)(W:Wd)(led:Led)(x:Addr)(e:SV×Bool):Prop:=match e.2 with
 |true=>∃vs n,(x,ay vs n)∈W.D/\VL W e.1 vs
 |false=>(∃vs n,(x,ay vs n)∈led/\VL W e.1 vs)/\Ge c.d x/\(∀q∈W.D,q.1≠x)/\∀q∈its,q.1≠x
inductive UrR(kg:List (Str×Addr))(d:Nat)(its D led:Led)(x:Str):Prop
 |mk(a:Addr)(o:Obj)(k1:kg.lookup x=some a)(k2:(a,o)∈led)(k3:o.data=.cell none)(k4:Ge d a)(k5:∀q∈D,q.1≠a)(k6:∀q∈its,q.1≠a)
inductive CrR(kg:List (Str×Addr))(W:Wd)(x:Str)(s:SV):Prop
 |mk(a:Addr)(o:Obj)(v:Value)(k1:kg.lookup x=some a)(k2:(a,o)∈W.D)(k3:o.data=.cell (some v))(k4:VR W s v)
structure RR(c:Cx)(its:Led)(W:Wd)(σ:Sg)(agj:Heap)(lf:List (Str×Value))(led:Led)(h:Heap)(gn:Array GenState):Prop where
 G:AllBare gn
 Z:St agj c.L c.nw c.d h (c.ms lf) led
 H:HB c agj
 lr:∀x s,σ.l.lookup x=some s->∃v,dB lf x=some v/\VR W s v
 cr:∀x s,σ.c.lookup x=some s->CrR c.kg W x s
 ur:∀x,σ.u=some x->UrR c.kg c.d its W.D led x
 fr:c.fr its lf
 tl:W.ρ.length=σ.T.length
 tn:W.ρ.Nodup
 ta:∀(i:Nat) x e,W.ρ[i]?=some x->σ.T[i]?=some e->HW c its W led x e
 jF:∀p∈c.nw,p∈led/\@LT.lt Nat _ p.1 c.d
 d0:∀p∈c.D0,p∈W.D
 dl:∀p∈W.D,p∈led
 d1:∀p∈W.D,p∈c.D0\/Ge c.d p.1
 il:∀p∈its,p∈led/\Ge c.d p.1/\∀q∈W.D,q.1≠p.1
 fF:its.Pairwise fun p q=>p.1≠q.1
inductive RS(c:Cx)(its:Led)(W:Wd)(σ:Sg)(s:Shared):Prop
 |mk(agj:Heap)(lf:List (Str×Value))(led:Led)(h:Heap)(gn:Array GenState)(tk:Nat)(e:s=⟨h,gn,c.dr,tk,c.os⟩)(R:RR c its W σ agj lf led h gn)
theorem oq{x:Addr}{o:Obj}:∀{G:Led},cj G->(x,o)∈G->Dr x G (cy x G)
 |[],_,hm=>nomatch hm
 |q::r,S,hm=>by
  unfold cy
  rcases List.mem_cons.mp hm with e|hm
  ·subst e
   have a:cy x r=r:=List.filter_eq_self.mpr fun p hp=>decide_eq_true (Nat.ne_of_lt (S.gt p hp))
   rw[List.filter_cons,if_neg (by simp)]
   show Dr x ((x,o)::r) (cy x r)
   rw[a]
   exact .here
  ·have a:q.1≠x:=Nat.ne_of_gt (S.gt _ hm)
   rw[List.filter_cons,if_pos (decide_eq_true a)]
   exact .tail (oq S.tail hm)
section
variable{c:Cx}{its:Led}{W:Wd}{σ:Sg}{agj aq h h':Heap}{lf:List (Str×Value)}{led tl:Led}{gn bB:Array GenState}
theorem HW.mono{its':Led}{W':Wd}{led':Led}{x:Addr}{e:SV×Bool}(h:HW c its W led x e)(hW:W.le W')(hl:∀o,(x,o)∈led->(x,o)∈led')(hD:e.2=false->∀q∈W'.D,q∈W.D\/q.1≠x)(hi:e.2=false->∀q∈its',q∈its\/q.1≠x):HW c its' W' led' x e:=by
 obtain⟨s,b⟩:=e
 cases b with
 |true=>
  obtain⟨vs,n,a,b⟩:=h
  exact⟨vs,n,hW.d _ a,b.mono hW⟩
 |false=>
  obtain⟨⟨vs,n,a,b⟩,d,f,g⟩:=h
  exact⟨⟨vs,n,hl _ a,b.mono hW⟩,d,fun q hq=>(hD rfl q hq).elim (f q) id,fun q hq=>(hi rfl q hq).elim (g q) id⟩
theorem HW.in_{x:Addr}{e:SV×Bool}(h:HW c its W led x e)(dl:∀p∈W.D,p∈led):∃o,(x,o)∈led:=by
 obtain⟨s,b⟩:=e
 cases b with
 |true=>exact h.elim fun vs k=>k.elim fun n k=>⟨_,dl _ k.1⟩
 |false=>exact h.1.elim fun vs k=>k.elim fun n k=>⟨_,k.1⟩
theorem RR.grow(R:RR c its W σ agj lf led h gn)(Z:St aq c.L c.nw c.d h' (c.ms lf) (tl++led))(H:HB c aq)(G:AllBare bB):RR c its ⟨W.ρ,tl++W.D⟩ σ aq lf (tl++led) h' bB:=by
 have hgt:∀p∈tl,∀q∈led,@LT.lt Nat _ q.1 p.1:=Z.S.app.2.2
 have hW:W.le ⟨W.ρ,tl++W.D⟩:=⟨⟨[],by simp⟩,fun p hp=>List.mem_append_right _ hp⟩
 have new:∀x o,(x,o)∈led->∀q∈tl++W.D,q∈W.D\/q.1≠x:=fun x o hx q hq=>(List.mem_append.mp hq).elim (fun k=>.inr (Nat.ne_of_gt (hgt q k _ hx))) .inl
 refine⟨G,Z,H,fun x s hs=>?_,fun x s hs=>?_,fun x hx=>?_,R.fr,R.tl,R.tn,fun i x e h1 h2=>?_,fun p hp=>⟨List.mem_append_right _ (R.jF p hp).1,(R.jF p hp).2⟩,fun p hp=>List.mem_append_right _ (R.d0 p hp),fun p hp=>?_,fun p hp=>?_,fun p hp=>?_,R.fF⟩
 ·obtain⟨v,a,b⟩:=R.lr x s hs
  exact⟨v,a,b.mono hW⟩
 ·obtain⟨a,o,v,k1,k2,k3,k4⟩:=R.cr x s hs
  exact⟨a,o,v,k1,hW.d _ k2,k3,k4.mono hW⟩
 ·obtain⟨a,o,k1,k2,k3,k4,k5,k6⟩:=R.ur x hx
  exact⟨a,o,k1,List.mem_append_right _ k2,k3,k4,fun q hq=>(new a o k2 q hq).elim (k5 q) id,k6⟩
 ·have k:=R.ta i x e h1 h2
  obtain⟨o,ho⟩:=k.in_ R.dl
  exact k.mono hW (fun o ho=>List.mem_append_right _ ho) (fun _=>new x o ho) fun _ q hq=>.inl hq
 ·exact(List.mem_append.mp hp).elim (fun k=>List.mem_append_left _ k) fun k=>List.mem_append_right _ (R.dl p k)
 ·refine(List.mem_append.mp hp).elim (fun k=>.inr ?_) (R.d1 p)
  rcases Z.P p (List.mem_append_left _ k) with q|q
  ·exact absurd (hgt p k p (R.jF p q).1) (Nat.lt_irrefl _)
  ·exact q
 ·obtain⟨a,b,d⟩:=R.il p hp
  exact⟨List.mem_append_right _ a,b,fun q hq=>(new p.1 p.2 a q hq).elim (d q) id⟩
theorem RR.same(R:RR c its W σ agj lf led h gn)(Z:St agj c.L c.nw c.d h' (c.ms lf) led):RR c its W σ agj lf led h' gn:=R.grow (tl:=[]) Z R.H R.G
theorem RR.push(R:RR c its W σ agj lf led h gn){x:Addr}{o:Obj}(Z:St agj c.L c.nw c.d h' (c.ms lf) ((x,o)::led)):RR c its ⟨W.ρ,(x,o)::W.D⟩ σ agj lf ((x,o)::led) h' gn:=R.grow (tl:=[(x,o)]) Z R.H R.G
theorem Wd.push(W:Wd)(x:Addr)(o:Obj):W.le ⟨W.ρ,(x,o)::W.D⟩:=⟨⟨[],by simp⟩,fun p hp=>.tail _ hp⟩
theorem Wd.gO(W:Wd)(x:Addr):W.le ⟨W.ρ++[x],W.D⟩:=⟨⟨[x],rfl⟩,fun p hp=>hp⟩
theorem RR.zh(R:RR c its W σ agj lf led h gn){x:Addr}{o:Obj}(Z:St agj c.L c.nw c.d h' (c.ms lf) ((x,o)::led)):RR c its W σ agj lf ((x,o)::led) h' gn:=
 ⟨R.G,Z,R.H,R.lr,R.cr,fun y hy=>let⟨a,o,k1,k2,k3,k4,k5,k6⟩:=R.ur y hy;⟨a,o,k1,.tail _ k2,k3,k4,k5,k6⟩,R.fr,R.tl,R.tn,fun i y e h1 h2=>(R.ta i y e h1 h2).mono (Wd.le.rfl W) (fun o ho=>.tail _ ho) (fun _ q hq=>.inl hq) fun _ q hq=>.inl hq,
  fun p hp=>⟨.tail _ (R.jF p hp).1,(R.jF p hp).2⟩,R.d0,fun p hp=>.tail _ (R.dl p hp),R.d1,fun p hp=>⟨.tail _ (R.il p hp).1,(R.il p hp).2⟩,R.fF⟩
noncomputable def Sg.add(σ:Sg)(s:SV):Sg:={ σ with T:=σ.T++[(s,false)]}
theorem fG{α:Type _}{l:List α}{a b:α}{i:Nat}(h:(l++[a])[i]?=some b):(i<l.length/\l[i]?=some b)\/(i=l.length/\b=a):=by
 by_cases hi:i<l.length
 ·rw[List.getElem?_append_left hi] at h
  exact .inl ⟨hi,h⟩
 ·rw[List.getElem?_append_right (rV hi)] at h
  have hi0:i-l.length=0:=by
   have:=(List.getElem?_eq_some_iff.mp h).1
   simp at this
   exact this
  rw[hi0] at h
  simp at h
  exact .inr ⟨by exact Nat.le_antisymm (Nat.le_of_sub_eq_zero hi0) (Nat.le_of_not_lt hi),h.symm⟩
theorem RR.gO(R:RR c its W σ agj lf led h gn){x:Addr}{vs:List Value}{n:Nat}{s:SV}(Z:St agj c.L c.nw c.d h' (c.ms lf) ((x,ay vs n)::led))(mR:Ge c.d x)(hs:VL ⟨W.ρ++[x],W.D⟩ s vs):RR c its ⟨W.ρ++[x],W.D⟩ (σ.add s) agj lf ((x,ay vs n)::led) h' gn:=by
 have cO:∀p∈led,@LT.lt Nat _ p.1 x:=Z.S.gt
 have hW:=W.gO x
 have M:=R.zh Z
 have nx:∀y∈W.ρ,y≠x:=fun y hy=>by
  obtain⟨i,hi,e⟩:=List.mem_iff_getElem.mp hy
  have mG:i<σ.T.length:=R.tl▸hi
  obtain⟨o,ho⟩:=(R.ta i y σ.T[i] (by rw[List.getElem?_eq_getElem hi,e]) (List.getElem?_eq_getElem mG)).in_ R.dl
  exact Nat.ne_of_lt (cO _ ho)
 refine⟨R.G,Z,R.H,fun y t hy=>?_,fun y t hy=>?_,fun y hy=>M.ur y hy,R.fr,by simp[Sg.add,R.tl],?_,fun i y e h1 h2=>?_,M.jF,R.d0,M.dl,R.d1,M.il,R.fF⟩
 ·obtain⟨v,a,b⟩:=R.lr y t hy
  exact⟨v,a,b.mono hW⟩
 ·obtain⟨a,o,v,k1,k2,k3,k4⟩:=R.cr y t hy
  exact⟨a,o,v,k1,k2,k3,k4.mono hW⟩
 ·exact List.nodup_append.mpr ⟨R.tn,by simp,fun a ha b hb=>by rw[List.mem_singleton.mp hb];exact nx a ha⟩
 ·rcases fG h1 with⟨hi,h1⟩|⟨hi,rfl⟩
  ·rcases fG h2 with⟨_,h2⟩|⟨hj,_⟩
   ·exact(M.ta i y e h1 h2).mono hW (fun _ h=>h) (fun _ q hq=>.inl hq) fun _ q hq=>.inl hq
   ·exact absurd (R.tl▸hj) (Nat.ne_of_lt hi)
  ·rcases fG h2 with⟨hj,_⟩|⟨_,rfl⟩
   ·exact absurd (R.tl▸hi:i=σ.T.length) (Nat.ne_of_lt hj)
   ·exact⟨⟨vs,n,.head _,hs⟩,mR,fun q hq=>Nat.ne_of_lt (cO q (R.dl q hq)),fun q hq=>Nat.ne_of_lt (cO q (R.il q hq).1)⟩
theorem RR.gP(R:RR c its W σ agj lf led h gn){x:Addr}{o:Obj}(Z:St agj c.L c.nw c.d h' (c.ms lf) ((x,o)::led))(mR:Ge c.d x)(hf:c.fr ((x,o)::its) lf):RR c ((x,o)::its) W σ agj lf ((x,o)::led) h' gn:=by
 have cO:∀p∈led,@LT.lt Nat _ p.1 x:=Z.S.gt
 have M:=R.zh Z
 refine⟨R.G,Z,R.H,R.lr,R.cr,fun y hy=>?_,hf,R.tl,R.tn,fun i y e h1 h2=>?_,M.jF,R.d0,M.dl,R.d1,fun p hp=>?_,List.pairwise_cons.mpr ⟨fun q hq=>Nat.ne_of_gt (cO q (R.il q hq).1),R.fF⟩⟩
 ·obtain⟨a,o',k1,k2,k3,k4,k5,k6⟩:=R.ur y hy
  exact⟨a,o',k1,.tail _ k2,k3,k4,k5,fun q hq=>(List.mem_cons.mp hq).elim (fun e=>by rw[e];exact Nat.ne_of_gt (cO _ k2)) (k6 q)⟩
 ·obtain⟨o',ho⟩:=(R.ta i y e h1 h2).in_ R.dl
  exact(M.ta i y e h1 h2).mono (Wd.le.rfl W) (fun _ h=>h) (fun _ q hq=>.inl hq) fun _ q hq=>(List.mem_cons.mp hq).elim (fun e=>.inr (by rw[e];exact Nat.ne_of_gt (cO _ ho))) .inl
 ·rcases List.mem_cons.mp hp with rfl|hp
  ·exact⟨.head _,mR,fun q hq=>Nat.ne_of_lt (cO q (R.dl q hq))⟩
  ·exact M.il p hp
end
noncomputable def qu(x:Str)(s:SV):List (Str×SV)->List (Str×SV)
 |[]=>[(x,s)]
 |(y,t)::r=>match x==y with
  |true=>(x,s)::r
  |false=>(y,t)::qu x s r
theorem nh{x y:Str}{s t:SV}:∀{l:List (Str×SV)},(qu x s l).lookup y=some t->(y=x/\t=s)\/(y≠x/\l.lookup y=some t)
 |[],h=>by
  unfold qu at h
  rw[List.lookup_cons] at h
  cases e:y==x with
  |true=>rw[e] at h;exact .inl ⟨by simpa using e,(Option.some.inj h).symm⟩
  |false=>rw[e] at h;cases h
 |(z,u)::r,h=>by
  unfold qu at h
  cases hxz:x==z with
  |true=>
   rw[hxz] at h
   have hz:x=z:=by simpa using hxz
   subst hz
   have h:((x,s)::r).lookup y=some t:=h
   rw[List.lookup_cons] at h⊢
   cases e:y==x with
   |true=>rw[e] at h;exact .inl ⟨by simpa using e,(Option.some.inj h).symm⟩
   |false=>rw[e] at h;exact .inr ⟨by simpa using e,h⟩
  |false=>
   rw[hxz] at h
   have h:((z,u)::qu x s r).lookup y=some t:=h
   rw[List.lookup_cons] at h⊢
   cases hyz:y==z with
   |true=>
    rw[hyz] at h
    have e1:y=z:=by simpa using hyz
    have e2:x≠z:=by simpa using hxz
    exact .inr ⟨fun e=>e2 (e▸e1),h⟩
   |false=>
    rw[hyz] at h
    exact nh h
noncomputable def Sg.lE(σ:Sg)(i:Nat)(e:SV×Bool):Sg:={ σ with T:=σ.T.set i e}
section
variable{c:Cx}{its:Led}{W:Wd}{σ:Sg}{agj aq h h':Heap}{lf:List (Str×Value)}{led tl:Led}{gn bB:Array GenState}
theorem RR.uq(R:RR c its W σ agj lf led h gn){x:Addr}{o o':Obj}(h1:(x,o)∈led)(h2:(x,o')∈led):o=o':=by
 have a:=(R.Z.N _ h1).1
 have b:=(R.Z.N _ h2).1
 exact Option.some.inj (a.symm.trans b)
theorem RR.turn(R:RR c its W σ agj lf led h gn){x:Addr}{o o':Obj}(hm:(x,o)∈led)(mR:Ge c.d x)(nD:∀q∈W.D,q.1≠x){zj:List (Str×Value)}(Z:St agj c.L c.nw c.d h' (c.ms zj) (cP x led o')){aB:Sg}{its':Led}(el:∀y s,aB.l.lookup y=some s->∃v,dB zj y=some v/\VR W s v)(ec:aB.c=σ.c)(eu:∀y,aB.u=some y->σ.u=some y/\c.kg.lookup y≠some x)
  (hf:c.fr its' zj) (tl:W.ρ.length=aB.T.length) (ta:∀(i:Nat) y e,W.ρ[i]?=some y->aB.T[i]?=some e->(y=x/\HW c its' W (cP x led o') y e)\/(y≠x/\σ.T[i]?=some e))
  (hi:∀p∈its',(p∈its/\p.1≠x)\/p=(x,o')) (hn:its'.Pairwise fun p q=>p.1≠q.1):RR c its' W aB agj zj (cP x led o') h' gn:=by
 have keep:∀p∈led,p.1≠x->p∈cP x led o':=fun p hp hc=>qd hp hc
 have Xu:∀(y:Addr),y≠x->(∀q∈its,q.1≠y)->∀q∈its',q.1≠y:=fun y hy hq q hq'=>(hi q hq').elim (fun k=>hq q k.1) fun k=>by rw[k];exact fun e=>hy e.symm
 refine⟨R.G,Z,R.H,el,by rw[ec];exact R.cr,fun y hy=>?_,hf,tl,R.tn,fun i y e h1 h2=>?_,fun p hp=>⟨keep p (R.jF p hp).1 (Nat.ne_of_lt (Nat.lt_of_lt_of_le (R.jF p hp).2 mR)),(R.jF p hp).2⟩,R.d0,fun p hp=>keep p (R.dl p hp) (nD p hp),R.d1,fun p hp=>?_,hn⟩
 ·obtain⟨k0,k1⟩:=eu y hy
  obtain⟨a,oa,k2,k3,k4,k5,k6,k7⟩:=R.ur y k0
  have hax:a≠x:=fun e=>k1 (e▸k2)
  exact⟨a,oa,k2,keep _ k3 hax,k4,k5,k6,Xu a hax k7⟩
 ·rcases ta i y e h1 h2 with k|⟨k1,k2⟩
  ·exact k.2
  ·exact(R.ta i y e h1 k2).mono (Wd.le.rfl W) (fun o ho=>keep _ ho k1) (fun _ q hq=>.inl hq) fun _ q hq=>(hi q hq).elim (fun k=>.inl k.1) fun k=>.inr (by rw[k];exact fun e=>k1 e.symm)
 ·rcases hi p hp with⟨k1,k2⟩|rfl
  ·obtain⟨a,b,d⟩:=R.il p k1
   exact⟨keep p a k2,b,d⟩
  ·exact⟨jl hm,mR,nD⟩
theorem nj{l:List Addr}(h:l.Nodup){i j:Nat}{x:Addr}(a:l[i]?=some x)(b:l[j]?=some x):i=j:=by
 obtain⟨hi,e⟩:=List.getElem?_eq_some_iff.mp a
 obtain⟨hj,f⟩:=List.getElem?_eq_some_iff.mp b
 rcases Nat.lt_trichotomy i j with q|q|q
 ·exact absurd (e.trans f.symm) (List.pairwise_iff_getElem.mp h i j hi hj q)
 ·exact q
 ·exact absurd (f.trans e.symm) (List.pairwise_iff_getElem.mp h j i hj hi q)
theorem ou{α:Type _}{l:List α}{i j:Nat}{a b:α}(h:(l.set i a)[j]?=some b):(j=i/\b=a)\/(j≠i/\l[j]?=some b):=by
 by_cases e:j=i
 ·subst e
  rw[List.getElem?_set_self (by simpa using (List.getElem?_eq_some_iff.mp h).1)] at h
  exact .inl ⟨rfl,(Option.some.inj h).symm⟩
 ·rw[List.getElem?_set_ne (fun k=>e k.symm)] at h
  exact .inr ⟨e,h⟩
theorem RR.nu(R:RR c its W σ agj lf led h gn){x:Addr}{vs:List Value}{n:Nat}(hm:(x,ay vs n)∈led):∀y,σ.u=some y->σ.u=some y/\c.kg.lookup y≠some x:=fun y hy=>⟨hy,fun e=>by
 obtain⟨a,o,k1,k2,k3,_⟩:=R.ur y hy
 rw[e] at k1
 cases k1
 rw[R.uq k2 hm] at k3
 cases k3⟩
theorem RR.Cm(R:RR c its W σ agj lf led h gn){i:Nat}{x:Addr}{s s':SV}{vs pg:List Value}{n n':Nat}(hx:W.ρ[i]?=some x)(hT:σ.T[i]?=some (s,false))(hm:(x,ay vs n)∈led)(hs:VL W s' pg)(Z:St agj c.L c.nw c.d h' (c.ms lf) (cP x led (ay pg n'))):
  RR c its W (σ.lE i (s',false)) agj lf (cP x led (ay pg n')) h' gn:=by
 obtain⟨_,k1,k2,k3⟩:=R.ta i x _ hx hT
 refine R.turn hm k1 k2 Z R.lr rfl (R.nu hm) R.fr (by simp[Sg.lE,R.tl]) (fun j y e h1 h2=>?_) (fun p hp=>.inl ⟨hp,k3 p hp⟩) R.fF
 rcases ou h2 with⟨rfl,rfl⟩|⟨hj,h2⟩
 ·rw[hx] at h1
  cases h1
  exact .inl ⟨rfl,⟨_,_,jl hm,hs⟩,k1,k2,k3⟩
 ·exact .inr ⟨fun e=>hj (nj R.tn h1 (e▸hx)),h2⟩
theorem zk{x:Addr}{o':Obj}{G:Led}{p:Addr×Obj}(h:p∈cP x G o'):(p∈G/\p.1≠x)\/p=(x,o'):=by
 obtain⟨q,hq,e⟩:=List.mem_map.mp h
 by_cases hx:q.1=x
 ·rw[if_pos hx] at e
  exact .inr e.symm
 ·rw[if_neg hx] at e
  rw[<-e]
  exact .inl ⟨hq,hx⟩
theorem zl{x:Addr}{o':Obj}{G:Led}:(cP x G o').map (·.1)=G.map (·.1):=by
 unfold cP
 rw[List.map_map]
 refine List.map_congr_left fun q _=>?_
 show(if q.1=x then(x,o') else q).1=q.1
 by_cases hx:q.1=x
 ·rw[if_pos hx];exact hx.symm
 ·rw[if_neg hx]
theorem zm{G H:Led}(e:H.map (·.1)=G.map (·.1))(h:G.Pairwise fun p q=>p.1≠q.1):H.Pairwise fun p q=>p.1≠q.1:=by
 have k:(G.map (·.1)).Pairwise (·≠·):=List.pairwise_map.mpr h
 rw[<-e] at k
 exact List.pairwise_map.mp k
theorem RR.HX(R:RR c its W σ agj lf led h gn){x:Addr}{o o':Obj}(hm:(x,o)∈its)(Z:St agj c.L c.nw c.d h' (c.ms lf) (cP x led o'))(hf:c.fr (cP x its o') lf):RR c (cP x its o') W σ agj lf (cP x led o') h' gn:=by
 obtain⟨k1,k2,k3⟩:=R.il _ hm
 refine R.turn k1 k2 k3 Z R.lr rfl (fun y hy=>⟨hy,fun e=>?_⟩) hf R.tl (fun i y e h1 h2=>?_) (fun p hp=>zk hp) (zm zl R.fF)
 ·obtain⟨a,oa,q1,q2,q3,_,_,q6⟩:=R.ur y hy
  rw[e] at q1
  cases q1
  exact q6 _ hm rfl
 ·by_cases hy:y=x
  ·refine .inl ⟨hy,?_⟩
   have q:=R.ta i y e h1 h2
   obtain⟨s,b⟩:=e
   cases b with
   |true=>exact q
   |false=>exact absurd hy.symm (q.2.2.2 _ hm)
  ·exact .inr ⟨hy,h2⟩
theorem RR.D6(R:RR c its W σ agj lf led h gn){x:Addr}{o:Obj}(hm:(x,o)∈its){zj:List (Str×Value)}{l':List (Str×SV)}(Z:St agj c.L c.nw c.d h' (c.ms zj) (cy x led))(hf:c.fr (cy x its) zj)(el:∀y s,l'.lookup y=some s->∃v,dB zj y=some v/\VR W s v):RR c (cy x its) W { σ with l:=l'} agj zj (cy x led) h' gn:=by
 obtain⟨k1,k2,k3⟩:=R.il _ hm
 have sub:∀p∈cy x its,p∈its/\p.1≠x:=fun p hp=>⟨(List.mem_filter.mp hp).1,of_decide_eq_true (List.mem_filter.mp hp).2⟩
 refine⟨R.G,Z,R.H,el,R.cr,fun y hy=>?_,hf,R.tl,R.tn,fun i y e h1 h2=>?_,fun p hp=>⟨gv (R.jF p hp).1 (Nat.ne_of_lt (Nat.lt_of_lt_of_le (R.jF p hp).2 k2)),(R.jF p hp).2⟩,R.d0,fun p hp=>gv (R.dl p hp) (k3 p hp),R.d1,fun p hp=>?_,List.Pairwise.sublist jm R.fF⟩
 ·obtain⟨a,oa,q1,q2,q3,q4,q5,q6⟩:=R.ur y hy
  exact⟨a,oa,q1,gv q2 (fun e=>q6 _ hm e.symm),q3,q4,q5,fun q hq=>q6 q (sub q hq).1⟩
 ·have q:=R.ta i y e h1 h2
  obtain⟨s,b⟩:=e
  cases b with
  |true=>exact q
  |false=>
   obtain⟨⟨vs,n,a,b⟩,q1,q2,q3⟩:=q
   exact⟨⟨vs,n,gv a (fun e=>q3 _ hm e.symm),b⟩,q1,q2,fun q hq=>q3 q (sub q hq).1⟩
 ·obtain⟨k,ne⟩:=sub p hp
  obtain⟨a,b,d⟩:=R.il p k
  exact⟨gv a ne,b,d⟩
theorem RR.Xv(R:RR c its W σ agj lf led h gn){x:Addr}{o:Obj}(hm:(x,o)∈its)(Z:St agj c.L c.nw c.d h' (c.ms lf) (cy x led))(hf:c.fr (cy x its) lf):RR c (cy x its) W σ agj lf (cy x led) h' gn:=R.D6 hm Z hf R.lr
theorem RR.fact(R:RR c its W σ agj lf led h gn){x:Addr}{o:Obj}(hm:(x,o)∈led)(mR:Ge c.d x)(ni:∀q∈its,q.1≠x){aB:Sg}(el:aB.l=σ.l)(ec:∀y s,aB.c.lookup y=some s->σ.c.lookup y=some s\/∃v,c.kg.lookup y=some x/\o.data=.cell (some v)/\VR W s v)
  (eu:∀y,aB.u=some y->σ.u=some y/\c.kg.lookup y≠some x) (tl:W.ρ.length=aB.T.length) (ta:∀(i:Nat) y e,W.ρ[i]?=some y->aB.T[i]?=some e->(σ.T[i]?=some e/\(e.2=false->y≠x))\/(y=x/\e.2=true/\∃vs n,o=ay vs n/\VL W e.1 vs)):
  RR c its ⟨W.ρ,(x,o)::W.D⟩ aB agj lf led h gn:=by
 have hW:=W.push x o
 have new:∀(y:Addr),y≠x->(∀q∈W.D,q.1≠y)->∀q∈(x,o)::W.D,q.1≠y:=fun y hy hq q k=>(List.mem_cons.mp k).elim (fun e=>by rw[e];exact fun e=>hy e.symm) (hq q)
 refine⟨R.G,R.Z,R.H,fun y s hs=>?_,fun y s hs=>?_,fun y hy=>?_,R.fr,tl,R.tn,fun i y e h1 h2=>?_,R.jF,fun p hp=>.tail _ (R.d0 p hp),fun p hp=>?_,fun p hp=>?_,fun p hp=>?_,R.fF⟩
 ·rw[el] at hs
  obtain⟨v,a,b⟩:=R.lr y s hs
  exact⟨v,a,b.mono hW⟩
 ·rcases ec y s hs with k|⟨v,k1,k2,k3⟩
  ·obtain⟨a,oa,v,k1,k2,k3,k4⟩:=R.cr y s k
   exact⟨a,oa,v,k1,.tail _ k2,k3,k4.mono hW⟩
  ·exact⟨x,o,v,k1,.head _,k2,k3.mono hW⟩
 ·obtain⟨k0,k1⟩:=eu y hy
  obtain⟨a,oa,k2,k3,k4,k5,k6,k7⟩:=R.ur y k0
  exact⟨a,oa,k2,k3,k4,k5,new a (fun e=>k1 (e▸k2)) k6,k7⟩
 ·rcases ta i y e h1 h2 with⟨k1,k2⟩|⟨rfl,k2,vs,n,rfl,k3⟩
  ·exact(R.ta i y e h1 k1).mono hW (fun _ h=>h) (fun b q hq=>(List.mem_cons.mp hq).elim (fun e=>.inr (by rw[e];exact fun e=>k2 b e.symm)) .inl) fun _ q hq=>.inl hq
  ·obtain⟨s,b⟩:=e
   cases k2
   exact⟨vs,n,.head _,k3.mono hW⟩
 ·exact(List.mem_cons.mp hp).elim (fun e=>by rw[e];exact hm) (R.dl p)
 ·exact(List.mem_cons.mp hp).elim (fun e=>.inr (by rw[e];exact mR)) (R.d1 p)
 ·obtain⟨a,b,d⟩:=R.il p hp
  exact⟨a,b,new p.1 (ni p hp) d⟩
theorem RR.frz(R:RR c its W σ agj lf led h gn){i:Nat}{x:Addr}{s:SV}(hx:W.ρ[i]?=some x)(hT:σ.T[i]?=some (s,false)):∃vs n,VL W s vs/\(x,ay vs n)∈led/\RR c its ⟨W.ρ,(x,ay vs n)::W.D⟩ (σ.lE i (s,true)) agj lf led h gn:=by
 obtain⟨⟨vs,n,hm,hv⟩,k1,k2,k3⟩:=R.ta i x _ hx hT
 refine⟨vs,n,hv,hm,R.fact hm k1 k3 rfl (fun y s hs=>.inl hs) (R.nu hm) (by simp[Sg.lE,R.tl]) fun j y e h1 h2=>?_⟩
 rcases ou h2 with⟨rfl,rfl⟩|⟨hj,h2⟩
 ·rw[hx] at h1
  cases h1
  exact .inr ⟨rfl,rfl,vs,n,rfl,hv⟩
 ·exact .inl ⟨h2,fun _ e=>hj (nj R.tn h1 (e▸hx))⟩
theorem RR.lrv(R:RR c its W σ agj lf led h gn){x:Str}{s:SV}{v:Value}(hv:VR W s v)(y:Str)(t:SV)(hy:(qu x s σ.l).lookup y=some t):∃u,dB ((x,v)::lf) y=some u/\VR W t u:=by
 rcases nh hy with⟨rfl,rfl⟩|⟨mO,hy⟩
 ·exact⟨v,aR,hv⟩
 ·obtain⟨u,a,b⟩:=R.lr y t hy
  exact⟨u,aW (by simpa using mO) a,b⟩
theorem RR.loc(R:RR c its W σ agj lf led h gn){x:Str}{s:SV}{v:Value}(hv:VR W s v)(Z:St agj c.L c.nw c.d h' (c.ms ((x,v)::lf)) led)(hf:c.fr its ((x,v)::lf)):RR c its W { σ with l:=qu x s σ.l} agj ((x,v)::lf) led h' gn:=by
 exact⟨R.G,Z,R.H,R.lrv hv,R.cr,R.ur,hf,R.tl,R.tn,R.ta,R.jF,R.d0,R.dl,R.d1,R.il,R.fF⟩
def Wk(s t:SV):Prop:=∀W,(∀v,VR W s v->VR W t v)/\∀vs,VL W s vs->VL W t vs
theorem Wk.rfl{s:SV}:Wk s s:=fun _=>⟨fun _ h=>h,fun _ h=>h⟩
theorem Wk.int{a b:Int}{c d:IC}(e:a=b)(h:bT a c->bT b d):Wk (.int a c) (.int b d):=fun _=>⟨fun v k=>k.elim fun t k=>⟨t,e▸k.1,h k.2⟩,fun _ h=>h⟩
theorem Wk.bool{a b l m:Bool}(e:a=b):Wk (.bool a l) (.bool b m):=fun _=>⟨fun v (k:v=_)=>show v=_ from e▸k,fun _ h=>h⟩
theorem Wk.tup{s t:SV}(h:Wk s t):Wk (.tup s) (.tup t):=fun W=>⟨fun v k=>k.elim fun x k=>k.elim fun vs k=>k.elim fun n k=>⟨x,vs,n,k.1,k.2.1,(h W).2 _ k.2.2⟩,fun _ h=>h⟩
theorem Wk.rl{s t:SV}(h:Wk s t):Wk (.rl s) (.rl t):=fun W=>⟨fun v k=>k.elim fun x k=>k.elim fun vs k=>k.elim fun n k=>⟨x,vs,n,k.1,k.2.1,(h W).2 _ k.2.2⟩,fun _ h=>h⟩
theorem Wk.cons{s t s' t':SV}(h:Wk s t)(h':Wk s' t'):Wk (.cons s s') (.cons t t'):=fun W=>⟨fun _ k=>k,fun vs k=>k.elim fun v k=>k.elim fun r k=>⟨v,r,k.1,(h W).1 _ k.2.1,(h' W).2 _ k.2.2⟩⟩
theorem Wk.trans{s t u:SV}(h:Wk s t)(k:Wk t u):Wk s u:=fun W=>⟨fun v x=>(k W).1 v ((h W).1 v x),fun v x=>(k W).2 v ((h W).2 v x)⟩
theorem RR.wk(R:RR c its W σ agj lf led h gn){aB:Sg}(l:∀x s,aB.l.lookup x=some s->∃t,σ.l.lookup x=some t/\Wk t s)(cc:aB.c=σ.c)(u:aB.u=σ.u)(T:∀(i:Nat) e,aB.T[i]?=some e->∃f,σ.T[i]?=some f/\f.2=e.2/\Wk f.1 e.1)(tl:aB.T.length=σ.T.length):RR c its W aB agj lf led h gn:=by
 refine⟨R.G,R.Z,R.H,fun x s hs=>?_,by rw[cc];exact R.cr,by rw[u];exact R.ur,R.fr,R.tl.trans tl.symm,R.tn,fun i x e h1 h2=>?_,R.jF,R.d0,R.dl,R.d1,R.il,R.fF⟩
 ·obtain⟨t,a,b⟩:=l x s hs
  obtain⟨v,d,e⟩:=R.lr x t a
  exact⟨v,d,(b W).1 v e⟩
 ·obtain⟨⟨s,b⟩,k1,k2,k3⟩:=T i e h2
  have q:=R.ta i x _ h1 k1
  obtain⟨s',b'⟩:=e
  cases k2
  cases b with
  |true=>obtain⟨vs,n,a,b⟩:=q;exact⟨vs,n,a,(k3 W).2 vs b⟩
  |false=>obtain⟨⟨vs,n,a,b⟩,q⟩:=q;exact⟨⟨vs,n,a,(k3 W).2 vs b⟩,q⟩
end
def Eg{α β:Type}(r:Wd->β->α->Prop)(c:Cx)(t:Sem α)(W:Wd)(σ:Sg)(k:β->Sg->Prop):Prop:=
 ∀its s Q E,RS c its W σ s->c.ex E->(∀W' v b aB s',W.le W'->r W' b v->RS c its W' aB s'->k b aB->Q v s')->wpAny (MM c.w) c.A t Q E s
theorem eL{α β:Type}{r:Wd->β->α->Prop}{c:Cx}{its:Led}{W W1:Wd}{Q:α->Shared->Prop}{k:β->Sg->Prop}(l:W.le W1)(kk:∀W' v b aB s',W.le W'->r W' b v->RS c its W' aB s'->k b aB->Q v s')(W':Wd)(v:α)(b:β)(aB:Sg)(s':Shared)(h:W1.le W'):r W' b v->RS c its W' aB s'->k b aB->Q v s':=kk W' v b aB s' (l.trans h)
noncomputable abbrev Ev:=Eg VR
noncomputable abbrev Evs:=Eg VL
abbrev Et(c:Cx)(t:Sem Bool)(W:Wd)(σ:Sg)(k:Bool->Bool->Sg->Prop):Prop:=Eg (fun _ (b:Bool×Bool) v=>v=b.1) c t W σ fun b=>k b.1 b.2
section
variable{c:Cx}{W:Wd}{σ:Sg}
theorem Eg.imp{α β:Type}{r:Wd->β->α->Prop}{t:Sem α}{k k':β->Sg->Prop}(h:Eg r c t W σ k)(m:∀b aB,k b aB->k' b aB):Eg r c t W σ k':=
 fun its s Q E hs he kk=>h its s Q E hs he fun W' v b aB s' l hr cM hk=>kk W' v b aB s' l hr cM (m b aB hk)
theorem Eg.ret{α β:Type}{r:Wd->β->α->Prop}{t:Sem α}{k:β->Sg->Prop}(b:β)(hk:k b σ)(rule:∀h gn dr tk os (Q:α->Shared->Prop) E,(∀v aN,r W b v->Q v ⟨h,gn,dr,aN,os⟩)->wpAny (MM c.w) c.A t Q E ⟨h,gn,dr,tk,os⟩):Eg r c t W σ k:=by
 intro its s Q E hs he kk
 obtain⟨agj,lf,led,h,gn,tk,rfl,R⟩:=hs
 exact rule _ _ _ _ _ _ _ fun v aN hv=>kk W v b σ _ (Wd.le.rfl W) hv ⟨agj,lf,led,h,gn,aN,rfl,R⟩ hk
theorem cH{t:Sem Value}{k:SV->Sg->Prop}{x:Int}{i:IC}(hi:bT x i)(hk:k (.int x i) σ)(rule:∀h gn dr tk os Q E,(∀u aN,Q (.int x u) ⟨h,gn,dr,aN,os⟩)->wpAny (MM c.w) c.A t Q E ⟨h,gn,dr,tk,os⟩):Ev c t W σ k:=
 Eg.ret (.int x i) hk fun h gn dr tk os Q E kk=>rule h gn dr tk os Q E fun u aN=>kk _ aN ⟨u,rfl,hi⟩
theorem fS{t:Sem Value}{k:SV->Sg->Prop}{b l:Bool}(hk:k (.bool b l) σ)(rule:∀s Q E,Q (.bool b) s->wpAny (MM c.w) c.A t Q E s):Ev c t W σ k:=
 Eg.ret (.bool b l) hk fun h gn dr tk os Q E kk=>rule _ Q E (kk _ tk rfl)
end
noncomputable def IC.pos(c:IC):Bool:=c.nz&&c.nn
noncomputable def dF(i:Int):IC:=⟨i.natAbs.log2+1, !(i==0),decide (0<=i),false,true⟩
theorem b8(i:Int):bT i (dF i):=by
 refine⟨fun _=>?_,fun e=>?_,fun e=>?_,fun e=>(by cases e)⟩
 ·show i.natAbs<2 ^ (i.natAbs.log2+1)
  exact Nat.lt_log2_self
 ·simp[dF] at e
  exact e
 ·simpa[dF] using e
theorem bT.pos{a:Int}{c:IC}(h:bT a c)(e:c.pos=true):0<a:=by
 have e2:=(Bool.and_eq_true _ _).mp e
 have:=h.z e2.1
 have:=h.p e2.2
 omega
theorem bT.of{x:Int}{n:Nat}{nz nn:Bool}(s:n≠0->Sm n x)(z:nz=true->x≠0)(p:nn=true->0<=x):bT x ⟨n,nz,nn,false,false⟩:=⟨s,z,p,fun e=>Bool.noConfusion e⟩
theorem bT.of0{x:Int}{n:Nat}{nn:Bool}(s:n≠0->Sm n x)(p:nn=true->0<=x):bT x ⟨n,false,nn,false,false⟩:=.of s (fun e=>Bool.noConfusion e) p
noncomputable def bs(n m f:Nat):Nat:=match n,m with
 |0,_=>0
 |_,0=>0
 |_,_=>f
theorem zo{n m f:Nat}(h:bs n m f≠0):n≠0/\m≠0/\bs n m f=f:=by
 cases n with
 |zero=>exact absurd rfl h
 |succ n=>cases m with
  |zero=>exact absurd rfl h
  |succ m=>exact⟨by exact Nat.succ_ne_zero _,(Nat.succ_ne_zero _),rfl⟩
noncomputable def Cn(c d:IC)(x:Int)(e:IC):IC:=match c.lit&&d.lit with
 |true=>dF x
 |false=>e
theorem eW{c d e:IC}{x:Int}(h:bT x e):bT x (Cn c d x e):=by
 unfold Cn
 cases c.lit&&d.lit with
 |true=>exact b8 x
 |false=>exact h
theorem Sm.pow{i:Nat}{a:Int}(h:Sm i a):∀n:Nat,Sm (i*n+1) (a ^ n)
 |0=>by rw[Int.pow_zero];unfold Sm;simp
 |n+1=>by
  rw[Int.pow_succ]
  exact Sm.mono (Sm.mul (Sm.pow h n) h) (by rw[Nat.mul_succ];exact Nat.le_of_eq (Nat.add_right_comm _ _ _))
def wQ(op:Operator)(x:Int)(c:IC)(y:Int)(d:IC)(k:Int->IC->Prop):Prop:=match op with
 | .Add=>k (x+y) (Cn c d (x+y) ⟨bs c.n d.n (c.n+d.n+1),(c.pos&&d.nn)||(c.nn&&d.pos),c.nn&&d.nn,false,false⟩)
 | .Sub=>k (x-y) (Cn c d (x-y) ⟨bs c.n d.n (c.n+d.n+1),c.md&&d.lit&&(y==1),c.md&&d.lit&&(y==1),false,false⟩)
 | .Mult=>bF (!(c.n==0)&& !(d.n==0)&&Nat.ble (c.n+d.n) 1000000) (k (x*y) (Cn c d (x*y) ⟨c.n+d.n,c.nz&&d.nz,c.nn&&d.nn,false,false⟩))
 | .Mod=>bF d.pos (k (x.fmod y) (Cn c d (x.fmod y) ⟨d.n,false,true,false,false⟩))
 | .FloorDiv=>bF (d.pos&& !(d.n==0)&&Nat.ble d.n 8000) (k (x.fdiv y) (Cn c d (x.fdiv y) ⟨c.n,false,c.nn,false,false⟩))
 | .Pow=>bF (d.nn&&d.lit&& !(c.n==0)&&decide ((c.n:Int)*y<=2 ^ 27)) (k (x ^ y.toNat) (Cn c d (x ^ y.toNat) ⟨c.n*y.toNat+1,false,c.nn,false,false⟩))
 | .RShift=>bF d.nn (k (x.fdiv (2 ^ y.toNat)) ⟨0,false,c.nn,false,false⟩)
 | .BitAnd=>k (Builtin.bitAnd x y) ⟨0,false,false,false,false⟩
 |_=>False
theorem Sm.fdiv{i:Nat}{x y:Int}(h:Sm i x)(hy:0<y):Sm i (x.fdiv y):=by
 unfold Sm at*
 rw[Int.fdiv_eq_ediv_of_nonneg _ (eT hy)]
 have a1:x/y*y<=x:=Int.ediv_mul_le x (lu hy)
 have a2:x<(x/y+1)*y:=Int.lt_ediv_add_one_mul_self x hy
 rcases Int.lt_or_le x 0 with hx|hx
 ·have b1:x<=x/y:=by
   rcases Int.lt_or_le (x/y) x with c|c
   ·exfalso
    have d1:(x/y+1)*y<=x*y:=Int.mul_le_mul_of_nonneg_right (c) (eT hy)
    have d2:x*y<=x*1:=Int.mul_le_mul_of_nonpos_left (Int.le_of_lt hx) (hy)
    exact Int.lt_irrefl _ (Int.lt_of_lt_of_le a2 (Int.le_trans d1 (Int.le_trans d2 (Int.le_of_eq (Int.mul_one _)))))
   ·exact c
  have b2:x/y<0:=Int.ediv_neg_of_neg_of_pos hx hy
  exact Xr h b1 b2
 ·have b1:0<=x/y:=Int.ediv_nonneg hx (eT hy)
  have b2:x/y<=x:=Int.ediv_le_self y hx
  exact Nat.lt_of_le_of_lt (Int.ofNat_le.mp (by rw[Int.natAbs_of_nonneg b1,Int.natAbs_of_nonneg hx];exact b2)) h
theorem nb{b c:Bool}(h:(b&&c)=true):b=true/\c=true:=(Bool.and_eq_true _ _).mp h
theorem n0{n:Nat}(h:(!(n==0))=true):n≠0:=by simpa using h
theorem ow{x y:Int}(hx:0<=x)(hy:0<=y):0<=x.fdiv y:=by rw[Int.fdiv_eq_ediv_of_nonneg _ hy];exact Int.ediv_nonneg hx hy
theorem zp{x y:Int}{c d:IC}(h:bT x c)(g:bT y d):bT (x+y) ⟨bs c.n d.n (c.n+d.n+1),(c.pos&&d.nn)||(c.nn&&d.pos),c.nn&&d.nn,false,false⟩:=by
 refine⟨fun e=>?_,fun e=>?_,fun e=>?_,fun e=>(by cases e)⟩
 ·obtain⟨a,b,e⟩:=zo e
  show Sm (bs _ _ _) _
  rw[e]
  exact Sm.add (h.s a) (g.s b)
 ·rcases (Bool.or_eq_true _ _).mp e with e|e
  ·have:=h.pos (nb e).1
   have:=g.p (nb e).2
   omega
  ·have:=h.p (nb e).1
   have:=g.pos (nb e).2
   omega
 ·have:=h.p (nb e).1
  have:=g.p (nb e).2
  omega
theorem zq{x y:Int}{c d:IC}(h:bT x c)(g:bT y d):bT (x-y) ⟨bs c.n d.n (c.n+d.n+1),c.md&&d.lit&&(y==1),c.md&&d.lit&&(y==1),false,false⟩:=by
 have key:(c.md&&d.lit&&(y==1))=true->0<x-y:=fun e=>by
  have e1:=nb e
  have q:=(h.m (nb e1.1).1).one
  have:y=1:=by simpa using e1.2
  exact Int.sub_pos_of_lt (this▸q)
 refine⟨fun e=>?_,fun e=>?_,fun e=>?_,fun e=>(by cases e)⟩
 ·obtain⟨a,b,e⟩:=zo e
  show Sm (bs _ _ _) _
  rw[e]
  exact Sm.sub (h.s a) (g.s b)
 ·have:=key e;exact Int.ne_of_gt this
 ·have:=key e;exact Int.le_of_lt this
section
variable{c:Cx}{W:Wd}{σ:Sg}
theorem rY{op:Operator}{x y:Int}{i j:IC}{t u:Tok}{k:SV->Sg->Prop}(hk:wQ op x i y j fun z e=>k (.int z e) σ)(hx:bT x i)(hy:bT y j):Ev c (binaryOp op (.int x t) (.int y u)) W σ k:=by
 cases op<;>try exact False.elim hk
 case Add=>exact cH (eW (zp hx hy)) hk fun h gn dr tk os Q E kk=>Ka (kk _ _)
 case Sub=>exact cH (eW (zq hx hy)) hk fun h gn dr tk os Q E kk=>Kc (kk _ _)
 case Mult=>
  refine ai hk fun b hk=>?_
  have b1:=nb b
  have sx:=hx.s (n0 (nb b1.1).1)
  have sy:=hy.s (n0 (nb b1.1).2)
  refine cH (eW (.of (fun _=>Sm.mul sx sy) (fun e=>?_) fun e=>?_)) hk fun h gn dr tk os Q E kk=>Kd (JX sx sy (Nat.le_of_ble_eq_true b1.2)) (kk _ _)
  ·exact Int.mul_ne_zero (hx.z (nb e).1) (hy.z (nb e).2)
  ·exact Int.mul_nonneg (hx.p (nb e).1) (hy.p (nb e).2)
 case Mod=>
  refine ai hk fun b hk=>?_
  have p0:=hy.pos b
  exact cH (eW (.of0 (fun e=>Sm.fmod (hy.s e) p0) fun _=>Int.fmod_nonneg_of_pos _ p0)) hk fun h gn dr tk os Q E kk=>xN (lu p0) (kk _ _)
 case FloorDiv=>
  refine ai hk fun b hk=>?_
  have b1:=nb b
  have p0:=hy.pos (nb b1.1).1
  exact cH (eW (.of0 (fun e=>Sm.fdiv (hx.s e) p0) fun e=>ow (hx.p e) (Int.le_of_lt p0))) hk fun h gn dr tk os Q E kk=>FA (lu p0) (hy.s (n0 (nb b1.1).2)) (Nat.le_of_ble_eq_true b1.2) (kk _ _)
 case Pow=>
  refine ai hk fun b hk=>?_
  have b1:=nb b
  have b2:=nb b1.1
  have y0:=hy.p (nb b2.1).1
  have sx:=hx.s (n0 b2.2)
  refine cH (eW (.of0 (fun _=>Sm.pow sx _) fun e=>?_)) hk fun h gn dr tk os Q E kk=>UP y0 sx (of_decide_eq_true b1.2) (kk _ _)
  exact Int.pow_nonneg (hx.p e)
 case RShift=>
  refine ai hk fun b hk=>?_
  exact cH (.of0 (fun e=>absurd rfl e) fun e=>ow (hx.p e) (Int.pow_nonneg (by decide))) hk fun h gn dr tk os Q E kk=>Kg (hy.p b) (kk _ _)
 case BitAnd=>exact cH (.of0 (fun e=>absurd rfl e) fun e=>Bool.noConfusion e) hk fun h gn dr tk os Q E kk=>Kf (kk _ _)
end
theorem D8:∀{a0 a1 a2:Nat},a0+a1<PySem.cLine->a1=a2+1->a0+1+a2<PySem.cLine:=fun h1 h2=>by rw[Nat.add_right_comm,Nat.add_assoc,<-h2];exact h1
theorem nk:∀{a0 a1:Nat},a0+a1<PySem.cLine->a0<PySem.cLine:=fun h1=>Nat.lt_of_le_of_lt (Nat.le_add_right _ _) h1
theorem Xw:∀{a0 a1 a2 a3 a4:Nat},a0+1+a1<PySem.cLine->a1=Max.max a2 a3->a4=a0+1->a4+a2<PySem.cLine:=fun h1 h2 h3=>by rw[h3];exact Nat.lt_of_le_of_lt (Nat.add_le_add_left (h2▸Nat.le_max_left _ _) _) h1
theorem zu:∀{a0:Int},a0<1000->a0<2 ^ 63:=fun h1=>Int.lt_of_lt_of_le h1 (by decide)
set_option genSizeOf false
set_option genInjectivity false
structure fZ where
 cd:Nat
 cu:Nat
 tn:Bool
 con:SV->(SV->Prop)->Prop->Prop
structure Or where
 P:Params
 names:List (Str×NameKind)
 tab:List (Addr×fZ)
 cd:Nat
 cu:Nat
 tn:Bool
 fn:Bool
 lp:Bool
 ca:Bool
 rz:Prop
 ry:Prop
 mJ:Expr->List Stmt->Sg->(Sg->Prop)->Prop
noncomputable def zv(v:Value):SV:=match v with
 | .int i _=>.int i (dF i)
 | .none=>.none
 | .bool b=>.bool b true
 |v=>.val v
theorem oz(W:Wd)(v:Value):VR W (zv v) v:=by
 cases v<;>first|exact rfl|exact⟨_,rfl,b8 _⟩
noncomputable def Xx(o:Or)(x:Str):Option SV:=match nsIn (KK o.P) mainGlobals x with
 |some (some v)=>some (zv v)
 |some none=>match x==("__name__":Str) with
  |true=>none
  |false=>(bootBuiltins x).map .val
 |none=>none
noncomputable def rZ(o:Or)(σ:Sg)(x:Str):Option SV:=match x==("__debug__":Str) with
 |true=>none
 |false=>match o.names.lookup x with
  |some .local=>σ.l.lookup x
  |some .cell=>σ.c.lookup x
  |some .globalImplicit=>Xx o x
  |_=>none
def HY(c:Cx)(o:Or):Prop:=∀W σ x v pos,rZ o σ x=some v->Ev c (eval (.Name x pos) c.env) W σ fun v' aB=>v'=v/\aB=σ
structure FF(c:Cx)(o:Or):Prop where
 env:c.env=envX c.cn c.cs c.L c.a c.aJ c.cl
 ms:c.ms=dB
 kg:c.kg=c.cl
 names:o.names=c.cs.names
 fr:c.fr=fun _ _=>True
theorem nq{o:Or}{x:Str}{v:SV}(h:Xx o x=some v):(∃u,nsIn (KK o.P) mainGlobals x=some (some u)/\v=zv u)\/∃u,nsIn (KK o.P) mainGlobals x=some none/\bootBuiltins x=some u/\x≠"__name__"/\v=.val u:=by
 unfold Xx at h
 cases e:nsIn (KK o.P) mainGlobals x with
 |none=>rw[e] at h;cases h
 |some r=>
  rw[e] at h
  cases r with
  |some u=>exact .inl ⟨u,rfl,(Option.some.inj h).symm⟩
  |none=>
   cases e2:x==("__name__":Str) with
   |true=>simp only[e2] at h;cases h
   |false=>
    simp only[e2] at h
    cases e3:bootBuiltins x with
    |none=>rw[e3] at h;cases h
    |some u=>rw[e3] at h;exact .inr ⟨u,rfl,rfl,by simpa using e2,(Option.some.inj h).symm⟩
section
variable{c:Cx}{o:Or}{W:Wd}{σ:Sg}
theorem Eg.val{t:Sem Value}{v:SV}(rule:∀its agj lf led h gn tk (Q:Value->Shared->Prop) E,RR c its W σ agj lf led h gn->(∀u,VR W v u->Q u ⟨h,gn,c.dr,tk,c.os⟩)->wpAny (MM c.w) c.A t Q E ⟨h,gn,c.dr,tk,c.os⟩):Ev c t W σ fun v' aB=>v'=v/\aB=σ:=by
 intro its s Q E hs he kk
 obtain⟨agj,lf,led,h,gn,tk,rfl,R⟩:=hs
 exact rule its agj lf led h gn tk Q E R fun u hu=>kk W u v σ _ (Wd.le.rfl W) hu ⟨agj,lf,led,h,gn,tk,rfl,R⟩ ⟨rfl,rfl⟩
theorem nmX(F:FF c o)(ok:mH c o.cd o.cu)(hP:o.P=c.w.params){x:Str}{v:SV}{pos:Pos}(h:rZ o σ x=some v){its:Led}{agj:Heap}{lf:List (Str×Value)}{led:Led}{hp:Heap}{gn:Array GenState}{tk:Nat}{Q:Value->Shared->Prop}{E:Value->Shared->Prop}(R:RR c its W σ agj lf led hp gn)(kk:∀u,VR W v u->Q u ⟨hp,gn,c.dr,tk,c.os⟩):wpAny (MM c.w) c.A (eval (.Name x pos) c.env) Q E ⟨hp,gn,c.dr,tk,c.os⟩:=by
 unfold rZ at h
 cases hd:x==("__debug__":Str) with
 |true=>rw[hd] at h;cases h
 |false=>
  rw[hd] at h
  have h:(match o.names.lookup x with
   |some .local=>σ.l.lookup x
   |some .cell=>σ.c.lookup x
   |some .globalImplicit=>Xx o x
   |_=>none)=some v:=h
  rw[F.names] at h
  rw[F.env]
  cases hn:c.cs.names.lookup x with
  |none=>rw[hn] at h;cases h
  |some kd=>
   rw[hn] at h
   have Z:=R.Z
   rw[F.ms] at Z
   cases kd with
   |«local»=>
    obtain⟨u,a,b⟩:=R.lr x v h
    exact cK Z.F a ok.hk hn hd (kk u b)
   |cell=>
    obtain⟨a,ob,u,k1,k2,k3,k4⟩:=R.cr x v h
    rw[F.kg] at k1
    exact iI Z.N hn k1 (R.dl _ k2) k3 ok.hk hd (kk u k4)
   |globalImplicit=>
    rcases nq h with⟨u,e,rfl⟩|⟨u,e,e2,e3,rfl⟩
    ·rw[hP] at e
     exact rg Z.F (ok.X R.H) (ok.T R.H) e ok.hk hn hd (kk u (oz W u))
    ·rw[hP] at e
     exact d9 Z.F (ok.X R.H) (ok.T R.H) e e2 e3 ok.hk hn hd (kk u rfl)
   |free=>cases h
   |globalExplicit=>cases h
theorem Xy(F:FF c o)(ok:mH c o.cd o.cu)(hP:o.P=c.w.params):HY c o:=fun W σ x v pos h=>
 Eg.val fun its agj lf led hp gn tk Q E R kk=>nmX F ok hP h R kk
end
noncomputable def wR(σ:Sg)(s:SV):Option (SV×Sg):=bif jE s then some (s,σ) else none
noncomputable def zw(σ:Sg)(s:SV):Option (SV×Sg):=match s with
 | .lst i=>σ.T[i]?.bind fun e=>bif jE e.1 then some (.rl e.1,σ.lE i (e.1,true)) else none
 |s=>wR σ s
noncomputable def Co(σ:Sg)(s:SV):Option (SV×Sg):=SV.rec (motive:=fun _=>Sg->Option (SV×Sg)) (fun _ _ _=>none) (fun _ _ _=>none) (fun _=>none) (fun _ _ _=>none) (fun _ _ _=>none)
 (fun σ=>some (.nil,σ)) (fun h _ _ ih σ=>(zw σ h).bind fun p=>(ih p.2).bind fun q=>some (.cons p.1 q.1,q.2)) (fun _ _ _=>none) (fun _ _ _=>none) (fun _ _=>none) (fun _ _=>none) s σ
theorem eN{α:Type _}{b:Bool}{a r:α}(h:(bif b then some a else none)=some r):b=true/\a=r:=by
 cases b with
 |true=>exact⟨rfl,Option.some.inj h⟩
 |false=>exact no h
theorem set_set{α:Type _}{l:List α}{i:Nat}{a:α}(h:l[i]?=some a):l.set i a=l:=by
 obtain⟨hi,e⟩:=List.getElem?_eq_some_iff.mp h
 rw[<-e]
 exact List.set_getElem_self hi
section
variable{c:Cx}{its:Led}{W:Wd}{σ aB:Sg}{agj h:Heap}{lf:List (Str×Value)}{led:Led}{gn:Array GenState}
theorem RR.wR(R:RR c its W σ agj lf led h gn){s s':SV}{v:Value}(hv:VR W s v)(e:wR σ s=some (s',aB)):∃W',W.le W'/\VR W' s' v/\RR c its W' aB agj lf led h gn/\jE s'=true:=by
 obtain⟨hc,e⟩:=eN e
 injection e with e1 e2
 rw[<-e1,<-e2]
 exact⟨W,.rfl W,hv,R,hc⟩
theorem RR.dpl(R:RR c its W σ agj lf led h gn){i:Nat}{s':SV}{v:Value}(hv:VR W (.lst i) v)(e:zw σ (.lst i)=some (s',aB)):∃W',W.le W'/\VR W' s' v/\RR c its W' aB agj lf led h gn/\jE s'=true:=by
 obtain⟨⟨s,b⟩,hT,e⟩:=iD e
 obtain⟨hc,e⟩:=eN e
 injection e with e1 e2
 rw[<-e1,<-e2]
 obtain⟨x,hv,hx⟩:=hv
 rw[hv]
 cases b with
 |false=>
  obtain⟨vs,n,k1,k2,k3⟩:=R.frz hx hT
  exact⟨_,W.push _ _,⟨x,vs,n,rfl,.head _,k1.mono (W.push _ _)⟩,k3,hc⟩
 |true=>
  obtain⟨vs,n,k1,k2⟩:=R.ta i x _ hx hT
  refine⟨W,.rfl W,⟨x,vs,n,rfl,k1,k2⟩,?_,hc⟩
  rw[show σ.lE i (s,true)=σ by unfold Sg.lE;rw[set_set hT]]
  exact R
theorem RR.zw(R:RR c its W σ agj lf led h gn){s s':SV}{v:Value}(hv:VR W s v)(e:zw σ s=some (s',aB)):∃W',W.le W'/\VR W' s' v/\RR c its W' aB agj lf led h gn/\jE s'=true:=
 SV.casesOn (motive:=fun s=>VR W s v->S.zw σ s=some (s',aB)->∃W',W.le W'/\VR W' s' v/\RR c its W' aB agj lf led h gn/\jE s'=true) s (fun _ _=>R.wR) (fun _ _=>R.wR) R.wR (fun _=>R.wR) (fun _=>R.wR) R.wR (fun _ _=>R.wR) (fun _ _=>R.wR) (fun _ _=>R.wR) (fun _=>R.dpl) (fun _=>R.wR) hv e
theorem RR.Co{s:SV}:∀{W:Wd} {σ τ:Sg} {s':SV} {vs:List Value},RR c its W σ agj lf led h gn->VL W s vs->Co σ s=some (s',τ)->∃W',W.le W'/\VL W' s' vs/\RR c its W' τ agj lf led h gn/\jE s'=true:=by
 induction s with
 |nil=>
  intro W σ τ s' vs R hv e
  injection Option.some.inj e with e1 e2
  rw[<-e1,<-e2]
  exact⟨W,.rfl W,hv,R,rfl⟩
 |cons a b wO uE=>
  intro W σ τ s' vs R hv e
  obtain⟨v,r,hv,k1,k2⟩:=hv
  obtain⟨⟨a',au⟩,h1,e⟩:=iD e
  obtain⟨⟨b',aO⟩,h2,e⟩:=iD e
  cases e
  rw[hv]
  obtain⟨W1,l1,q1,R1,c1⟩:=R.zw k1 h1
  obtain⟨W2,l2,q2,R2,c2⟩:=uE R1 (VL.mono (s:=b) k2 l1) h2
  exact⟨W2,l1.trans l2,⟨v,r,rfl,VR.mono (s:=a') q1 l2,q2⟩,R2,(Bool.and_eq_true _ _).mpr ⟨c1,c2⟩⟩
 |_=>exact fun _ _ e=>no e
end
noncomputable def Cp(s:SV):SV->Option (Bool×Bool):=SV.rec (motive:=fun _=>SV->Option (Bool×Bool))
 (fun a c t=>(dw t).bind fun p=>some (a==p.1,c.lit&&p.2.lit))
 (fun a l t=>(D4 t).bind fun p=>some (a==p.1,l&&p.2))
 (fun _=>none)
 (fun _ ih t=>(pe t).bind ih)
 (fun _ ih t=>(om t).bind ih)
 (fun t=>(JA t).bind fun _=>some (true,true))
 (fun _ _ ih ih2 t=>(D5 t).bind fun p=>(ih p.1).bind fun x=>(ih2 p.2).bind fun y=>some (x.1&&y.1,x.2&&y.2))
 (fun _ _ _=>none) (fun _ _ _=>none) (fun _ _=>none) (fun _ _=>none) s
noncomputable def dep(s:SV):Nat:=SV.rec (motive:=fun _=>Nat) (fun _ _=>0) (fun _ _=>0) 0 (fun _ h=>h+1) (fun _ h=>h+1) 0 (fun _ _ h t=>max h t) (fun _ _=>0) (fun _ _=>0) (fun _=>0) (fun _=>0) s
open PySem.SeqAt in
structure HZ(A:Around)(st:Shared)(v u:Value)(b:Bool):Prop where
 rc:RcAt A st v u b
 ne:RcNeAt A st v u (!b)
 eq:EqAt A st v u b
open PySem.SeqAt in
structure EqL(A:Around)(st:Shared)(vs us:List Value)(b:Bool):Prop where
 len:vs.length=us.length
 e:∃e:Nat->Bool,(∀j (q1:j<vs.toArray.size) (q2:j<us.toArray.size),EqAt A.in1 st vs.toArray[j] us.toArray[j] (e j))/\(List.range vs.length).all e=b
theorem all_range{e:Nat->Bool}(n:Nat):(List.range (n+1)).all e=(e 0&&(List.range n).all fun j=>e (j+1)):=by
 rw[List.range_succ_eq_map,List.all_cons,List.all_map]
 rfl
section
variable{W:Wd}{agj h:Heap}{L:Addr}{led:Led}{gn:Array GenState}{dr:Drawn}{tk:Nat}{os:OsState}
theorem News.uq{agj h:Heap}{L:Addr}{led:Led}(N:News agj L h led){x:Addr}{o o':Obj}(a:(x,o)∈led)(b:(x,o')∈led):o=o':=Option.some.inj ((N _ a).1.symm.trans (N _ b).1)
theorem zx(N:News agj L h W.D)(s:SV):(∀t r v,(rel W s).1 v->(rel W t).1 v->Cp s t=some r->r.1=true)/\∀t r vs,(rel W s).2 vs->(rel W t).2 vs->Cp s t=some r->r.1=true:=by
 induction s with
 |int a c=>
  refine⟨fun t r v h1 h2 e=>?_,fun t r vs h1=>False.elim h1⟩
  refine ah e fun p e1 e=>?_
  rw[bL e1] at h2
  obtain⟨u,k1,_⟩:=h1
  obtain⟨u',k2,_⟩:=h2
  rw[k1] at k2
  rw[<-Option.some.inj e]
  injection k2 with k2
  exact beq_iff_eq.mpr k2
 |bool a c=>
  refine⟨fun t r v h1 h2 e=>?_,fun t r vs h1=>False.elim h1⟩
  refine ah e fun p e1 e=>?_
  rw[rW e1] at h2
  have h2:Value.bool a=.bool p.1:=Eq.trans (Eq.symm h1) h2
  rw[<-Option.some.inj e]
  injection h2 with k2
  exact beq_iff_eq.mpr k2
 |tup s ih=>
  refine⟨fun t r v h1 h2 e=>?_,fun t r vs h1=>False.elim h1⟩
  refine ah e fun p e1 e=>?_
  rw[gK e1] at h2
  obtain⟨x,vs,n,k1,a1,a2⟩:=h1
  obtain⟨x',pg,n',k2,b1,b2⟩:=h2
  rw[k1] at k2
  injection k2 with k2
  rw[<-k2] at b1
  have q2:vs.toArray=pg.toArray:=by injection News.uq N a1 b1 with _ _ q _;injection q
  have q3:vs=pg:=congrArg Array.toList q2
  rw[<-q3] at b2
  exact ih.2 p r vs a2 b2 e
 |rl s ih=>
  refine⟨fun t r v h1 h2 e=>?_,fun t r vs h1=>False.elim h1⟩
  refine ah e fun p e1 e=>?_
  rw[ir e1] at h2
  obtain⟨x,vs,n,k1,a1,a2⟩:=h1
  obtain⟨x',pg,n',k2,b1,b2⟩:=h2
  rw[k1] at k2
  injection k2 with k2
  rw[<-k2] at b1
  have q2:vs.toArray=pg.toArray:=by injection News.uq N a1 b1 with _ _ q _;injection q
  have q3:vs=pg:=congrArg Array.toList q2
  rw[<-q3] at b2
  exact ih.2 p r vs a2 b2 e
 |nil=>
  refine⟨fun t r v h1=>False.elim h1,fun t r vs h1 h2 e=>?_⟩
  refine ah e fun p e1 e=>?_
  rw[<-Option.some.inj e]
 |cons a b wO uE=>
  refine⟨fun t r v h1=>False.elim h1,fun t r vs h1 h2 e=>?_⟩
  refine ah e fun p e1 e=>?_
  refine ah e fun x e2 e=>?_
  refine ah e fun y e3 e=>?_
  rw[mU e1] at h2
  obtain⟨v,w,k1,k2,k3⟩:=h1
  obtain⟨v',w',j1,j2,j3⟩:=h2
  rw[k1] at j1
  injection j1 with j4 j5
  rw[<-j4] at j2
  rw[<-j5] at j3
  rw[<-Option.some.inj e,wO.1 _ x v k2 j2 e2,uE.2 _ y w k3 j3 e3]
  rfl
 |none=>exact⟨fun t r v h1 h2 e=>no e,fun t r vs h1=>False.elim h1⟩
 |fq=>exact⟨fun t r v h1 h2 e=>no e,fun t r vs h1=>False.elim h1⟩
 |aU=>exact⟨fun t r v h1 h2 e=>no e,fun t r vs h1=>False.elim h1⟩
 |lst=>exact⟨fun t r v h1 h2 e=>no e,fun t r vs h1=>False.elim h1⟩
 |val=>exact⟨fun t r v h1 h2 e=>no e,fun t r vs h1=>False.elim h1⟩
theorem HZ.ref(N:News agj L h W.D){A:Around}{s t:SV}{r:Bool×Bool}{x y:Addr}(h1:(rel W s).1 (.ref x))(h2:(rel W t).1 (.ref y))(e:Cp s t=some r)(a:PySem.SeqAt.RcAt A ⟨h,gn,dr,tk,os⟩ (.ref x) (.ref y) r.1)(b:PySem.SeqAt.RcNeAt A ⟨h,gn,dr,tk,os⟩ (.ref x) (.ref y) (!r.1)):HZ A ⟨h,gn,dr,tk,os⟩ (.ref x) (.ref y) r.1:=by
 refine⟨a,b,?_⟩
 by_cases GQ:x=y
 ·rw[<-GQ] at h2⊢
  rw[(zx N s).1 t r _ h1 h2 e]
  exact PySem.SeqAt.EqAt.same _
 ·exact PySem.SeqAt.EqAt.of_refs GQ a
theorem nv(N:News agj L h W.D)(s:SV):(∀(A:Around) t r v u,(rel W s).1 v->(rel W t).1 u->Cp s t=some r->A.units+dep s<cLine->HZ A ⟨h,gn,dr,tk,os⟩ v u r.1)/\∀(A:Around) t r vs us,(rel W s).2 vs->(rel W t).2 us->Cp s t=some r->A.units+1+dep s<cLine->EqL A ⟨h,gn,dr,tk,os⟩ vs us r.1:=by
 induction s with
 |int a c=>
  refine⟨fun A t r v u h1 h2 e _=>?_,fun A t r vs us h1=>False.elim h1⟩
  refine ah e fun p e1 e=>?_
  rw[bL e1] at h2
  obtain⟨_,k1,_⟩:=h1
  obtain⟨_,k2,_⟩:=h2
  rw[k1,k2,<-Option.some.inj e]
  exact⟨PySem.SeqAt.RcAt.int_int _ _ _ _,PySem.SeqAt.RcNeAt.int_int _ _ _ _,PySem.SeqAt.EqAt.int_int _ _ _ _⟩
 |bool a c=>
  refine⟨fun A t r v u h1 h2 e _=>?_,fun A t r vs us h1=>False.elim h1⟩
  refine ah e fun p e1 e=>?_
  rw[rW e1] at h2
  have k1:v=.bool a:=h1
  have k2:u=.bool p.1:=h2
  rw[k1,k2,<-Option.some.inj e]
  exact⟨PySem.SeqAt.RcAt.bool_bool _ _,PySem.SeqAt.RcNeAt.bool_bool _ _,PySem.SeqAt.EqAt.bool_bool _ _⟩
 |tup s ih=>
  refine⟨fun A t r v u h1 h2 e hu=>?_,fun A t r vs us h1=>False.elim h1⟩
  have e0:=e
  refine ah e fun p e1 e=>?_
  rw[gK e1] at h2 e0
  have H6:=h1
  have H7:=h2
  obtain⟨x,vs,n,k1,a1,a2⟩:=h1
  obtain⟨x',pg,n',k2,b1,b2⟩:=h2
  rw[k1] at H6⊢
  rw[k2] at H7⊢
  have JB:A.units+1+dep s<cLine:=by have:dep (.tup s)=dep s+1:=rfl;exact D8 hu this
  obtain⟨hl,f,q1,q2⟩:=ih.2 A p r vs pg a2 b2 e JB
  have hb:((List.range (min vs.toArray.size pg.toArray.size)).all f&&vs.toArray.size==pg.toArray.size)=r.1:=by
   rw[List.size_toArray,List.size_toArray,<-hl,Nat.min_self,beq_self_eq_true,Bool.and_true,<-q2]
  have g1:=PySem.SeqAt.RcAt.tuples (s:=⟨h,gn,dr,tk,os⟩) ⟨_,(N _ a1).1,rfl,_,rfl⟩ ⟨_,(N _ b1).1,rfl,_,rfl⟩ (A:=A) (nk hu) q1
  have g2:=PySem.SeqAt.RcNeAt.tuples (s:=⟨h,gn,dr,tk,os⟩) ⟨_,(N _ a1).1,rfl,_,rfl⟩ ⟨_,(N _ b1).1,rfl,_,rfl⟩ (A:=A) (nk hu) q1
  rw[hb] at g1 g2
  exact HZ.ref N H6 H7 e0 g1 g2
 |rl s ih=>
  refine⟨fun A t r v u h1 h2 e hu=>?_,fun A t r vs us h1=>False.elim h1⟩
  have e0:=e
  refine ah e fun p e1 e=>?_
  rw[ir e1] at h2 e0
  have H6:=h1
  have H7:=h2
  obtain⟨x,vs,n,k1,a1,a2⟩:=h1
  obtain⟨x',pg,n',k2,b1,b2⟩:=h2
  rw[k1] at H6⊢
  rw[k2] at H7⊢
  have JB:A.units+1+dep s<cLine:=by have:dep (.rl s)=dep s+1:=rfl;exact D8 hu this
  obtain⟨hl,f,q1,q2⟩:=ih.2 A p r vs pg a2 b2 e JB
  have hb:(List.range vs.toArray.size).all f=r.1:=by rw[List.size_toArray];exact q2
  have hz:vs.toArray.size=pg.toArray.size:=by rw[List.size_toArray,List.size_toArray];exact hl
  have g1:=PySem.SeqAt.RcAt.lists (s:=⟨h,gn,dr,tk,os⟩) (N.isList a1) (N.isList b1) hz (A:=A) (nk hu) q1
  have g2:=PySem.SeqAt.RcNeAt.lists (s:=⟨h,gn,dr,tk,os⟩) (N.isList a1) (N.isList b1) hz (A:=A) (nk hu) q1
  rw[hb] at g1 g2
  exact HZ.ref N H6 H7 e0 g1 g2
 |nil=>
  refine⟨fun A t r v u h1=>False.elim h1,fun A t r vs us h1 h2 e _=>?_⟩
  refine ah e fun p e1 e=>?_
  rw[zg e1] at h2
  have k1:vs=[]:=h1
  have k2:us=[]:=h2
  rw[k1,k2,<-Option.some.inj e]
  exact⟨rfl,fun _=>true,fun j q1=>absurd q1 (Nat.not_lt_zero _),rfl⟩
 |cons a b wO uE=>
  refine⟨fun A t r v u h1=>False.elim h1,fun A t r vs us h1 h2 e hu=>?_⟩
  refine ah e fun p e1 e=>?_
  refine ah e fun x e2 e=>?_
  refine ah e fun y e3 e=>?_
  rw[mU e1] at h2
  obtain⟨v,pg,k1,k2,k3⟩:=h1
  obtain⟨u,us',j1,j2,j3⟩:=h2
  rw[k1,j1,<-Option.some.inj e]
  have hd:dep (.cons a b)=max (dep a) (dep b):=rfl
  have ua:A.in1.units+dep a<cLine:=by have:A.in1.units=A.units+1:=rfl;exact Xw hu hd this
  have ub:A.units+1+dep b<cLine:=by exact Nat.lt_of_le_of_lt (Nat.add_le_add_left (hd▸Nat.le_max_right _ _) _) hu
  obtain⟨hl,f,q1,q2⟩:=uE.2 A _ y pg us' k3 j3 e3 ub
  have g:=(wO.1 A.in1 _ x v u k2 j2 e2 ua).eq
  refine⟨congrArg (·+1) hl,fun j=>Nat.casesOn j x.1 f,fun j=>?_,(all_range _).trans (congrArg (x.1&&·) q2)⟩
  cases j with
  |zero=>exact fun _ _=>g
  |succ j=>exact fun r1 r2=>q1 j (by simpa using r1) (by simpa using r2)
 |none=>exact⟨fun A t r v u h1 h2 e=>no e,fun A t r vs us h1=>False.elim h1⟩
 |fq=>exact⟨fun A t r v u h1 h2 e=>no e,fun A t r vs us h1=>False.elim h1⟩
 |aU=>exact⟨fun A t r v u h1 h2 e=>no e,fun A t r vs us h1=>False.elim h1⟩
 |lst=>exact⟨fun A t r v u h1 h2 e=>no e,fun A t r vs us h1=>False.elim h1⟩
 |val=>exact⟨fun A t r v u h1 h2 e=>no e,fun A t r vs us h1=>False.elim h1⟩
end
noncomputable def aX(s:SV):List SV:=SV.rec (motive:=fun _=>List SV) (fun _ _=>[]) (fun _ _=>[]) [] (fun _ _=>[]) (fun _ _=>[]) [] (fun h _ _ ih=>h::ih) (fun _ _=>[]) (fun _ _=>[]) (fun _=>[]) (fun _=>[]) s
noncomputable def iN(l:List SV):SV:=List.rec (motive:=fun _=>SV) .nil (fun h _ ih=>.cons h ih) l
def VA(W:Wd)(l:List SV)(vs:List Value):Prop:=l.length=vs.length/\∀(i:Nat) s,l[i]?=some s->∃v,vs[i]?=some v/\VR W s v
theorem VA.nil{W:Wd}:VA W [] []:=⟨rfl,fun i s h=>no h⟩
theorem VA.cons{W:Wd}{s:SV}{v:Value}{l:List SV}{vs:List Value}(h:VR W s v)(k:VA W l vs):VA W (s::l) (v::vs):=by
 refine⟨congrArg (·+1) k.1,fun i t e=>?_⟩
 cases i with
 |zero=>rw[List.getElem?_cons_zero] at e;exact⟨v,rfl,Option.some.inj e▸h⟩
 |succ i=>rw[List.getElem?_cons_succ] at e ⊢;exact k.2 i t e
theorem VA.head{W:Wd}{s:SV}{l:List SV}{vs:List Value}(k:VA W (s::l) vs):∃v r,vs=v::r/\VR W s v/\VA W l r:=by
 cases vs with
 |nil=>exact absurd k.1 (by simp)
 |cons v r=>
  refine⟨v,r,rfl,?_,Nat.succ.inj k.1,fun i t e=>?_⟩
  ·obtain⟨u,h1,h2⟩:=k.2 0 s rfl
   rw[List.getElem?_cons_zero] at h1
   exact Option.some.inj h1▸h2
  ·have:=k.2 (i+1) t (by rw[List.getElem?_cons_succ];exact e)
   rw[List.getElem?_cons_succ] at this
   exact this
theorem VL.aX{W:Wd}{s:SV}:∀{vs:List Value},VL W s vs->VA W (aX s) vs:=by
 induction s with
 |nil=>intro vs h;have h:vs=[]:=h;rw[h];exact .nil
 |cons a b _ ih=>intro vs ⟨v,r,e,h,k⟩;rw[e];exact .cons h (ih k)
 |_=>exact fun h=>False.elim h
theorem VA.iN{W:Wd}:∀{l:List SV} {vs:List Value},VA W l vs->VL W (iN l) vs
 |[],vs,h=>List.length_eq_zero_iff.mp h.1.symm
 |s::l,vs,h=>let⟨v,r,e,a,b⟩:=h.head;⟨v,r,e,a,VA.iN b⟩
theorem VA.mono{W W':Wd}{l:List SV}{vs:List Value}(h:VA W l vs)(k:W.le W'):VA W' l vs:=⟨h.1,fun i s e=>let⟨v,a,b⟩:=h.2 i s e;⟨v,a,b.mono k⟩⟩
theorem VA.app{W:Wd}{l r:List SV}{vs us:List Value}(h:VA W l vs)(k:VA W r us):VA W (l++r) (vs++us):=by
 refine⟨by rw[List.length_append,List.length_append,h.1,k.1],fun i s e=>?_⟩
 by_cases hi:i<l.length
 ·rw[List.getElem?_append_left hi] at e
  rw[List.getElem?_append_left (h.1▸hi)]
  exact h.2 i s e
 ·rw[List.getElem?_append_right (rV hi)] at e
  rw[List.getElem?_append_right (by rw[<-h.1];exact rV hi),<-h.1]
  exact k.2 _ s e
theorem VA.set{W:Wd}{l:List SV}{vs:List Value}{s:SV}{v:Value}(h:VA W l vs)(k:VR W s v)(i:Nat):VA W (l.set i s) (vs.set i v):=by
 refine⟨by rw[List.length_set,List.length_set,h.1],fun j t e=>?_⟩
 rcases ou e with⟨rfl,rfl⟩|⟨hj,e⟩
 ·have cO:j<l.length:=by simpa using (List.getElem?_eq_some_iff.mp e).1
  exact⟨v,List.getElem?_set_self (h.1▸cO),k⟩
 ·rw[List.getElem?_set_ne (fun e=>hj e.symm)]
  exact h.2 j t e
theorem VA.rep{W:Wd}{s:SV}{v:Value}(k:VR W s v):∀n,VA W (List.replicate n s) (List.replicate n v)
 |0=>.nil
 |n+1=>.cons k (VA.rep k n)
noncomputable def oA(σ:Sg)(s:SV):Option (SV×Bool):=match s with
 | .tup r=>some (r,true)
 | .rl r=>some (r,false)
 | .lst i=>σ.T[i]?.map fun e=>(e.1,false)
 |_=>none
section
variable{c:Cx}{its:Led}{W:Wd}{σ:Sg}{agj h:Heap}{lf:List (Str×Value)}{led:Led}{gn:Array GenState}
inductive SqR(W:Wd)(led:Led)(r:SV×Bool)(v:Value):Prop
 |mk(x:Addr)(vs:List Value)(o:Obj)(e:v=.ref x)(k:VL W r.1 vs)(m:(x,o)∈led)(q:jR o vs)(t:r.2=true->∃n,o=aj vs n)(f:r.2=false->∃n,o=ay vs n)
theorem RR.sq(R:RR c its W σ agj lf led h gn){s:SV}{r:SV×Bool}{v:Value}:VR W s v->oA σ s=some r->SqR W led r v:=
 SV.casesOn (motive:=fun s=>VR W s v->oA σ s=some r->SqR W led r v) s
  (fun _ _ _ e=>no e) (fun _ _ _ e=>no e) (fun _ e=>no e)
  (fun t k e=>by rw[<-Option.some.inj e];exact k.elim fun x k=>k.elim fun vs k=>k.elim fun n k=>⟨x,vs,_,k.1,k.2.2,R.dl _ k.2.1,⟨n,.inr rfl⟩,fun _=>⟨n,rfl⟩,fun e=>Bool.noConfusion e⟩)
  (fun t k e=>by rw[<-Option.some.inj e];exact k.elim fun x k=>k.elim fun vs k=>k.elim fun n k=>⟨x,vs,_,k.1,k.2.2,R.dl _ k.2.1,⟨n,.inl rfl⟩,fun e=>Bool.noConfusion e,fun _=>⟨n,rfl⟩⟩)
  (fun _ e=>no e) (fun _ _ _ e=>no e) (fun _ _ _ e=>no e) (fun _ _ _ e=>no e)
  (fun i k e=>by
   obtain⟨⟨t,b⟩,hT,e⟩:=Option.map_eq_some_iff.mp e
   rw[<-e]
   obtain⟨x,hv,hx⟩:=k
   have q:=R.ta i x _ hx hT
   cases b with
   |true=>exact q.elim fun vs q=>q.elim fun n q=>⟨x,vs,_,hv,q.2,R.dl _ q.1,⟨n,.inl rfl⟩,fun e=>Bool.noConfusion e,fun _=>⟨n,rfl⟩⟩
   |false=>exact q.1.elim fun vs q=>q.elim fun n q=>⟨x,vs,_,hv,q.2,q.1,⟨n,.inl rfl⟩,fun e=>Bool.noConfusion e,fun _=>⟨n,rfl⟩⟩)
  (fun _ _ e=>no e)
end
noncomputable def zy(l:List SV):Option (List Int×IC):=List.rec (motive:=fun _=>Option (List Int×IC)) (some ([],⟨1,true,true,true,false⟩))
 (fun s _ ih=>(dw s).bind fun p=>ih.bind fun q=>some (p.1::q.1,⟨bs p.2.n q.2.n (max p.2.n q.2.n),p.2.nz&&q.2.nz,p.2.nn&&q.2.nn,p.2.md&&q.2.md,false⟩)) l
noncomputable def fh(s:SV):Option (Int×(Int×Int)):=match s with
 | .aU q v=>some (q,v)
 |_=>none
theorem dZ{s:SV}{r:Int×(Int×Int)}:fh s=some r->s=.aU r.1 r.2:=SV.casesOn (motive:=fun s=>fh s=some r->s=.aU r.1 r.2) s (fun _ _ h=>no h) (fun _ _ h=>no h) (fun h=>no h) (fun _ h=>no h) (fun _ h=>no h) (fun h=>no h) (fun _ _ h=>no h) (fun _ _ h=>no h) (fun _ _ h=>Option.some.inj h▸rfl) (fun _ h=>no h) (fun _ h=>no h)
noncomputable def uG(q:Int)(l:List SV):Option (List (Int×Int)×Prop):=List.rec (motive:=fun _=>Option (List (Int×Int)×Prop)) (some ([],True))
 (fun s _ ih=>(fh s).bind fun p=>ih.bind fun r=>some (p.2::r.1,p.1=q/\r.2)) l
def brs(l:List SV)(x:Int)(k:SV->Prop):Nat->Prop:=List.rec (motive:=fun _=>Nat->Prop) (fun _=>True) (fun s _ ih j=>(x=(j:Int)->k s)/\ih (j+1)) l
def zz(l:List SV)(x:Int)(k:SV->Prop):Prop:=match zy l with
 |some p=>(0<=x/\x<l.length)/\k (.int (p.1.getD x.toNat 0) p.2)
 |none=>match l.head?.bind fun s=>(fh s).bind fun p=>(uG p.1 l).map fun r=>(p.1,r) with
  |some p=>((0<=x/\x<l.length)/\p.2.2)/\k (.aU p.1 (p.2.1.getD x.toNat (0,0)))
  |none=>(0<=x/\x<l.length)/\brs l x k 0
def uH(l:List SV)(tp:Bool)(x:Int)(c:IC)(k:SV->Prop):Prop:=match c.lit with
 |true=>bF (Nat.ble l.length 1000&&(tp||decide (0<=x))) (af ((seqIndex? x l.length).bind fun j=>l[j]?) k)
 |false=>bF (Nat.ble l.length 1000) (zz l x k)
theorem sd{W:Wd}:∀{l:List SV} {p:List Int×IC},zy l=some p->p.1.length=l.length/\∀(i:Nat) s,l[i]?=some s->∃c,s=.int (p.1.getD i 0) c/\∀v,VR W s v->VR W (.int (p.1.getD i 0) p.2) v
 |[],p,h=>by rw[<-Option.some.inj h];exact⟨rfl,fun i s h=>no h⟩
 |a::l,p,h=>by
  refine ah h fun r h1 h=>?_
  refine ah h fun q h2 h=>?_
  obtain⟨k1,k2⟩:=sd h2
  rw[<-Option.some.inj h,bL h1]
  have ok:∀x,(bT x r.2\/bT x q.2)->bT x ⟨bs r.2.n q.2.n (max r.2.n q.2.n),r.2.nz&&q.2.nz,r.2.nn&&q.2.nn,r.2.md&&q.2.md,false⟩:=fun x hx=>by
   refine⟨fun e=>?_,fun e=>hx.elim (fun k=>k.z (nb e).1) fun k=>k.z (nb e).2,fun e=>hx.elim (fun k=>k.p (nb e).1) fun k=>k.p (nb e).2,fun e=>hx.elim (fun k=>k.m (nb e).1) fun k=>k.m (nb e).2⟩
   obtain⟨a,b,e⟩:=zo e
   show Sm (bs _ _ _) _
   rw[e]
   exact hx.elim (fun k=>(k.s a).mono (Nat.le_max_left _ _)) fun k=>(k.s b).mono (Nat.le_max_right _ _)
  refine⟨congrArg (·+1) k1,fun i s hs=>?_⟩
  cases i with
  |zero=>
   rw[List.getElem?_cons_zero] at hs
   rw[<-Option.some.inj hs]
   exact⟨r.2,rfl,fun v k=>k.elim fun t k=>⟨t,k.1,ok _ (.inl k.2)⟩⟩
  |succ i=>
   rw[List.getElem?_cons_succ] at hs
   obtain⟨c,e,k⟩:=k2 i s hs
   exact⟨c,e,fun v hv=>(k v hv).elim fun t k=>⟨t,k.1,ok _ (.inr k.2)⟩⟩
theorem oB{W:Wd}{q:Int}:∀{l:List SV} {p:List (Int×Int)×Prop},uG q l=some p->p.2->p.1.length=l.length/\∀(i:Nat) s,l[i]?=some s->s=.aU q (p.1.getD i (0,0))
 |[],p,h,_=>by rw[<-Option.some.inj h];exact⟨rfl,fun i s h=>no h⟩
 |a::l,p,h,hp=>by
  refine ah h fun r h1 h=>?_
  refine ah h fun t h2 h=>?_
  rw[<-Option.some.inj h] at hp⊢
  obtain⟨k1,k2⟩:=oB (W:=W) h2 hp.2
  refine⟨congrArg (·+1) k1,fun i s hs=>?_⟩
  cases i with
  |zero=>
   rw[List.getElem?_cons_zero] at hs
   rw[<-Option.some.inj hs,dZ h1,hp.1]
   rfl
  |succ i=>
   rw[List.getElem?_cons_succ] at hs
   exact k2 i s hs
theorem Xz{x:Int}{k:SV->Prop}:∀{l:List SV} {j i:Nat} {s:SV},brs l x k j->l[i]?=some s->x=((j+i:Nat):Int)->k s
 |[],_,_,_,_,h,_=>no h
 |a::l,j,i,s,h,e,hx=>by
  cases i with
  |zero=>rw[List.getElem?_cons_zero] at e;exact Option.some.inj e▸h.1 hx
  |succ i=>rw[List.getElem?_cons_succ] at e;exact Xz h.2 e (by rw[hx];exact Int.ofNat_inj.mpr (Eq.symm (Nat.add_right_comm _ _ _)))
theorem Cq{x:Int}{n j:Nat}(h:seqIndex? x n=some j)(hn:n<=1000): -1000<=x/\x<1000/\j<n/\(0<=x->x.toNat=j):=by
 unfold seqIndex? at h
 have key:∀y:Int,(if(decide (0<=y)&&decide (y<(n:Int)))=true then some y.toNat else none)=some j->0<=y/\y<n/\y.toNat=j:=fun y hy=>by
  by_cases c:(decide (0<=y)&&decide (y<(n:Int)))=true
  ·rw[if_pos c] at hy
   rw[Bool.and_eq_true,decide_eq_true_eq,decide_eq_true_eq] at c
   exact⟨c.1,c.2,Option.some.inj hy⟩
  ·rw[if_neg c] at hy
   cases hy
 by_cases hx:x<0
 ·have:=key (x+n) (by simpa only[if_pos hx] using h)
  refine⟨by exact Int.le_trans (Int.neg_le_neg (Int.ofNat_le.mpr hn)) (Int.le_of_sub_nonneg (by rw[Int.sub_neg];exact this.1)),(Int.le_trans hx (Int.natCast_nonneg _)),this.2.2▸(Int.toNat_lt this.1).mpr this.2.1,fun q=>by exact absurd hx (Int.not_lt.mpr q)⟩
 ·have:=key x (by simpa only[if_neg hx] using h)
  refine⟨by exact Int.le_trans (by decide) (Int.not_lt.mp hx),(Int.le_trans this.2.1 (Int.ofNat_le.mpr hn)),this.2.2▸(Int.toNat_lt this.1).mpr this.2.1,fun q=>by exact this.2.2⟩
theorem zA{W:Wd}{l:List SV}{tp:Bool}{x:Int}{c:IC}{k:SV->Prop}(h:uH l tp x c k):l.length<=1000/\ -1000<=x/\x<1000/\(tp=false->0<=x)/\∃(j:Nat) (s t:SV),seqIndex? x l.length=some j/\(0<=x->x.toNat=j)/\l[j]?=some s/\(∀v,VR W s v->VR W t v)/\k t:=by
 unfold uH at h
 have sym:l.length<=1000->zz l x k->l.length<=1000/\ -1000<=x/\x<1000/\(tp=false->0<=x)/\∃(j:Nat) (s t:SV),seqIndex? x l.length=some j/\(0<=x->x.toNat=j)/\l[j]?=some s/\(∀v,VR W s v->VR W t v)/\k t:=fun hl h=>by
  have go:∀{P:SV->SV->Prop},(0<=x/\x<l.length)->(∀s,l[x.toNat]?=some s->∃t,(∀v,VR W s v->VR W t v)/\k t)->l.length<=1000/\ -1000<=x/\x<1000/\(tp=false->0<=x)/\∃(j:Nat) (s t:SV),seqIndex? x l.length=some j/\(0<=x->x.toNat=j)/\l[j]?=some s/\(∀v,VR W s v->VR W t v)/\k t:=fun hx hs=>by
   have hj:x.toNat<l.length:=by exact(Int.toNat_lt hx.1).mpr hx.2
   obtain⟨t,k1,k2⟩:=hs _ (List.getElem?_eq_getElem hj)
   refine⟨hl,(Int.le_trans (Int.natCast_nonneg _) hx.1),(Int.le_trans hx.2 (Int.ofNat_le.mpr hl)),fun _=>hx.1,x.toNat,_,t,?_,fun _=>rfl,List.getElem?_eq_getElem hj,k1,k2⟩
   unfold seqIndex?
   simp only[if_neg (show ¬x<0 by exact Int.not_lt.mpr hx.1)]
   rw[if_pos (by simp;exact hx)]
  unfold zz at h
  split at h
  ·rename_i p hp
   exact go (P:=fun _ _=>True) h.1 fun s hs=>let⟨_,_,q⟩:=(sd hp).2 _ s hs;⟨_,q,h.2⟩
  ·split at h
   ·rename_i p hp
    refine ah hp fun a _ hp=>?_
    refine ah hp fun r _ hp=>?_
    obtain⟨u,hp,e⟩:=Option.map_eq_some_iff.mp hp
    rw[<-e] at h
    exact go (P:=fun _ _=>True) h.1.1 fun s hs=>⟨_,fun v hv=>(oB (W:=W) hp h.1.2).2 _ s hs▸hv,h.2⟩
   ·exact go (P:=fun _ _=>True) h.1 fun s hs=>⟨s,fun _ hv=>hv,Xz h.2 hs (by omega)⟩
 cases hc:c.lit with
 |true=>
  rw[hc] at h
  refine ai h fun b h=>?_
  refine aa h fun s e hk=>?_
  refine ah e fun j e1 e2=>?_
  have hl:=Nat.le_of_ble_eq_true (nb b).1
  obtain⟨f1,f2,f3,f4⟩:=Cq e1 hl
  exact⟨hl,f1,f2,fun e=>by simpa[e] using (nb b).2,j,s,s,e1,f4,e2,fun _ hv=>hv,hk⟩
 |false=>
  rw[hc] at h
  refine ai h fun b h=>?_
  exact sym (Nat.le_of_ble_eq_true b) h
noncomputable def isSlice(e:Expr):Bool:=e.ctorIdx==26
def H8(a b:SV)(σ:Sg)(k:SV->Prop):Prop:=af (oA σ a) fun r=>af (dw b) fun p=>uH (aX r.1) r.2 p.1 p.2 k
theorem se{c:Cx}{W:Wd}{σ:Sg}{value slice:Expr}{a b:SV}{va vb:Value}{k:SV->Sg->Prop}(hsl:isSlice slice=false)(h:H8 a b σ fun v=>k v σ)(ha:VR W a va)(hb:VR W b vb):Ev c (subscriptTail value slice va vb) W σ k:=by
 refine aa h fun r h1 h=>?_
 refine aa h fun p h2 h=>?_
 rw[bL h2] at hb
 obtain⟨u,eb,_⟩:=hb
 obtain⟨hl,f1,f2,f3,j,s,t,e1,f4,e2,g,hk⟩:=zA (W:=W) h
 intro its st Q E hs he kk
 obtain⟨agj,lf,led,hp,gn,tk,rfl,R⟩:=hs
 obtain⟨x,vs,o,ea,hv,hm,ho,ht,hf⟩:=R.sq ha h1
 have hv:=hv.aX
 obtain⟨v,H9,XA⟩:=hv.2 j s e2
 rw[ea,eb]
 have qv:subscripted slice false (.ref x) (.int p.1 u)=operate [.ref x,.int p.1 u] (getItem (.ref x) (.int p.1 u)):=by
  cases slice<;>first|rfl|cases hsl
 have fin:Q v ⟨hp,gn,c.dr,tk,c.os⟩:=kk W v t σ _ (.rfl W) (g v XA) ⟨agj,lf,led,hp,gn,tk,rfl,R⟩ hk
 cases hb:r.2 with
 |true=>
  obtain⟨n,e⟩:=ht hb
  rw[e] at hm
  exact xO R.Z.N hm (Int.le_trans (by decide) f1) (zu f2) (by rw[<-hv.1];exact e1) H9 qv fin
 |false=>
  obtain⟨n,e⟩:=hf hb
  rw[e] at hm
  exact xS R.Z.N hm (f3 hb) (zu f2) (by rw[f4 (f3 hb)];exact H9) qv fin
def XR(c:Cx):Prop:=∀E,c.ex E->c.rz->∀its W σ agj lf led h gn,RR c its W σ agj lf led h gn->yO c.base (envX c.cn c.cs c.L c.a c.aJ c.cl::c.outer) agj c.L (c.ms lf) led c.dr c.os E
def ao(a:Addr)(C:fZ):Prop:=∀c W σ args bR kp,mH c C.cd C.cu->(C.tn=true->c.turn=true)->XR c->jE args=true->VL W args bR->C.con args kp c.rz->Ev c (call (.ref a) bR) W σ fun r aB=>aB=σ/\jE r=true/\kp r
def bX(tab:List (Addr×fZ)):Prop:=∀a C,tab.lookup a=some C->ao a C/\∀P,keepIn (KK P) (.ref a)=true
theorem bX.nil:bX []:=fun _ _ h=>no h
theorem bX.cons{a:Addr}{C:fZ}{tab:List (Addr×fZ)}(h:ao a C)(k:∀P,keepIn (KK P) (.ref a)=true)(t:bX tab):bX ((a,C)::tab):=fun b D e=>by
 rw[List.lookup_cons] at e
 by_cases hb:b=a
 ·rw[hb,beq_self_eq_true] at e
  rw[hb,<-Option.some.inj e]
  exact⟨h,k⟩
 ·rw[beq_false_of_ne hb] at e
  exact t b D e
structure c8(c:Cx)(o:Or):Prop where
 ok:mH c o.cd o.cu
 P:o.P=c.w.params
 tn:o.tn=true->c.turn=true
 rz:o.rz=c.rz
 xr:XR c
 tab:bX o.tab
 nm:HY c o
 fn:o.fn=true->FF c o
def sj(o:Or)(a:Addr)(args:SV)(σ:Sg)(k:SV->Sg->Prop):Prop:=af (o.tab.lookup a) fun C=>bF (Nat.ble C.cd o.cd&&Nat.ble C.cu o.cu&&(!C.tn||o.tn)) (af (Co σ args) fun p=>C.con p.1 (fun r=>k r p.2) o.rz)
section
variable{c:Cx}{o:Or}{W:Wd}{σ:Sg}{k:SV->Sg->Prop}
theorem fT(S:c8 c o){a:Addr}{args:SV}{bR:List Value}(h:sj o a args σ k)(hv:VL W args bR):Ev c (call (.ref a) bR) W σ k:=by
 refine aa h fun C h1 h=>?_
 refine ai h fun b h=>?_
 refine aa h fun p h2 h=>?_
 have b1:=nb b
 have b2:=nb b1.1
 have ht:C.tn=true->c.turn=true:=fun e=>S.tn (by have:=b1.2;rw[e] at this;exact this)
 intro its s Q E hs he kk
 obtain⟨agj,lf,led,hp,gn,tk,rfl,R⟩:=hs
 obtain⟨W',l,JC,R',hc⟩:=R.Co hv h2
 rw[S.rz] at h
 exact(S.tab a C h1).1 c W' p.2 p.1 bR _ (S.ok.less (Nat.le_of_ble_eq_true b2.1) (Nat.le_of_ble_eq_true b2.2)) ht S.xr hc JC h its _ Q E ⟨agj,lf,led,hp,gn,tk,rfl,R'⟩ he fun W2 v r aO s2 l2 hr cB hk=>kk W2 v r aO s2 (l.trans l2) hr cB (hk.1▸hk.2.2)
end
noncomputable def f9:IC:=⟨400,true,true,true,false⟩
noncomputable def fH:IC:=⟨400,false,true,false,false⟩
noncomputable def lF(v:Int×Int):SV:=.tup (.cons (.int v.1 fH) (.cons (.int v.2 fH) .nil))
noncomputable def jU(s:SV):Option (Int×Int):=match s with
 | .fq q n=>some (q,n)
 |_=>none
theorem lG{s:SV}{r:Int×Int}:jU s=some r->s=.fq r.1 r.2:=SV.casesOn (motive:=fun s=>jU s=some r->s=.fq r.1 r.2) s (fun _ _ h=>no h) (fun _ _ h=>no h) (fun h=>no h) (fun _ h=>no h) (fun _ h=>no h) (fun h=>no h) (fun _ _ h=>no h) (fun _ _ h=>Option.some.inj h▸rfl) (fun _ _ h=>no h) (fun _ h=>no h) (fun _ h=>no h)
theorem su{q:Int}(h:Qf q):bT q f9:=⟨fun _=>h.sm,fun _=>by have:=h.one;exact JW this,fun _=>by have:=h.one;exact A3 this,fun _=>h⟩
theorem oE{q n:Int}(h:Qf q)(a:0<=n)(b:n<q):bT n fH:=.of0 (fun _=>Sm.res h.sm a b) fun _=>a
def Ia(s:SV)(a:Str)(k:SV->Prop):Prop:=match s with
 | .fq q n=>match a=="field_modulus" with
  |true=>k (.int q f9)
  |false=>bF (a=="n") (k (.int n fH))
 | .aU q v=>match a=="field_modulus" with
  |true=>k (.int q f9)
  |false=>match a=="coeffs" with
   |true=>k (lF v)
   |false=>match a=="degree" with
    |true=>k (.int 2 (dF 2))
    |false=>match a=="modulus_coeffs" with
     |true=>k (.tup (.cons (.int 1 (dF 1)) (.cons (.int 0 (dF 0)) .nil)))
     |false=>bF (a=="mc_tuples") (k (.rl (.cons (.tup (.cons (.int 0 (dF 0)) (.cons (.int 1 (dF 1)) .nil))) .nil)))
 |_=>False
noncomputable def Ib(s:SV)(a:Str):Option Addr:=match s with
 | .fq _ _=>List.lookup a [("made",(247:Nat)),("one",(254:Nat)),("zero",(261:Nat))]
 | .aU _ _=>List.lookup a [("made",(407:Nat)),("one",(379:Nat)),("zero",(386:Nat)),("inv",(338:Nat)),("optimized_poly_rounded_div",(333:Nat))]
 |_=>none
theorem bC{α:Type _}{a x:Str}{y r:α}{l:List (Str×α)}(h:List.lookup a ((x,y)::l)=some r):(a=x/\y=r)\/List.lookup a l=some r:=by
 rw[List.lookup_cons] at h
 by_cases e:a=x
 ·rw[e,beq_self_eq_true] at h
  exact .inl ⟨e,Option.some.inj h⟩
 ·rw[beq_false_of_ne e] at h
  exact .inr h
section
variable{c:Cx}{o:Or}{W:Wd}{σ:Sg}
theorem zB{x:Addr}{v:Int×Int}{q:Int}(h:IsPair W.D x v.1 v.2)(hq:Qf q)(r:bP q v):VR W (lF v) (.ref x):=by
 obtain⟨h⟩:=h
 exact⟨x,_,_,rfl,h,_,_,rfl,⟨_,rfl,oE hq r.1 r.2.1⟩,_,_,rfl,⟨_,rfl,oE hq r.2.2.1 r.2.2.2⟩,rfl⟩
theorem sA(S:c8 c o){s:SV}{a:Str}{v:Value}{ex:Bool}{k:SV->Sg->Prop}(h:Ia s a fun v=>k v σ)(hv:VR W s v):Ev c (getAttr v a ex) W σ k:=by
 intro its st Q E hs he kk
 obtain⟨agj,lf,led,hp,gn,tk,rfl,R⟩:=hs
 have go:∀{v t aN},k t σ->VR W t v->Q v ⟨hp,gn,c.dr,aN,c.os⟩:=fun hk hv=>kk W _ _ σ _ (.rfl W) hv ⟨agj,lf,led,hp,gn,_,rfl,R⟩ hk
 have X:=S.ok.X R.H
 cases s with
 |fq q n=>
  obtain⟨x,rfl,hx,hq⟩:=hv
  have cI:=(F1.mono hx R.dl).is
  by_cases e:a="field_modulus"
  ·subst e
   exact xP R.Z.F X R.Z.N cI fun t=>go h ⟨t,rfl,su hq⟩
  ·have h:(match a=="field_modulus" with
    |true=>k (.int q f9) σ
    |false=>bF (a=="n") (k (.int n fH) σ)):=h
   rw[beq_false_of_ne e] at h
   refine ai h fun e2 h=>?_
   rw[beq_iff_eq.mp e2]
   exact Bk R.Z.F X R.Z.N cI fun t=>go h ⟨t,rfl,oE hq hx.lo hx.hi⟩
 |aU q v=>
  obtain⟨x,rfl,hx,hq⟩:=hv
  have cI:=(F2.mono hx R.dl).is
  unfold Ia at h
  by_cases e:a="field_modulus"
  ·subst e
   exact wg R.Z.F X R.Z.N cI fun t=>go h ⟨t,rfl,su hq⟩
  rw[beq_false_of_ne e] at h
  by_cases e:a="coeffs"
  ·subst e
   exact yS R.Z X hx.is R.dl fun t _ _ _ hp _=>go h (zB hp hq hx.inq)
  rw[beq_false_of_ne e] at h
  by_cases e:a="degree"
  ·subst e
   exact wj R.Z.F X R.Z.N cI fun t=>go h ⟨t,rfl,b8 2⟩
  rw[beq_false_of_ne e] at h
  by_cases e:a="modulus_coeffs"
  ·subst e
   exact LA R.Z X hx.is R.dl fun t _ _ _ _ hm=>go h ⟨t,_,_,rfl,hm,_,_,rfl,⟨_,rfl,b8 1⟩,_,_,rfl,⟨_,rfl,b8 0⟩,rfl⟩
  rw[beq_false_of_ne e] at h
  refine ai h fun e2 h=>?_
  rw[beq_iff_eq.mp e2]
  exact LB R.Z X hx.is R.dl fun l e n1 n2 e1 e2 hl hm=>go h ⟨l,_,_,rfl,hl,_,_,rfl,⟨e,_,_,rfl,hm,_,_,rfl,⟨_,rfl,b8 0⟩,_,_,rfl,⟨_,rfl,b8 1⟩,rfl⟩,rfl⟩
 |_=>exact h.elim
theorem sC(S:c8 c o){its:Led}{agj h:Heap}{lf:List (Str×Value)}{led:Led}{gn:Array GenState}(R:RR c its W σ agj lf led h gn){s:SV}{a:Str}{ad:Addr}{v:Value}{pl:Sem Bool}{tk:Nat}{Qm:Value×List Value->Shared->Prop}{E:Value->Shared->Prop}(h1:Ib s a=some ad)(hv:VR W s v)(k:Qm (.ref ad,[v]) ⟨h,gn,c.dr,tk,c.os⟩):wpAny (MM c.w) c.A (getMethod v a pl) Qm E ⟨h,gn,c.dr,tk,c.os⟩:=by
 have X:=S.ok.X R.H
 cases s with
 |fq q n=>
  obtain⟨x,rfl,hx,hq⟩:=hv
  have cI:=(F1.mono hx R.dl).is
  rcases bC h1 with⟨rfl,rfl⟩|h1
  ·exact rj R.Z.F X R.Z.N cI k
  rcases bC h1 with⟨rfl,rfl⟩|h1
  ·exact wm R.Z.F X R.Z.N cI k
  rcases bC h1 with⟨rfl,rfl⟩|h1
  ·exact rm R.Z.F X R.Z.N cI k
  exact no h1
 |aU q w=>
  obtain⟨x,rfl,hx,hq⟩:=hv
  have cI:=(F2.mono hx R.dl).is
  rcases bC h1 with⟨rfl,rfl⟩|h1
  ·exact pK R.Z.F X R.Z.N cI k
  rcases bC h1 with⟨rfl,rfl⟩|h1
  ·exact rq R.Z.F X R.Z.N cI k
  rcases bC h1 with⟨rfl,rfl⟩|h1
  ·exact pL R.Z.F X R.Z.N cI k
  rcases bC h1 with⟨rfl,rfl⟩|h1
  ·exact ru R.Z.F X R.Z.N cI k
  rcases bC h1 with⟨rfl,rfl⟩|h1
  ·exact cV R.Z.F X R.Z.N cI k
  exact no h1
 |_=>exact no h1
end
noncomputable def rd(σ:Sg)(s:SV):SV:=match s with
 | .lst i=>match σ.T[i]? with
  |some e=>.rl e.1
  |none=>.lst i
 |s=>s
noncomputable def XC(s:SV):Bool:=match s with
 | .int _ _=>true
 | .bool _ _=>true
 | .fq _ _=>true
 | .aU _ _=>true
 |_=>false
theorem adK{W:Wd}{s:SV}{v:Value}:XC s=true->VR W s v->v≠.notImplemented:=
 SV.casesOn (motive:=fun s=>XC s=true->VR W s v->v≠.notImplemented) s (fun _ _ _ k e=>k.elim fun _ k=>Value.noConfusion (k.1.symm.trans e)) (fun _ _ _ k e=>Value.noConfusion (Eq.trans (Eq.symm k) e)) (fun h=>Bool.noConfusion h) (fun _ h=>Bool.noConfusion h) (fun _ h=>Bool.noConfusion h) (fun h=>Bool.noConfusion h) (fun _ _ h=>Bool.noConfusion h)
  (fun _ _ _ k e=>k.elim fun _ k=>Value.noConfusion (k.1.symm.trans e)) (fun _ _ _ k e=>k.elim fun _ k=>Value.noConfusion (k.1.symm.trans e)) (fun _ h=>Bool.noConfusion h) (fun _ h=>Bool.noConfusion h)
theorem sD{Q:Value->Shared->Prop}{v:Value}{s:Shared}(h:v≠.notImplemented)(q:Q v s):PySem.W.CmpBack Q v s:=by
 cases v<;>first|exact q|exact absurd rfl h
noncomputable def A5(op:Operator):Option Addr:=match op with
 | .Add=>some (292:Nat)
 | .Sub=>some (297:Nat)
 | .Mult=>some (309:Nat)
 | .Div=>some (321:Nat)
 |_=>none
noncomputable def XD(op:Operator):Option Addr:=match op with
 | .Mult=>some (309:Nat)
 | .Div=>some (321:Nat)
 | .Pow=>some (328:Nat)
 |_=>none
def qw(o:Or)(ad:Addr)(a b:SV)(σ:Sg)(k:SV->Sg->Prop):Prop:=sj o ad (.cons a (.cons b .nil)) σ fun r aB=>bF (XC r) (k r aB)
def XE(o:Or)(op:Operator)(a b:SV)(σ:Sg)(k:SV->Sg->Prop):Prop:=match a with
 | .int x c=>af (dw b) fun p=>wQ op x c p.1 p.2 fun z e=>k (.int z e) σ
 | .fq _ _=>match op with
  | .Div=>af (jU b) fun _=>qw o (176:Nat) a b σ k
  |_=>False
 | .aU _ _=>match fh b with
  |some _=>af (A5 op) fun ad=>qw o ad a b σ k
  |none=>af (dw b) fun _=>af (XD op) fun ad=>qw o ad a b σ k
 | .lst i=>match op with
  | .Add=>af (oA σ a) fun p=>af (oA σ b) fun q=>bF (!q.2&&Nat.ble ((aX p.1).length+(aX q.1).length) 1000) (k (.lst σ.T.length) (σ.add (iN (aX p.1++aX q.1))))
  | .Mult=>af (oA σ a) fun p=>af (dw b) fun q=>af (match aX p.1 with
   |[s]=>some s
   |_=>none) fun s=>bF (q.2.lit&&decide (0<=q.1)&&decide (q.1<=1000)) (k (.lst σ.T.length) (σ.add (iN (List.replicate q.1.toNat s))))
  |_=>False
 | .tup r=>match op with
  | .Add=>af (pe b) fun q=>bF (!(aX r).isEmpty&& !(aX q).isEmpty&&Nat.ble ((aX r).length+(aX q).length) 1000) (k (.tup (iN (aX r++aX q))) σ)
  |_=>False
 |_=>False
section
variable{c:Cx}{o:Or}{W:Wd}{σ:Sg}{k:SV->Sg->Prop}
theorem eF(S:c8 c o){ad:Addr}{a b:SV}{va vb:Value}(h:qw o ad a b σ k)(ha:VR W a va)(hb:VR W b vb):Ev c (call (.ref ad) [va,vb]) W σ fun r aB=>XC r=true/\k r aB:=
 (fT S h ⟨va,_,rfl,ha,vb,_,rfl,hb,rfl⟩).imp fun r aB q=>gM q
theorem Eg.back{t t2:Sem Value}(h:Ev c t2 W σ fun r aB=>XC r=true/\k r aB)(rule:∀its agj lf led h gn tk (Q:Value->Shared->Prop) E,RR c its W σ agj lf led h gn->wpAny (MM c.w) c.A t2 (PySem.W.CmpBack Q) E ⟨h,gn,c.dr,tk,c.os⟩->wpAny (MM c.w) c.A t Q E ⟨h,gn,c.dr,tk,c.os⟩):Ev c t W σ k:=by
 intro its s Q E hs he kk
 obtain⟨agj,lf,led,hp,gn,tk,e,R⟩:=hs
 rw[e]
 refine rule its agj lf led hp gn tk Q E R (h its _ _ E ⟨agj,lf,led,hp,gn,tk,rfl,R⟩ he fun W' v b aB s' l hr cM hk=>?_)
 exact sD (adK hk.1 hr) (kk W' v b aB s' l hr cM hk.2)
theorem Eg.lst{t:Sem Value}{l:List SV}(hk:k (.lst σ.T.length) (σ.add (iN l)))(rule:∀its agj lf led h gn tk (Q:Value->Shared->Prop) E,RR c its W σ agj lf led h gn->(∀x n vs h' aN,St agj c.L c.nw c.d h' (c.ms lf) ((x,ay vs n)::led)->Ge c.d x->VA W l vs->Q (.ref x) ⟨h',gn,c.dr,aN,c.os⟩)->wpAny (MM c.w) c.A t Q E ⟨h,gn,c.dr,tk,c.os⟩):Ev c t W σ k:=by
 intro its s Q E hs he kk
 obtain⟨agj,lf,led,hp,gn,tk,e,R⟩:=hs
 rw[e]
 refine rule its agj lf led hp gn tk Q E R fun x n vs h' aN Z mR hv=>?_
 refine kk ⟨W.ρ++[x],W.D⟩ _ (.lst σ.T.length) _ _ (W.gO x) ⟨x,rfl,?_⟩ ⟨agj,lf,_,h',gn,aN,rfl,R.gO Z mR (VA.iN (hv.mono (W.gO x)))⟩ hk
 show(W.ρ++[x])[σ.T.length]?=some x
 rw[<-R.tl,List.getElem?_append_right (Nat.le_refl _),Nat.sub_self]
 rfl
theorem Eg.tup{t:Sem Value}{l:List SV}(hk:k (.tup (iN l)) σ)(rule:∀its agj lf led h gn tk (Q:Value->Shared->Prop) E,RR c its W σ agj lf led h gn->(∀x n vs h' aN,St agj c.L c.nw c.d h' (c.ms lf) ((x,aj vs n)::led)->VA W l vs->Q (.ref x) ⟨h',gn,c.dr,aN,c.os⟩)->wpAny (MM c.w) c.A t Q E ⟨h,gn,c.dr,tk,c.os⟩):Ev c t W σ k:=by
 intro its s Q E hs he kk
 obtain⟨agj,lf,led,hp,gn,tk,e,R⟩:=hs
 rw[e]
 refine rule its agj lf led hp gn tk Q E R fun x n vs h' aN Z hv=>?_
 exact kk ⟨W.ρ,(x,aj vs n)::W.D⟩ _ (.tup (iN l)) _ _ (W.push x _) ⟨x,vs,n,rfl,.head _,VA.iN (hv.mono (W.push x _))⟩ ⟨agj,lf,_,h',gn,aN,rfl,R.push Z⟩ hk
theorem adL{l:List SV}{s:SV}(h:(match l with
  |[s]=>some s
  |_=>none)=some s):l=[s]:=by
 match l,h with
 |[a],h=>rw[Option.some.inj h]
theorem ne_nil{α:Type _}{l:List α}(h:(!l.isEmpty)=true):l≠[]:=fun e=>by rw[e] at h;exact Bool.noConfusion h
theorem iO(S:c8 c o){op:Operator}{a b:SV}{va vb:Value}(h:XE o op a b σ k)(ha:VR W a va)(hb:VR W b vb):Ev c (binaryOp op va vb) W σ k:=by
 cases a with
 |int x i=>
  refine aa h fun p h1 h=>?_
  rw[bL h1] at hb
  obtain⟨t,e1,h2⟩:=ha
  obtain⟨u,e2,h3⟩:=hb
  rw[e1,e2]
  exact rY h h2 h3
 |fq q n=>
  cases op<;>try exact h.elim
  refine aa h fun p h1 h=>?_
  have key:=eF S h ha hb
  obtain⟨x,e1,hx,_⟩:=ha
  rw[lG h1] at hb
  obtain⟨y,e2,hy,_⟩:=hb
  rw[e1,e2] at key⊢
  exact key.back fun its agj lf led hp gn tk Q E R q=>wo R.Z.F (S.ok.X R.H) R.Z.N (F1.mono hx R.dl).is (F1.mono hy R.dl).is q
 |aU q n=>
  have h:(match fh b with
   |some _=>af (A5 op) fun ad=>qw o ad (.aU q n) b σ k
   |none=>af (dw b) fun _=>af (XD op) fun ad=>qw o ad (.aU q n) b σ k):=h
  have ha2:=ha
  obtain⟨x,e1,hx,_⟩:=ha2
  cases e:fh b with
  |some p=>
   rw[e] at h
   refine aa h fun ad h1 h=>?_
   have key:=eF S h ha hb
   rw[dZ e] at hb
   obtain⟨y,e2,hy,_⟩:=hb
   rw[e1,e2] at key⊢
   refine key.back fun its agj lf led hp gn tk Q E R q=>?_
   have cI:=(F2.mono hx R.dl).is
   have jz:=(F2.mono hy R.dl).is
   cases op<;>first|exact no h1|skip
   case Add=>exact rA R.Z.F (S.ok.X R.H) R.Z.N cI jz (Option.some.inj h1▸q)
   case Sub=>exact rB R.Z.F (S.ok.X R.H) R.Z.N cI jz (Option.some.inj h1▸q)
   case Mult=>exact pM R.Z.F (S.ok.X R.H) R.Z.N cI jz (Option.some.inj h1▸q)
   case Div=>exact rC R.Z.F (S.ok.X R.H) R.Z.N cI jz (Option.some.inj h1▸q)
  |none=>
   rw[e] at h
   refine aa h fun p h0 h=>?_
   refine aa h fun ad h1 h=>?_
   have key:=eF S h ha hb
   rw[bL h0] at hb
   obtain⟨u,e2,_⟩:=hb
   rw[e1,e2] at key⊢
   refine key.back fun its agj lf led hp gn tk Q E R q=>?_
   have cI:=(F2.mono hx R.dl).is
   cases op<;>first|exact no h1|skip
   case Mult=>exact nU R.Z.F (S.ok.X R.H) R.Z.N cI (Option.some.inj h1▸q)
   case Div=>exact pN R.Z.F (S.ok.X R.H) R.Z.N cI (Option.some.inj h1▸q)
   case Pow=>exact pO R.Z.F (S.ok.X R.H) R.Z.N cI (Option.some.inj h1▸q)
 |lst i=>
  cases op<;>try exact h.elim
  case Add=>
   refine aa h fun p h1 h=>?_
   refine aa h fun q h2 h=>?_
   refine ai h fun b h=>?_
   refine Eg.lst h fun its agj lf led hp gn tk Q E R kk=>?_
   obtain⟨x,vs,ob,e1,v1,m1,_,_,l1⟩:=R.sq ha h1
   obtain⟨y,us,ob2,e2,v2,m2,_,_,l2⟩:=R.sq hb h2
   obtain⟨n1,f1⟩:=l1 (by have:=congrArg Prod.snd (Option.map_eq_some_iff.mp h1).choose_spec.2;exact this.symm)
   obtain⟨n2,f2⟩:=l2 (by simpa using (nb b).1)
   rw[f1] at m1
   rw[f2] at m2
   rw[e1,e2]
   have k1:=v1.aX
   have k2:=v2.aX
   exact GU R.Z m1 m2 (by rw[<-k1.1,<-k2.1];exact Nat.le_of_ble_eq_true (nb b).2) fun x h' Z hg=>kk x _ _ h' tk Z hg (k1.app k2)
  case Mult=>
   refine aa h fun p h1 h=>?_
   refine aa h fun q h2 h=>?_
   refine aa h fun s h3 h=>?_
   refine ai h fun b h=>?_
   have q0:=of_decide_eq_true (nb (nb b).1).2
   have q1:=of_decide_eq_true (nb b).2
   rw[bL h2] at hb
   obtain⟨u,e2,_⟩:=hb
   rw[e2]
   refine Eg.lst h fun its agj lf led hp gn tk Q E R kk=>?_
   obtain⟨x,vs,ob,e1,v1,m1,_,_,l1⟩:=R.sq ha h1
   obtain⟨n1,f1⟩:=l1 (by have:=congrArg Prod.snd (Option.map_eq_some_iff.mp h1).choose_spec.2;exact this.symm)
   have k1:=v1.aX
   rw[adL h3] at k1
   obtain⟨v,r,e3,k2,k3⟩:=k1.head
   rw[List.length_eq_zero_iff.mp k3.1.symm] at e3
   rw[f1,e3] at m1
   rw[e1]
   exact GW (j:=q.1.toNat) R.Z m1 (Eq.symm (Int.toNat_of_nonneg q0)) (Int.toNat_le.mpr q1) fun x h' Z hg=>kk x _ _ h' tk Z hg (VA.rep k2 _)
 |tup r=>
  cases op<;>try exact h.elim
  refine aa h fun q h1 h=>?_
  refine ai h fun b h=>?_
  rw[gK h1] at hb
  obtain⟨x,vs,n,e1,m1,v1⟩:=ha
  obtain⟨y,us,n2,e2,m2,v2⟩:=hb
  rw[e1,e2]
  have k1:VA W _ _:=VL.aX (s:=r) v1
  have k2:VA W _ _:=VL.aX (s:=q) v2
  refine Eg.tup h fun its agj lf led hp gn tk Q E R kk=>?_
  have nz:∀{l:List SV} {vs:List Value},VA W l vs->l≠[]->vs≠[]:=fun k e f=>e (List.length_eq_zero_iff.mp (k.1.trans (congrArg List.length f)))
  exact GV R.Z (R.dl _ m1) (R.dl _ m2) (by rw[<-k1.1,<-k2.1];exact Nat.le_of_ble_eq_true (nb b).2) (nz k1 (ne_nil (nb (nb b).1).1)) (nz k2 (ne_nil (nb (nb b).1).2)) fun x h' Z hg=>kk x _ _ h' tk Z (k1.app k2)
 |_=>exact h.elim
end
def Cr(v:SV)(k:Bool->Bool->Prop):Prop:=match v with
 | .bool b l=>k b l
 | .int a c=>k (a !=0) c.lit
 | .none=>k false true
 |_=>False
def XF(o:Or)(op:UnaryOp)(a:SV)(σ:Sg)(k:SV->Sg->Prop):Prop:=match op with
 | .USub=>match a with
  | .int x c=>k (.int (-x) (Cn c c (-x) ⟨c.n,c.nz,false,false,false⟩)) σ
  | .aU _ _=>sj o (364:Nat) (.cons a .nil) σ k
  |_=>False
 | .Not=>Cr a fun b l=>k (.bool (!b) l) σ
 |_=>False
noncomputable def XG(op:CmpOp)(x y:Int):Option Bool:=match op with
 | .Lt=>some (decide (x<y))
 | .Gt=>some (decide (y<x))
 | .LtE=>some (decide (x<=y))
 | .GtE=>some (decide (y<=x))
 |_=>none
noncomputable def isN(s:SV):Option Bool:=match s with
 | .none=>some true
 | .val _=>none
 | .nil=>none
 | .cons _ _=>none
 |_=>some false
noncomputable def Ic(s:SV):Bool:=match s with
 | .none=>true
 |_=>false
noncomputable def eqT(s t:SV):Option (Bool×Bool):=match om s with
 |some a=>(om t).bind fun b=>bif (aX a).length==(aX b).length then Cp s t else some (false,true)
 |none=>match Ic s with
  |true=>(om t).map fun _=>(false,true)
  |false=>Cp s t
def eqO(o:Or)(a b:SV)(σ:Sg)(k:Bool->Bool->Prop):Prop:=af (eqT (rd σ a) (rd σ b)) fun r=>bF (Nat.ble (dep (rd σ a)+1) o.cu) (k r.1 r.2)
def isO(a b:SV)(k:Bool->Bool->Prop):Prop:=match b with
 | .none=>af (isN a) fun r=>k r true
 | .bool y m=>af (D4 a) fun p=>k (p.1==y) (p.2&&m)
 |_=>False
def inO(o:Or)(a b:SV)(σ:Sg)(k:Bool->Bool->Prop):Prop:=match a with
 | .int x c=>af (pe b) fun r=>af (zy (aX r)) fun p=>k (p.1.any fun y=>y==x) false
 | .aU q v=>bF (Nat.ble 20 o.cd&&Nat.ble 400 o.cu) (af (oA σ b) fun r=>bF (!r.2&&Nat.ble (aX r.1).length 1000) (af (uG q (aX r.1)) fun p=>p.2/\k (p.1.any fun b=>dm b v) false))
 |_=>False
def zC(o:Or)(op:CmpOp)(a b:SV)(σ:Sg)(k:SV->Sg->Prop):Prop:=match op with
 | .Eq=>match a with
  | .fq _ _=>bF (Nat.ble 10 o.cu) (af (jU b) fun _=>qw o (197:Nat) a b σ k)
  | .aU _ _=>bF (Nat.ble 10 o.cu) (af (fh b) fun _=>qw o (352:Nat) a b σ k)
  |_=>eqO o a b σ fun r l=>k (.bool r l) σ
 | .NotEq=>eqO o a b σ fun r l=>k (.bool (!r) l) σ
 | .Is=>isO a b fun r l=>k (.bool r l) σ
 | .IsNot=>af (isN a) fun r=>match b with
  | .none=>k (.bool (!r) true) σ
  |_=>False
 | .In=>inO o a b σ fun r l=>k (.bool r l) σ
 | .NotIn=>match a with
  | .int _ _=>inO o a b σ fun r l=>k (.bool (!r) l) σ
  |_=>False
 |op=>af (dw a) fun p=>af (dw b) fun q=>af (XG op p.1 q.1) fun r=>k (.bool r (p.2.lit&&q.2.lit)) σ
section
variable{c:Cx}{o:Or}{W:Wd}{σ:Sg}{k:SV->Sg->Prop}
theorem dz{v:SV}{vv:Value}{kb:Bool->Bool->Prop}{s:Shared}{Q:Bool->Shared->Prop}{E:Value->Shared->Prop}{A:Around}{w:World}(h:Cr v kb)(hv:VR W v vv)(kk:∀b l,kb b l->Q b s):wpAny (MM w) A (truthy vv) Q E s:=by
 cases v with
 |bool b l=>have e:vv=.bool b:=hv;rw[e];exact gj (kk b l h)
 |int a c=>obtain⟨t,e,_⟩:=hv;rw[e];exact xH (kk _ _ h)
 |none=>have e:vv=.none:=hv;rw[e];exact Fe (kk _ _ h)
 |_=>exact h.elim
theorem RR.rd{its:Led}{agj h:Heap}{lf:List (Str×Value)}{led:Led}{gn:Array GenState}(R:RR c its W σ agj lf led h gn){s:SV}{v:Value}(hv:VR W s v):VR ⟨W.ρ,led⟩ (rd σ s) v:=by
 have l:W.le ⟨W.ρ,led⟩:=⟨⟨[],by simp⟩,R.dl⟩
 have JC:=hv.mono l
 cases s with
 |lst i=>
  obtain⟨x,e,hx⟩:=hv
  cases hT:σ.T[i]? with
  |none=>
   have:S.rd σ (.lst i)=.lst i:=by show(match σ.T[i]? with|some e=>SV.rl e.1|none=>.lst i)=_;rw[hT]
   rw[this]
   exact JC
  |some p=>
   have:S.rd σ (.lst i)=.rl p.1:=by show(match σ.T[i]? with|some e=>SV.rl e.1|none=>.lst i)=_;rw[hT]
   rw[this]
   obtain⟨t,b⟩:=p
   have q:=R.ta i x _ hx hT
   cases b with
   |true=>exact q.elim fun vs q=>q.elim fun n q=>⟨x,vs,n,e,R.dl _ q.1,q.2.mono l⟩
   |false=>exact q.1.elim fun vs q=>q.elim fun n q=>⟨x,vs,n,e,q.1,q.2.mono l⟩
 |_=>exact JC
theorem sF(S:c8 c o){op:UnaryOp}{a:SV}{va:Value}(h:XF o op a σ k)(ha:VR W a va):Ev c (unaryOp op va) W σ k:=by
 cases op<;>try exact h.elim
 case USub=>
  cases a with
  |int x i=>
   obtain⟨t,e,hi⟩:=ha
   rw[e]
   exact cH (eW (.of (fun e=>(hi.s e).neg) (fun e=>Int.neg_ne_zero.mpr (hi.z e)) fun e=>Bool.noConfusion e)) h fun h gn dr tk os Q E kk=>Ke (kk _ _)
  |aU q v=>
   have key:=fT S (c:=c) h ⟨va,_,rfl,ha,rfl⟩
   obtain⟨x,e,hx,_⟩:=ha
   rw[e] at key⊢
   intro its s Q E hs he kk
   obtain⟨agj,lf,led,hp,gn,tk,e2,R⟩:=hs
   have:=key its s Q E ⟨agj,lf,led,hp,gn,tk,e2,R⟩ he kk
   rw[e2] at this⊢
   exact rD R.Z.F (S.ok.X R.H) R.Z.N (F2.mono hx R.dl).is this
  |_=>exact h.elim
 case Not=>
  intro its s Q E hs he kk
  exact Kl (dz h ha fun b l hb=>kk W _ (.bool _ _) σ s (.rfl W) rfl hs hb)
theorem XH{s:SV}{r:Bool}{v:Value}(h:isN s=some r)(hv:VR W s v):(v==Value.none)=r:=by
 cases s with
 |none=>have e:v=.none:=hv;rw[e,<-Option.some.inj h];rfl
 |int a c=>obtain⟨t,e,_⟩:=hv;rw[e,<-Option.some.inj h];rfl
 |bool b l=>have e:v=.bool b:=hv;rw[e,<-Option.some.inj h];rfl
 |tup r=>obtain⟨x,_,_,e,_⟩:=hv;rw[e,<-Option.some.inj h];rfl
 |rl r=>obtain⟨x,_,_,e,_⟩:=hv;rw[e,<-Option.some.inj h];rfl
 |fq q n=>obtain⟨x,e,_⟩:=hv;rw[e,<-Option.some.inj h];rfl
 |aU q n=>obtain⟨x,e,_⟩:=hv;rw[e,<-Option.some.inj h];rfl
 |lst i=>obtain⟨x,e,_⟩:=hv;rw[e,<-Option.some.inj h];rfl
 |_=>exact no h
theorem wU{agj h:Heap}{L:Addr}{led:Led}{gn:Array GenState}{dr:Drawn}{tk:Nat}{os:OsState}(N:News agj L h W.D){A:Around}{s t:SV}{r:Bool×Bool}{v u:Value}(h1:VR W s v)(h2:VR W t u)(e:eqT s t=some r)(hu:A.units+dep s<cLine):HZ A ⟨h,gn,dr,tk,os⟩ v u r.1:=by
 unfold eqT at e
 cases hs:om s with
 |some a=>
  rw[hs] at e
  obtain⟨b,hb,e⟩:=iD (show((om t).bind fun b=>bif (aX a).length==(aX b).length then Cp s t else some (false,true))=some r from e)
  cases hl:(aX a).length==(aX b).length with
  |true=>rw[hl] at e;exact(nv N s).1 A t r v u h1 h2 e hu
  |false=>
   rw[hl] at e
   rw[ir hs] at h1
   rw[ir hb] at h2
   obtain⟨x,vs,n,k1,a1,a2⟩:=h1
   obtain⟨y,us,m,k2,b1,b2⟩:=h2
   have a2:VA W _ _:=VL.aX (s:=a) a2
   have b2:VA W _ _:=VL.aX (s:=b) b2
   have hz:(vs.toArray.size !=us.toArray.size)=true:=by
    rw[List.size_toArray,List.size_toArray,<-a2.1,<-b2.1]
    show(!((aX a).length==(aX b).length))=true
    rw[hl]
    rfl
   have mO:x≠y:=fun q=>by
    rw[<-q] at b1
    have q2:vs.toArray=us.toArray:=by injection News.uq N a1 b1 with _ _ q _;injection q
    rw[q2,bne_self_eq_false] at hz
    cases hz
   have JD:A.units<cLine:=by exact nk hu
   rw[k1,k2,<-Option.some.inj e]
   have g1:=PySem.SeqAt.RcAt.lists_lengths (s:=⟨h,gn,dr,tk,os⟩) (A:=A) (N.isList a1) (N.isList b1) hz JD
   exact⟨g1,PySem.SeqAt.RcNeAt.lists_lengths (N.isList a1) (N.isList b1) hz JD,PySem.SeqAt.EqAt.of_refs mO g1⟩
 |none=>
  rw[hs] at e
  have e:(match Ic s with
   |true=>(om t).map fun _=>(false,true)
   |false=>Cp s t)=some r:=e
  cases hn:Ic s with
  |false=>rw[hn] at e;exact(nv N s).1 A t r v u h1 h2 e hu
  |true=>
   rw[hn] at e
   obtain⟨b,hb,e⟩:=Option.map_eq_some_iff.mp e
   have hv:v=.none:=by
    cases s with
    |none=>exact h1
    |_=>exact Bool.noConfusion hn
   rw[ir hb] at h2
   obtain⟨y,us,m,k2,b1,b2⟩:=h2
   have JD:A.units<cLine:=by exact nk hu
   rw[hv,k2,<-e]
   exact⟨PySem.SeqAt.RcAt.none_list (N.isList b1) JD,PySem.SeqAt.RcNeAt.none_list (N.isList b1) JD,PySem.SeqAt.EqAt.none_list (N.isList b1) JD⟩
theorem nA(S:c8 c o){a b:SV}{va vb:Value}{kb:Bool->Bool->Prop}{its:Led}{s:Shared}(h:eqO o a b σ kb)(ha:VR W a va)(hb:VR W b vb)(hs:RS c its W σ s):∃r l,HZ c.A s va vb r/\kb r l:=by
 refine aa h fun r h1 h=>?_
 refine ai h fun g h=>?_
 obtain⟨agj,lf,led,hp,gn,tk,e,R⟩:=hs
 have hu:c.un+o.cu<cLine:=S.ok.hu
 have hg:=Nat.le_of_ble_eq_true g
 refine⟨r.1,r.2,?_,h⟩
 rw[e]
 exact wU (W:=⟨W.ρ,led⟩) (led:=led) R.Z.N (R.rd ha) (R.rd hb) h1 (by show c.un+dep (rd σ a)<cLine;exact Nat.lt_of_le_of_lt (Nat.add_le_add_left (Nat.le_of_succ_le hg) _) hu)
theorem uI{x:Int}{i:IC}{b:SV}{va vb:Value}{kb:Bool->Bool->Prop}{its:Led}{s:Shared}(h:inO o (.int x i) b σ kb)(ha:VR W (.int x i) va)(hb:VR W b vb)(hs:RS c its W σ s):
  ∃r l,kb r l/\(∀(Q:Value->Shared->Prop) E,Q (.bool r) s->wpAny (MM c.w) c.A (compareOp .In va vb) Q E s)/\∀(Q:Value->Shared->Prop) E,Q (.bool (!r)) s->wpAny (MM c.w) c.A (compareOp .NotIn va vb) Q E s:=by
 refine aa h fun r h1 h=>?_
 refine aa h fun p h2 h=>?_
 rw[gK h1] at hb
 obtain⟨t,e1,_⟩:=ha
 obtain⟨y,vs,n,e2,hm,hv⟩:=hb
 obtain⟨agj,lf,led,hp,gn,tk,e3,R⟩:=hs
 have hv:VA W _ _:=VL.aX (s:=r) hv
 obtain⟨hl,hj⟩:=sd (W:=W) h2
 have hat:∀(i:Nat) v,vs[i]?=some v->∃t,v=.int (p.1.getD i 0) t:=fun i v hi=>by
  have BO:i<(aX r).length:=hv.1▸(List.getElem?_eq_some_iff.mp hi).1
  obtain⟨u,q1,q2⟩:=hv.2 i _ (List.getElem?_eq_getElem BO)
  obtain⟨cc,q3,_⟩:=hj i _ (List.getElem?_eq_getElem BO)
  rw[q3] at q2
  rw[hi] at q1
  obtain⟨t,q2,_⟩:=q2
  exact⟨t,(Option.some.inj q1).trans q2⟩
 let f:Value->Bool:=fun v=>match v with
  | .int b _=>b==x
  |_=>false
 have he:vs.toArray.any f=p.1.any fun y=>y==x:=by
  have:vs.map f=p.1.map fun y=>y==x:=by
   refine List.ext_getElem? fun i=>?_
   rw[List.getElem?_map,List.getElem?_map]
   by_cases hi:i<vs.length
   ·obtain⟨t,q⟩:=hat i _ (List.getElem?_eq_getElem hi)
    have BO:i<p.1.length:=by rw[hl,hv.1];exact hi
    rw[List.getElem?_eq_getElem hi,List.getElem?_eq_getElem BO,q]
    show some (p.1.getD i 0==x)=_
    rw[List.getD_eq_getElem?_getD,List.getElem?_eq_getElem BO]
    rfl
   ·rw[List.getElem?_eq_none (rV hi),List.getElem?_eq_none (by rw[hl,hv.1];exact rV hi)]
    rfl
  have q:=congrArg (fun l=>l.any id) this
  rw[List.any_toArray]
  simpa[List.any_map,Function.comp_def] using q
 rw[e1,e2,e3]
 have eqs:∀v,v∈vs.toArray->PySem.SeqAt.EqAt c.A.in1 ⟨hp,gn,c.dr,tk,c.os⟩ v (.int x t) (f v):=fun v JC=>by
  obtain⟨i,hi,q⟩:=List.getElem_of_mem (by simpa using JC:v∈vs)
  obtain⟨u,q2⟩:=hat i v (by rw[List.getElem?_eq_getElem hi,q])
  rw[q2]
  exact PySem.SeqAt.EqAt.int_int _ _ _ _
 have ht:(Shared.mk hp gn c.dr tk c.os).heap.IsTuple y vs.toArray:=⟨_,(R.Z.N _ (R.dl _ hm)).1,rfl,_,rfl⟩
 exact⟨_,false,h,fun Q E q=>PySem.SeqAt.in_tupleAt f ht eqs (he▸q),fun Q E q=>PySem.SeqAt.notIn_tupleAt f ht eqs (he▸q)⟩
end
theorem zD{W:Wd}{q:Int}{led:Led}(hd:∀p∈W.D,p∈led):∀{l:List SV} {vs:List Value} {as:List (Int×Int)},VA W l vs->as.length=l.length->(∀(i:Nat) s,l[i]?=some s->s=.aU q (as.getD i (0,0)))->L2 led q vs as
 |[],vs,as,h,e,_=>by
  rw[List.length_eq_zero_iff.mp h.1.symm,List.length_eq_zero_iff.mp e]
  trivial
 |s::l,vs,a::as,h,e,f=>by
  obtain⟨v,r,e1,k1,k2⟩:=h.head
  rw[f 0 s rfl] at k1
  obtain⟨x,e2,hx,_⟩:=k1
  rw[e1]
  exact⟨⟨x,e2,F2.mono hx hd⟩,zD hd k2 (Nat.succ.inj e) fun i t ht=>f (i+1) t (by rw[List.getElem?_cons_succ];exact ht)⟩
 |s::l,vs,[],h,e,_=>by cases e
section
variable{c:Cx}{o:Or}{W:Wd}{σ:Sg}{k:SV->Sg->Prop}
structure adM(c:Cx)(cd cu:Nat)(agj:Heap):Prop where
 B:Below c.A₀ c.base c.outer agj
 X:(KK c.w.params).In agj
 T:Top c.p c.loose c.aY c.mg c.mb agj
 hk:c.cs.kind=.function
 hd:c.dp+cd<recursionLimit
 hu:c.un+cu<cLine
theorem mH.old{cd cu HV Xs:Nat}(ok:mH c cd cu){agj:Heap}(H:HB c agj)(h1:Nat.ble HV cd=true)(h2:Nat.ble Xs cu=true):adM c HV Xs agj:=by
 have a:=ok.hd
 have b:=ok.hu
 have h1:=Nat.le_of_ble_eq_true h1
 have h2:=Nat.le_of_ble_eq_true h2
 exact⟨H.1,ok.X H,ok.T H,ok.hk,Nat.lt_of_le_of_lt (Nat.add_le_add_left h1 _) a,Nat.lt_of_le_of_lt (Nat.add_le_add_left h2 _) b⟩
theorem Cs(S:c8 c o){q:Int}{v:Int×Int}{b:SV}{va vb:Value}(h:inO o (.aU q v) b σ fun r l=>k (.bool r l) σ)(ha:VR W (.aU q v) va)(hb:VR W b vb):Ev c (compareOp .In va vb) W σ k:=by
 refine ai h fun g h=>?_
 refine aa h fun r h1 h=>?_
 refine ai h fun g2 h=>?_
 obtain⟨p,h2,hp,h⟩:=aH h
 obtain⟨x,e1,hx,_⟩:=ha
 intro its s Q E hs he kk
 obtain⟨agj,lf,led,Ct,gn,tk,e,R⟩:=hs
 obtain⟨y,vs,ob,e2,hv,hm,_,_,hf⟩:=R.sq hb h1
 obtain⟨n,e3⟩:=hf (by simpa using (nb g2).1)
 rw[e3] at hm
 obtain⟨q1,q2⟩:=oB (W:=W) h2 hp
 have hv:=hv.aX
 have O:=S.ok.old R.H (nb g).1 (nb g).2
 rw[e1,e2,e]
 refine UR O.B R.Z O.X O.T O.hk R.G O.hd O.hu hm (zD R.dl hv q1 q2) (F2.mono hx R.dl) (by rw[<-hv.1];exact Nat.le_of_ble_eq_true (nb g2).2) fun h' bB aN Z' G'=>?_
 exact kk W _ (.bool _ _) σ _ (.rfl W) rfl ⟨agj,lf,led,h',bB,aN,rfl,R.grow (tl:=[]) Z' R.H G'⟩ h
theorem eG(S:c8 c o){op:CmpOp}{a b:SV}{va vb:Value}(h:zC o op a b σ k)(ha:VR W a va)(hb:VR W b vb):Ev c (compareOp op va vb) W σ k:=by
 have int:∀{op},(af (dw a) fun p=>af (dw b) fun q=>af (XG op p.1 q.1) fun r=>k (.bool r (p.2.lit&&q.2.lit)) σ)->Ev c (compareOp op va vb) W σ k:=fun {op} h=>by
  refine aa h fun p h1 h=>?_
  refine aa h fun q h2 h=>?_
  refine aa h fun r h3 h=>?_
  rw[bL h1] at ha
  rw[bL h2] at hb
  obtain⟨t,e1,_⟩:=ha
  obtain⟨u,e2,_⟩:=hb
  rw[e1,e2]
  refine fS h fun s Q E q=>?_
  cases op<;>first|exact no h3|skip
  case Lt=>exact aaG (Option.some.inj h3▸q)
  case LtE=>exact aaI (Option.some.inj h3▸q)
  case Gt=>exact aaH (Option.some.inj h3▸q)
  case GtE=>exact aaJ (Option.some.inj h3▸q)
 have eqs:eqO o a b σ (fun r l=>k (.bool r l) σ)->Ev c (compareOp .Eq va vb) W σ k:=fun h=>by
  intro its s Q E hs he kk
  obtain⟨r,l,g,hk⟩:=nA S h ha hb hs
  exact g.rc _ c.w E Q (kk W _ (.bool r l) σ s (.rfl W) rfl hs hk)
 cases op with
 |Eq=>
  cases a with
  |fq q n=>
   refine ai h fun g h=>?_
   refine aa h fun p h1 h=>?_
   have key:=eF S h ha hb
   rw[lG h1] at hb
   obtain⟨x,e1,hx,_⟩:=ha
   obtain⟨y,e2,hy,_⟩:=hb
   rw[e1,e2] at key⊢
   exact key.back fun its agj lf led hp gn tk Q E R q=>xQ R.Z.F (S.ok.X R.H) R.Z.N (F1.mono hx R.dl).is (F1.mono hy R.dl).is (S.ok.old (HV:=0) R.H rfl g).hu q
  |aU q n=>
   refine ai h fun g h=>?_
   refine aa h fun p h1 h=>?_
   have key:=eF S h ha hb
   rw[dZ h1] at hb
   obtain⟨x,e1,hx,_⟩:=ha
   obtain⟨y,e2,hy,_⟩:=hb
   rw[e1,e2] at key⊢
   exact key.back fun its agj lf led hp gn tk Q E R q=>wu R.Z.F (S.ok.X R.H) R.Z.N (F2.mono hx R.dl).is (F2.mono hy R.dl).is (S.ok.old (HV:=0) R.H rfl g).hu q
  |_=>exact eqs h
 |NotEq=>
  intro its s Q E hs he kk
  obtain⟨r,l,g,hk⟩:=nA (kb:=fun r l=>k (.bool (!r) l) σ) S h ha hb hs
  exact g.ne _ c.w E Q (kk W _ (.bool (!r) l) σ s (.rfl W) rfl hs hk)
 |Is=>
  cases b with
  |none=>
   refine aa h fun r h1 h=>?_
   have e:vb=.none:=hb
   rw[e]
   exact fS h fun s Q E q=>Kh (by rw[XH h1 ha];exact q)
  |bool y m=>
   refine aa h fun p h1 h=>?_
   rw[rW h1] at ha
   have e:vb=.bool y:=hb
   have e1:va=.bool p.1:=ha
   rw[e,e1]
   exact fS h fun s Q E q=>is_bool q
  |_=>exact h.elim
 |IsNot=>
  refine aa h fun r h1 h=>?_
  cases b with
  |none=>
   have e:vb=.none:=hb
   rw[e]
   exact fS h fun s Q E q=>Fo (by rw[XH h1 ha];exact q)
  |_=>exact h.elim
 |In=>
  cases a with
  |int x i=>
   intro its s Q E hs he kk
   obtain⟨r,l,hk,q,_⟩:=uI (o:=o) (kb:=fun r l=>k (.bool r l) σ) h ha hb hs
   exact q Q E (kk W _ (.bool r l) σ s (.rfl W) rfl hs hk)
  |aU q v=>exact Cs S h ha hb
  |_=>exact False.elim h
 |NotIn=>
  cases a with
  |int x i=>
   intro its s Q E hs he kk
   obtain⟨r,l,hk,_,q⟩:=uI (o:=o) (kb:=fun r l=>k (.bool (!r) l) σ) h ha hb hs
   exact q Q E (kk W _ (.bool (!r) l) σ s (.rfl W) rfl hs hk)
  |_=>exact False.elim h
 |Lt=>exact int h
 |LtE=>exact int h
 |Gt=>exact int h
 |GtE=>exact int h
end
noncomputable def Ie(s:SV):Option Value:=match s with
 | .val v=>some v
 |_=>none
theorem zE{s:SV}{r:Value}:Ie s=some r->s=.val r:=SV.casesOn (motive:=fun s=>Ie s=some r->s=.val r) s (fun _ _ h=>no h) (fun _ _ h=>no h) (fun h=>no h) (fun _ h=>no h) (fun _ h=>no h) (fun h=>no h) (fun _ _ h=>no h) (fun _ _ h=>no h) (fun _ _ h=>no h) (fun _ h=>no h) (fun _ h=>Option.some.inj h▸rfl)
noncomputable def cN(s:SV):Option SV:=(D5 s).bind fun p=>(JA p.2).map fun _=>p.1
noncomputable def cJ(s:SV):Option (SV×SV):=(D5 s).bind fun p=>(cN p.2).map fun q=>(p.1,q)
noncomputable def eX(s:SV):Option (SV×SV×SV):=(D5 s).bind fun p=>(cJ p.2).map fun q=>(p.1,q)
theorem jq{W:Wd}{s a:SV}{vs:List Value}(h:cN s=some a)(hv:VL W s vs):∃v,vs=[v]/\VR W a v:=by
 refine ah h fun p h1 h=>?_
 obtain⟨u,h2,h⟩:=Option.map_eq_some_iff.mp h
 rw[mU h1,zg h2] at hv
 obtain⟨v,r,e,k1,k2⟩:=hv
 have k2:r=[]:=k2
 rw[k2] at e
 exact⟨v,e,h▸k1⟩
theorem nB{W:Wd}{s:SV}{a:SV×SV}{vs:List Value}(h:cJ s=some a)(hv:VL W s vs):∃v u,vs=[v,u]/\VR W a.1 v/\VR W a.2 u:=by
 refine ah h fun p h1 h=>?_
 obtain⟨q,h2,h⟩:=Option.map_eq_some_iff.mp h
 rw[mU h1] at hv
 obtain⟨v,r,e,k1,k2⟩:=hv
 obtain⟨u,e2,k3⟩:=jq h2 k2
 rw[e2] at e
 rw[<-h]
 exact⟨v,u,e,k1,k3⟩
theorem zF{W:Wd}{s:SV}{a:SV×SV×SV}{vs:List Value}(h:eX s=some a)(hv:VL W s vs):∃v u w,vs=[v,u,w]/\VR W a.1 v/\VR W a.2.1 u/\VR W a.2.2 w:=by
 refine ah h fun p h1 h=>?_
 obtain⟨q,h2,h⟩:=Option.map_eq_some_iff.mp h
 rw[mU h1] at hv
 obtain⟨v,r,e,k1,k2⟩:=hv
 obtain⟨u,w,e2,k3,k4⟩:=nB h2 k2
 rw[e2] at e
 rw[<-h]
 exact⟨v,u,w,e,k1,k3,k4⟩
noncomputable def XI(a:SV)(v:Value):Option Bool:=match a with
 | .int _ _=>match v with
  | .ref n=>bif n==(264:Nat) then some false else none
  | .type T=>bif T=="int" then some true else none
  |_=>none
 | .fq _ _=>match v with
  | .ref n=>bif n==(264:Nat) then some true else none
  |_=>none
 | .aU _ _=>match v with
  | .ref n=>bif n==(418:Nat)||n==(389:Nat) then some true else none
  | .type T=>bif T=="int" then some false else none
  |_=>none
 | .tup _=>match v with
  | .type T=>bif T=="tuple" then some true else none
  |_=>none
 |_=>none
def Ig(id:String)(args:SV)(σ:Sg)(k:SV->Sg->Prop):Prop:=af (List.lookup id [
 ("len",af (cN args) fun a=>af (oA σ a) fun r=>bF (Nat.ble (aX r.1).length 1000) (k (.int (aX r.1).length (dF (aX r.1).length)) σ)),
 ("abs",af (cN args) fun a=>af (dw a) fun p=>k (.int (if p.1<0 then -p.1 else p.1) ⟨p.2.n,p.2.nz,true,false,false⟩) σ),
 ("isinstance",af (cJ args) fun a=>af (Ie a.2) fun v=>af (XI a.1 v) fun b=>k (.bool b true) σ),
 ("pow",af (eX args) fun a=>af (dw a.1) fun x=>af (dw a.2.1) fun y=>af (dw a.2.2) fun z=>bF (y.2.nn&&z.2.md) (k (.int (ef x.1 y.1 z.1) ⟨z.2.n,false,true,false,false⟩) σ))]) fun p=>p
def Cu(T:String)(args:SV)(σ:Sg)(k:SV->Sg->Prop):Prop:=af (List.lookup T [
 ("int",af (cN args) fun a=>match dw a with
  |some _=>k a σ
  |none=>af (D4 a) fun p=>k (.int (if p.1 then 1 else 0) ⟨64,false,true,false,false⟩) σ),
 ("bool",af (cN args) fun a=>match dw a with
  |some p=>k (.bool (p.1 !=0) p.2.lit) σ
  |none=>af (D4 a) fun _=>k a σ),
 ("tuple",af (cN args) fun a=>af (oA σ a) fun r=>match r.2 with
  |true=>k a σ
  |false=>bF (Nat.ble (aX r.1).length 1000) (k (.tup (iN (aX r.1))) σ)),
 ("list",af (cN args) fun a=>af (oA σ a) fun r=>bF (Nat.ble (aX r.1).length 1000) (k (.lst σ.T.length) (σ.add (iN (aX r.1)))))]) fun p=>p
theorem jL{α:Type _}{a x:String}{y r:α}{l:List (String×α)}(h:List.lookup a ((x,y)::l)=some r):(a=x/\y=r)\/List.lookup a l=some r:=by
 rw[List.lookup_cons] at h
 by_cases e:a=x
 ·rw[e,beq_self_eq_true] at h
  exact .inl ⟨e,Option.some.inj h⟩
 ·rw[beq_false_of_ne e] at h
  exact .inr h
section
variable{c:Cx}{o:Or}{W:Wd}{σ:Sg}{k:SV->Sg->Prop}
theorem wV(S:c8 c o){a:SV}{va v:Value}{b:Bool}(h:XI a v=some b)(ha:VR W a va){its:Led}{agj hp:Heap}{lf:List (Str×Value)}{led:Led}{gn:Array GenState}{tk:Nat}(R:RR c its W σ agj lf led hp gn){Q:Value->Shared->Prop}{E:Value->Shared->Prop}(q:∀aN,Q (.bool b) ⟨hp,gn,c.dr,aN,c.os⟩):
  wpAny (MM c.w) c.A (call (.builtin "isinstance") [va,v]) Q E ⟨hp,gn,c.dr,tk,c.os⟩:=by
 have F:=R.Z.F
 have N:=R.Z.N
 have X:=S.ok.X R.H
 cases a with
 |int x i=>
  obtain⟨t,e,_⟩:=ha
  rw[e]
  cases v with
  |ref n=>obtain⟨e1,e2⟩:=eN h;rw[beq_iff_eq.mp e1];exact kE F X N (e2▸q)
  |type T=>obtain⟨e1,e2⟩:=eN h;rw[beq_iff_eq.mp e1];exact gq F X N (e2▸q)
  |_=>exact no h
 |fq x n=>
  obtain⟨y,e,hx,_⟩:=ha
  rw[e]
  cases v with
  |ref n=>obtain⟨e1,e2⟩:=eN h;rw[beq_iff_eq.mp e1];exact we F X N (F1.mono hx R.dl).is (e2▸q)
  |_=>exact no h
 |aU x n=>
  obtain⟨y,e,hx,_⟩:=ha
  rw[e]
  have cI:=(F2.mono hx R.dl).is
  cases v with
  |ref n=>
   obtain⟨e1,e2⟩:=eN h
   rcases (Bool.or_eq_true _ _).mp e1 with e1|e1
   ·rw[beq_iff_eq.mp e1];exact pH F X N cI (e2▸q)
   ·rw[beq_iff_eq.mp e1];exact jK F X N cI (e2▸q)
  |type T=>obtain⟨e1,e2⟩:=eN h;rw[beq_iff_eq.mp e1];exact pJ F X N cI (e2▸q)
  |_=>exact no h
 |tup r=>
  obtain⟨y,vs,n,e,hm,_⟩:=ha
  rw[e]
  cases v with
  |type T=>obtain⟨e1,e2⟩:=eN h;rw[beq_iff_eq.mp e1];exact Bj F X N (R.dl _ hm) (e2▸q)
  |_=>exact no h
 |_=>exact no h
theorem lH(S:c8 c o){id:String}{args:SV}{bR:List Value}(h:Ig id args σ k)(hv:VL W args bR):Ev c (call (.builtin id) bR) W σ k:=by
 refine aa h fun P hl h=>?_
 rcases jL hl with⟨e,hl⟩|hl
 ·rw[e]
  rw[<-hl] at h
  refine aa h fun a h1 h=>?_
  refine aa h fun r h2 h=>?_
  refine ai h fun g h=>?_
  obtain⟨v,e1,k1⟩:=jq h1 hv
  rw[e1]
  intro its s Q E hs he kk
  obtain⟨agj,lf,led,hp,gn,tk,e2,R⟩:=hs
  obtain⟨x,vs,ob,e3,hx,hm,ho,_,_⟩:=R.sq k1 h2
  have hx:=hx.aX
  rw[e2,e3]
  refine DO R.Z.N hm ho (by rw[<-hx.1];exact Nat.le_of_ble_eq_true g) ?_
  rw[<-hx.1]
  exact kk W _ (.int _ _) σ _ (.rfl W) ⟨_,rfl,b8 _⟩ ⟨agj,lf,led,hp,gn,_,rfl,R⟩ h
 rcases jL hl with⟨e,hl⟩|hl
 ·rw[e]
  rw[<-hl] at h
  refine aa h fun a h1 h=>?_
  refine aa h fun p h2 h=>?_
  obtain⟨v,e1,k1⟩:=jq h1 hv
  rw[bL h2] at k1
  obtain⟨t,e2,hi⟩:=k1
  rw[e1,e2]
  refine cH ⟨fun e=>?_,fun e=>?_,fun _=>?_,fun e=>Bool.noConfusion e⟩ h fun h gn dr tk os Q E kk=>call_abs_int fun u tk=>kk u tk
  ·by_cases hn:p.1<0
   ·rw[if_pos hn];exact(hi.s e).neg
   ·rw[if_neg hn];exact hi.s e
  ·by_cases hn:p.1<0
   ·rw[if_pos hn];exact Int.neg_ne_zero.mpr (hi.z e)
   ·rw[if_neg hn];exact hi.z e
  ·by_cases hn:p.1<0
   ·rw[if_pos hn];exact Int.neg_nonneg_of_nonpos (Int.le_of_lt hn)
   ·rw[if_neg hn];exact Int.not_lt.mp hn
 rcases jL hl with⟨e,hl⟩|hl
 ·rw[e]
  rw[<-hl] at h
  refine aa h fun a h1 h=>?_
  refine aa h fun v h2 h=>?_
  refine aa h fun b h3 h=>?_
  obtain⟨va,vb,e1,k1,k2⟩:=nB h1 hv
  rw[zE h2] at k2
  have k2:vb=v:=k2
  rw[e1,k2]
  intro its s Q E hs he kk
  obtain⟨agj,lf,led,hp,gn,tk,e2,R⟩:=hs
  rw[e2]
  exact wV S h3 k1 R fun aN=>kk W _ (.bool b true) σ _ (.rfl W) rfl ⟨agj,lf,led,hp,gn,aN,rfl,R⟩ h
 rcases jL hl with⟨e,hl⟩|hl
 ·rw[e]
  rw[<-hl] at h
  refine aa h fun a h1 h=>?_
  refine aa h fun x h2 h=>?_
  refine aa h fun y h3 h=>?_
  refine aa h fun z h4 h=>?_
  refine ai h fun g h=>?_
  obtain⟨v1,v2,v3,e1,k1,k2,k3⟩:=zF h1 hv
  rw[bL h2] at k1
  rw[bL h3] at k2
  rw[bL h4] at k3
  obtain⟨t1,e2,_⟩:=k1
  obtain⟨t2,e3,i2⟩:=k2
  obtain⟨t3,e4,i3⟩:=k3
  rw[e1,e2,e3,e4]
  have hm:=i3.m (nb g).2
  have hz:=hm.one
  have a1:0<=ef x.1 y.1 z.1:=Int.emod_nonneg _ (JW hz)
  have a2:ef x.1 y.1 z.1<z.1:=Int.emod_lt_of_pos _ (jc hz)
  exact cH (.of0 (fun e=>Sm.res (i3.s e) a1 a2) fun _=>a1) h fun h gn dr tk os Q E kk=>G8 (by have:=i2.p (nb g).1;exact Int.not_lt.mpr this) hm.one (kk _ _)
 exact no hl
theorem sG(S:c8 c o){T:String}{args:SV}{bR:List Value}(h:Cu T args σ k)(hv:VL W args bR):Ev c (call (.type T) bR) W σ k:=by
 refine aa h fun P hl h=>?_
 rcases jL hl with⟨e,hl⟩|hl
 ·rw[e]
  rw[<-hl] at h
  refine aa h fun a h1 h=>?_
  obtain⟨v,e1,k1⟩:=jq h1 hv
  rw[e1]
  cases h2:dw a with
  |some p=>
   rw[h2] at h
   have k0:=k1
   rw[bL h2] at k1
   obtain⟨t,e2,_⟩:=k1
   rw[e2] at k0⊢
   exact Eg.ret a h fun h gn dr tk os Q E kk=>K4 (kk _ _ k0)
  |none=>
   rw[h2] at h
   refine aa h fun p h3 h=>?_
   rw[rW h3] at k1
   have e2:v=.bool p.1:=k1
   rw[e2]
   exact cH (.of0 (fun _=>yZ) fun _=>by cases p.1<;>decide) h fun h gn dr tk os Q E kk=>yY (kk _ _)
 rcases jL hl with⟨e,hl⟩|hl
 ·rw[e]
  rw[<-hl] at h
  refine aa h fun a h1 h=>?_
  obtain⟨v,e1,k1⟩:=jq h1 hv
  rw[e1]
  cases h2:dw a with
  |some p=>
   rw[h2] at h
   rw[bL h2] at k1
   obtain⟨t,e2,_⟩:=k1
   rw[e2]
   exact fS h fun s Q E q=>call_bool_int q
  |none=>
   rw[h2] at h
   refine aa h fun p h3 h=>?_
   rw[rW h3] at k1 h
   have e2:v=.bool p.1:=k1
   rw[e2]
   exact fS h fun s Q E q=>call_bool_bool q
 rcases jL hl with⟨e,hl⟩|hl
 ·rw[e]
  rw[<-hl] at h
  refine aa h fun a h1 h=>?_
  refine aa h fun r h2 h=>?_
  obtain⟨v,e1,k1⟩:=jq h1 hv
  rw[e1]
  cases hb:r.2 with
  |true=>
   rw[hb] at h
   intro its s Q E hs he kk
   obtain⟨agj,lf,led,hp,gn,tk,e2,R⟩:=hs
   obtain⟨x,vs,ob,e3,hx,hm,ho,ht,_⟩:=R.sq k1 h2
   obtain⟨n,e4⟩:=ht hb
   rw[e4] at hm
   rw[e2,e3]
   exact yp R.Z.N hm (kk W _ a σ _ (.rfl W) (e3▸k1) ⟨agj,lf,led,hp,gn,tk,rfl,R⟩ h)
  |false=>
   rw[hb] at h
   refine ai h fun g h=>?_
   refine Eg.tup h fun its agj lf led hp gn tk Q E R kk=>?_
   obtain⟨x,vs,ob,e3,hx,hm,ho,_,hf⟩:=R.sq k1 h2
   obtain⟨n,e4⟩:=hf hb
   have hx:=hx.aX
   rw[e4] at hm
   rw[e3]
   exact HR R.Z hm (by rw[<-hx.1];exact Nat.le_of_ble_eq_true g) fun x h' Z _=>kk x _ _ h' tk Z hx
 rcases jL hl with⟨e,hl⟩|hl
 ·rw[e]
  rw[<-hl] at h
  refine aa h fun a h1 h=>?_
  refine aa h fun r h2 h=>?_
  refine ai h fun g h=>?_
  obtain⟨v,e1,k1⟩:=jq h1 hv
  rw[e1]
  refine Eg.lst h fun its agj lf led hp gn tk Q E R kk=>?_
  obtain⟨x,vs,ob,e3,hx,hm,ho,_,_⟩:=R.sq k1 h2
  have hx:=hx.aX
  rw[e3]
  exact GS R.Z hm ho (by rw[<-hx.1];exact Nat.le_of_ble_eq_true g) fun x n h' Z hg=>kk x n _ h' tk Z hg hx
 exact no hl
end
noncomputable abbrev K1:=SV->Sg->Prop
noncomputable abbrev WE:=Expr->Sg->K1->Prop
noncomputable abbrev WT:=Expr->Sg->(Bool->Bool->Sg->Prop)->Prop
noncomputable def isStar(e:Expr):Bool:=e.ctorIdx==22
def jV(f:WE)(es:List Expr):Sg->K1->Prop:=List.rec (motive:=fun _=>Sg->K1->Prop) (fun σ k=>k .nil σ) (fun e _ ih σ k=>bF (!isStar e) (f e σ fun v au=>ih au fun vs aO=>k (.cons v vs) aO)) es
def XJ(c:Const)(k:SV->Prop):Prop:=match c with
 | .int i=>k (.int i (dF i))
 | .bool b=>k (.bool b true)
 | .none=>k .none
 |_=>False
def zG(i:Nat)(v:SV)(σ:Sg)(k:Sg->Prop):Prop:=af σ.T[i]? fun e=>bF (!e.2&&Nat.ble (aX e.1).length 1000) (k (σ.lE i (iN (aX e.1++[v]),false)))
def XK(i:Nat)(σ:Sg)(k:K1):Prop:=af σ.T[i]? fun e=>bF (!e.2&&Nat.ble (aX e.1).length 1000) (af (aX e.1).getLast? fun x=>k x (σ.lE i (iN (aX e.1).dropLast,false)))
def Ih(i:Nat)(x v:SV)(σ:Sg)(k:Sg->Prop):Prop:=af σ.T[i]? fun e=>af (dw x) fun p=>bF (!e.2&&Nat.ble (aX e.1).length 1000&&p.2.lit&&decide (0<=p.1)&&decide (p.1<(aX e.1).length)) (k (σ.lE i (iN ((aX e.1).set p.1.toNat v),false)))
def XM(o:Or)(a v:SV)(σ:Sg)(k:SV->Prop):Prop:=af (fh v) fun w=>bF (Nat.ble 20 o.cd&&Nat.ble 400 o.cu) (af (oA σ a) fun r=>bF (!r.2&&Nat.ble (aX r.1).length 1000) (af (uG w.1 (aX r.1)) fun p=>
 p.2/\(p.1.any fun b=>dm b w.2)=true/\k (.int (p.1.findIdx fun b=>dm b w.2) ⟨64,false,true,false,false⟩)))
noncomputable def JE(s:SV):Option Nat:=match s with
 | .lst i=>some i
 |_=>none
theorem zH{s:SV}{r:Nat}:JE s=some r->s=.lst r:=SV.casesOn (motive:=fun s=>JE s=some r->s=.lst r) s (fun _ _ h=>no h) (fun _ _ h=>no h) (fun h=>no h) (fun _ h=>no h) (fun _ h=>no h) (fun h=>no h) (fun _ _ h=>no h) (fun _ _ h=>no h) (fun _ _ h=>no h) (fun _ h=>Option.some.inj h▸rfl) (fun _ h=>no h)
def lmO(F:WE)(o:Or)(a:SV)(name:Str)(es:List Expr)(σ:Sg)(k:K1):Prop:=match es with
 |[]=>bF (name=="pop") (af (JE a) fun i=>XK i σ k)
 |[e]=>bF (!isStar e) (af (List.lookup name [
   ("append",af (JE a) fun i=>F e σ fun v au=>zG i v au fun aO=>k .none aO),
   ("index",af (oA σ a) fun r=>bF (!r.2) (F e σ fun v au=>XM o a v au fun r=>k r au))]) fun p=>p)
 |_=>False
noncomputable def okB(e:Expr):Bool:=e.ctorIdx==23||e.ctorIdx==21||e.ctorIdx==2
noncomputable def isNm(e:Expr):Bool:=e.ctorIdx==23
noncomputable def nameOf(e:Expr):Option Str:=match e with
 | .Name x _=>some x
 |_=>none
noncomputable def Ii(e:Expr):Option (Expr×List Expr×List Keyword):=match e with
 | .Call f es ks _=>some (f,es,ks)
 |_=>none
noncomputable def XN(v:Value):Option Nat:=match v with
 | .type T=>bif T=="range" then some 0 else bif T=="zip" then some 1 else bif T=="enumerate" then some 2 else none
 |_=>none
noncomputable def Cv(o:Or)(σ:Sg)(e:Expr):Option (Nat×List Expr):=(Ii e).bind fun q=>(nameOf q.1).bind fun x=>(rZ o σ x).bind fun v=>(Ie v).bind fun v=>(XN v).bind fun n=>bif q.2.2.isEmpty&&(q.2.1.all fun e=> !isStar e)&& !q.2.1.isEmpty then some (n,q.2.1) else none
noncomputable def one{α:Type}(l:List α):Option α:=match l with
 |[a]=>some a
 |_=>none
noncomputable def Ij(a b:SV):SV:=.tup (.cons a (.cons b .nil))
noncomputable def Cw(l1 l2:List SV):List SV:=List.zipWith Ij l1 l2
noncomputable def sH(l:List SV):Nat->List SV:=List.rec (motive:=fun _=>Nat->List SV) (fun _=>[]) (fun h _ ih i=>Ij (.int (i:Int) (dF (i:Int))) h::ih (i+1)) l
noncomputable def zI(o:Or)(σ:Sg)(T:String)(es:List Expr):Option Expr:=bif T=="list" then(one es).bind fun e=>(Cv o σ e).bind fun q=>bif q.1==2 then one q.2 else none else none
def D9(F:WE)(o:Or)(fn:Expr)(es:List Expr)(Ea:List Keyword)(pos:Pos)(σ:Sg)(k:K1):Prop:=bF (Ea.isEmpty&&es.all fun e=> !isStar e) (match fn with
 | .Name _ _=>F fn σ fun vf au=>af (Ie vf) fun v=>match v with
  | .ref a=>bF (o.tab.lookup a).isSome (jV F es au fun vs aO=>sj o a vs aO k)
  | .builtin id=>bF (!es.isEmpty) (jV F es au fun vs aO=>Ig id vs aO k)
  | .type T=>match zI o au T es with
   |some a=>F a au fun v aO=>af (pe v) fun r=>bF ((aX r).length==2) (k (.lst aO.T.length) (aO.add (iN (sH (aX r) 0))))
   |none=>bF (!es.isEmpty) (jV F es au fun vs aO=>Cu T vs aO k)
  |_=>False
 | .Attribute ob name apos=>bF (okB ob&&(apos.endLine==pos.line)&&Nat.ble es.length 20) (F ob σ fun ov au=>match Ib ov name with
  |some a=>bF (o.tab.lookup a).isSome (jV F es au fun vs aO=>sj o a (.cons ov vs) aO k)
  |none=>lmO F o ov name es au k)
 |_=>False)
def adN(F:WE)(op:BoolOp)(es:List Expr)(p:Pos)(σ:Sg)(k:K1):Prop:=match es with
 |[e]=>F e σ k
 |e1::e2::r=>F e1 σ fun v au=>Cr v fun b l=>match op with
  | .And=>br b l (F (.BoolOp .And (e2::r) p) au k) (k v au)
  | .Or=>br b l (k v au) (F (.BoolOp .Or (e2::r) p) au k)
 |_=>False
def adO(F:WE)(o:Or)(l:Expr)(ops:List CmpOp)(rs:List Expr)(σ:Sg)(k:K1):Prop:=match ops,rs with
 |[op],[r]=>bF (!behindInMarks op r) (F l σ fun a au=>F r au fun b aO=>zC o op a b aO k)
 |_,_=>False
def Cy(F:WE)(e:Option Expr)(σ:Sg)(k:Option Int->Sg->Prop):Prop:=match e with
 |none=>k none σ
 |some e=>F e σ fun v au=>af (dw v) fun p=>bF p.2.lit (k (some p.1) au)
noncomputable def Ik(lo hi st:Option Int)(n:Nat):List Nat:=sliceRange (sliceBounds lo hi st n).1 (sliceBounds lo hi st n).2.1 (sliceBounds lo hi st n).2.2
def XO(F:WE)(v lo hi st:Option Expr)(a:SV)(σ:Sg)(k:K1):Prop:=Cy F lo σ fun l au=>Cy F hi au fun h aO=>Cy F st aO fun s dQ=>af (oA dQ a) fun r=>bF (!r.2&&Nat.ble (aX r.1).length 1000&& !(s==some 0)) (k (.lst dQ.T.length) (dQ.add (iN ((Ik l h s (aX r.1).length).filterMap ((aX r.1)[·]?)))))
def adP(F:WE)(v i:Expr)(a:SV)(σ:Sg)(k:K1):Prop:=match i with
 | .Slice lo hi st _=>bF (isNm v) (XO F none lo hi st a σ k)
 |i=>F i σ fun b aO=>H8 a b aO fun r=>k r aO
def nC(o:Or)(x:Str)(v:SV)(σ:Sg)(k:Sg->Prop):Prop:=match o.names.lookup x with
 |some .local=>k { σ with l:=qu x v σ.l}
 |some .cell=>bF (σ.u==some x) (k { σ with c:=(x,v)::σ.c,u:=none})
 |_=>False
def Cz(st:Str->SV->Sg->(Sg->Prop)->Prop)(es:List Expr):List SV->Sg->(Sg->Prop)->Prop:=List.rec (motive:=fun _=>List SV->Sg->(Sg->Prop)->Prop)
 (fun l σ k=>match l with
  |[]=>k σ
  |_=>False)
 (fun e _ ih l σ k=>match l with
  |v::vs=>match e with
   | .Name x _=>st x v σ fun au=>ih vs au k
   |_=>False
  |_=>False) es
def CA(st:Str->SV->Sg->(Sg->Prop)->Prop)(t:Expr)(v:SV)(σ:Sg)(k:Sg->Prop):Prop:=match t with
 | .Name x _=>st x v σ k
 | .Tuple es _ _=>bF (es.all isNm) (af (oA σ v) fun r=>bF ((aX r.1).length==es.length) (Cz st es (aX r.1) σ k))
 |_=>False
noncomputable def XQ(vs:SV):Option (Int×Int×Int):=match cN vs with
 |some a=>(dw a).bind fun p=>bif p.2.lit then some (0,p.1,1) else none
 |none=>(eX vs).bind fun t=>(dw t.1).bind fun x=>(dw t.2.1).bind fun y=>(dw t.2.2).bind fun z=>bif x.2.lit&&y.2.lit&&z.2.lit then some (x.1,y.1,z.1) else none
noncomputable def wW(a c:Int)(n:Nat):List SV:=(List.range n).map fun(i:Nat)=>.int (a+(i:Int)*c) (dF (a+(i:Int)*c))
def rgO(vs:SV)(k:List SV->Prop):Prop:=af (XQ vs) fun q=>bF (Builtin.Range.small q.1 q.2.1 q.2.2&& !(q.2.2==0)&&Nat.ble (q.2.1-q.1).natAbs 1000000&&Nat.ble q.2.2.natAbs 1000&&decide (0<=Builtin.Range.rangeSize q.1 q.2.1 q.2.2)&&decide (Builtin.Range.rangeSize q.1 q.2.1 q.2.2<=1000)) (k (wW q.1 q.2.2 (Builtin.Range.rangeSize q.1 q.2.1 q.2.2).toNat))
def XS(v:SV)(σ:Sg)(k:List SV->Sg->Prop):Prop:=af (zw σ v) fun p=>af (oA p.2 p.1) fun r=>bF (Nat.ble (aX r.1).length 1000) (k (aX r.1) p.2)
def zpO(vs:SV)(k:List SV->Prop):Prop:=af (cJ vs) fun a=>af (pe a.1) fun r1=>af (pe a.2) fun r2=>bF ((aX r1).length==(aX r2).length) (k (Cw (aX r1) (aX r2)))
def enO(vs:SV)(k:List SV->Prop):Prop:=af (cN vs) fun a=>af (pe a) fun r=>k (sH (aX r) 0)
def itO(n:Nat)(tp:Bool)(vs:SV)(k:List SV->Prop):Prop:=match n with
 |0=>rgO vs k
 |1=>bF tp (zpO vs k)
 |_=>bF tp (enO vs k)
def CB(F:WE)(o:Or)(tp:Bool)(e:Expr)(σ:Sg)(k:List SV->Sg->Prop):Prop:=match Cv o σ e with
 |some q=>jV F q.2 σ fun vs au=>itO q.1 tp vs fun l=>k l au
 |none=>F e σ fun v au=>XS v au k
noncomputable def zJ(e:Expr):Bool:=match e with
 | .Tuple _ _ _=>true
 |_=>false
noncomputable def CC(e:Expr):Bool:=e.ctorIdx==23||e.ctorIdx==21||e.ctorIdx==20||e.ctorIdx==16||e.ctorIdx==25||e.ctorIdx==24
noncomputable def gf(names parent:List (Str×NameKind)):List (Str×NameKind):=names.map fun p=>if(p.2==.free&&parent.lookup p.1==some .cell)=true then(p.1,.cell) else(p.1,p.2)
def stC(names:List (Str×NameKind))(x:Str)(v:SV)(σ:Sg)(k:Sg->Prop):Prop:=match names.lookup x with
 |some .local=>k { σ with l:=(x,v)::σ.l}
 |_=>False
def lpB(F:WE)(T:WT)(i0:Nat)(elt:Expr)(ifs:List Expr)(ih:Sg->(Sg->Prop)->Prop)(k:Sg->Prop)(au:Sg):Prop:=match ifs with
 |[]=>F elt au fun v aO=>zG i0 v aO fun dQ=>ih dQ k
 |[c]=>T c au fun b l aO=>br b l (F elt aO fun v dQ=>zG i0 v dQ fun xD=>ih xD k) (ih aO k)
 |_=>False
def Ec(F:WE)(T:WT)(names:List (Str×NameKind))(i0:Nat)(target elt:Expr)(ifs:List Expr)(l:List SV):Sg->(Sg->Prop)->Prop:=List.rec (motive:=fun _=>Sg->(Sg->Prop)->Prop) (fun σ k=>k σ)
 (fun s _ ih σ k=>CA (stC names) target s σ (lpB F T i0 elt ifs ih k)) l
noncomputable def Il(o:Or)(scope:Scope):Or:={ o with names:=gf scope.names o.names,fn:=false,lp:=false,ca:=false,rz:=False,ry:=False}
noncomputable def cmK(o:Or)(g:Comprehension)(scope:Scope)(σ:Sg):Bool:=o.fn&&CC g.iter&&Nat.ble g.ifs.length 1&&(g.is_async==0)&&(scope.kind==.function)&&(scope.names.all fun x=>x.2 !=.cell&&(x.2 !=.local||scope.names.lookup x.1==some .local)&&(x.2 !=.free||(σ.c.lookup x.1).isSome))
def CD(F:Or->WE)(T:Or->WT)(o:Or)(elt:Expr)(gens:List Comprehension)(scope:Scope)(σ:Sg)(k:K1):Prop:=match gens with
 |[g]=>bF (cmK o g scope σ) (CB (F o) o (zJ g.target) g.iter σ fun l au=>bF au.u.isNone
   (Ec (F (Il o scope)) (T (Il o scope)) (gf scope.names o.names) au.T.length g.target elt g.ifs l ⟨[],au.c.filter fun p=>scope.names.lookup p.1==some .free,none,au.T++[(.nil,false)]⟩ fun aO=>k (.lst au.T.length) ⟨au.l,au.c,au.u,aO.T⟩))
 |_=>False
def Ed(F:Or->WE)(T:Or->WT)(o:Or)(e:Expr)(σ:Sg)(k:K1):Prop:=match e with
 | .Name x _=>af (rZ o σ x) fun v=>k v σ
 | .Constant c _ _=>XJ c fun v=>k v σ
 | .BinOp l op r _=>F o l σ fun a au=>F o r au fun b aO=>XE o op a b aO k
 | .UnaryOp op x _=>F o x σ fun a au=>XF o op a au k
 | .BoolOp op es p=>adN (F o) op es p σ k
 | .Compare l ops rs _=>adO (F o) o l ops rs σ k
 | .IfExp t a b _=>T o t σ fun x l au=>br x l (F o a au k) (F o b au k)
 | .Tuple es _ _=>jV (F o) es σ fun vs au=>bF (Nat.ble (aX vs).length 1000) (k (.tup vs) au)
 | .List es _=>jV (F o) es σ fun vs au=>bF (Nat.ble (aX vs).length 1000) (k (.lst au.T.length) (au.add (iN (aX vs))))
 | .Subscript v i _=>F o v σ fun a au=>adP (F o) v i a au k
 | .Call fn es Ea pos=>D9 (F o) o fn es Ea pos σ k
 | .Attribute v a _=>bF (okB v) (F o v σ fun x au=>Ia x a fun r=>k r au)
 | .ListComp elt gens scope _=>CD F T o elt gens scope σ k
 |_=>False
noncomputable def plainT(e:Expr):Bool:=e.ctorIdx==23||e.ctorIdx==16||e.ctorIdx==21||e.ctorIdx==20||e.ctorIdx==2
def stepT(F:Or->WE)(T:Or->WT)(o:Or)(e:Expr)(σ:Sg)(k:Bool->Bool->Sg->Prop):Prop:=match e with
 | .UnaryOp .Not x _=>T o x σ fun b l aB=>k (!b) l aB
 | .BoolOp op es p=>match es with
  |[]=>match op with
   | .And=>k true true σ
   | .Or=>k false true σ
  |x::r=>T o x σ fun b l aB=>match op with
   | .And=>br b l (T o (.BoolOp .And r p) aB k) (k false true aB)
   | .Or=>br b l (k true true aB) (T o (.BoolOp .Or r p) aB k)
 | .Compare l ops rs _=>match ops,rs with
  |[op],[r]=>bF (!behindInMarks op r) (F o l σ fun a au=>F o r au fun b aO=>zC o op a b aO fun v dQ=>Cr v fun b l=>k b l dQ)
  |[HQ,A5],[r1,r2]=>bF (!lastMarks [HQ,A5] [r1,r2]) (F o l σ fun a au=>F o r1 au fun b aO=>zC o HQ a b aO fun v dQ=>Cr v fun t l=>br t l (F o r2 dQ fun d xD=>zC o A5 b d xD fun v JF=>Cr v fun b l=>k b l JF) (k false true dQ))
  |_,_=>False
 |e=>bF (plainT e) (F o e σ fun v au=>Cr v fun b l=>k b l au)
noncomputable def ET(n:Nat):(Or->WE)×(Or->WT):=Nat.rec (motive:=fun _=>(Or->WE)×(Or->WT)) (fun _ _ _ _=>False,fun _ _ _ _=>False) (fun _ ih=>(Ed ih.1 ih.2,stepT ih.1 ih.2)) n
theorem plain_any{pos:Pos}{env:Env}:∀{es:List Expr},(es.all fun e=> !isStar e)=true->(backTo pos (starEach es env)).any (·.1)=false
 |[],_=>rfl
 |e::r,h=>by
  have h2:=nb h
  have ih:(backTo pos (starEach r env)).any (·.1)=false:=plain_any h2.2
  cases e<;>first|exact ih|cases h2.1
theorem bh{e:Expr}{r:List Expr}{env:Env}(h:(!isStar e)=true):starEach (e::r) env=(false,eval e env)::starEach r env:=by
 cases e<;>first|rfl|cases h
def mK(c:Cx)(f:WE):Prop:=∀e W σ k,f e σ k->Ev c (eval e c.env) W σ k
noncomputable def tyN(n:Nat):String:=match n with
 |0=>"range"
 |1=>"zip"
 |_=>"enumerate"
theorem XT{u:Value}{n:Nat}(h:XN u=some n):u=.type (tyN n):=by
 cases u with
 |type T=>
  have h:(bif T=="range" then some 0 else bif T=="zip" then some 1 else bif T=="enumerate" then some 2 else none)=some n:=h
  cases e:T=="range" with
  |true=>rw[e] at h;rw[<-Option.some.inj h,beq_iff_eq.mp e];rfl
  |false=>
   rw[e] at h
   cases e:T=="zip" with
   |true=>rw[e] at h;rw[<-Option.some.inj h,beq_iff_eq.mp e];rfl
   |false=>
    rw[e] at h
    cases e:T=="enumerate" with
    |true=>rw[e] at h;rw[<-Option.some.inj h,beq_iff_eq.mp e];rfl
    |false=>rw[e] at h;exact no h
 |_=>exact no h
theorem Ef{o:Or}{σ:Sg}{e:Expr}{r:Nat×List Expr}(h:Cv o σ e=some r):∃x p pos,e=.Call (.Name x p) r.2 [] pos/\rZ o σ x=some (.val (.type (tyN r.1)))/\(r.2.all fun e=> !isStar e)=true/\(!r.2.isEmpty)=true:=by
 refine ah h fun q h1 h=>?_
 refine ah h fun x h2 h=>?_
 refine ah h fun v h3 h=>?_
 refine ah h fun u h4 h=>?_
 refine ah h fun n h5 h=>?_
 obtain⟨g,hh⟩:=eN h
 clear h
 have hu:=XT h5
 have hn:∃p,q.1=.Name x p:=by
  cases hq:q.1 with
  |Name y p=>rw[hq] at h2;exact⟨p,by rw[Option.some.inj h2]⟩
  |_=>rw[hq] at h2;exact no h2
 obtain⟨p,hn⟩:=hn
 rw[zE h4,hu] at h3
 rw[<-hh]
 cases e with
 |Call f DI ks pos=>
  rw[<-Option.some.inj h1] at hn g⊢
  refine⟨x,p,pos,?_,h3,(nb (nb g).1).2,(nb g).2⟩
  have hk:ks=[]:=List.isEmpty_iff.mp (nb (nb g).1).1
  have hn:f=.Name x p:=hn
  rw[hk,hn]
 |_=>exact no h1
section
variable{c:Cx}{o:Or}{f:WE}{W:Wd}{σ:Sg}{k:K1}
theorem cS(hf:mK c f){pos:Pos}:∀es W σ k,jV f es σ k->Evs c (spliced (backTo pos (starEach es c.env))) W σ k
 |[],W,σ,k,h=>fun its s Q E hs he kk=>cT (kk W [] .nil σ s (.rfl W) rfl hs h)
 |e::r,W,σ,k,h=>fun its s Q E hs he kk=>by
  refine ai h fun g h=>?_
  exact bx (bh g) (hf e W σ _ h its s _ E hs he fun W1 v sv au s1 l1 r1 aV k1=>cS hf r W1 au _ k1 its s1 _ E aV he fun W2 vs JG aO s2 l2 r2 cB k2=>
   kk W2 (v::vs) (.cons sv JG) aO s2 (l1.trans l2) ⟨v,vs,rfl,r1.mono l2,r2⟩ cB k2)
theorem nosp{es:List Expr}{e:Expr}(h:((e::es).all fun e=> !isStar e)=true):(!isStar e)=true/\(es.all fun e=> !isStar e)=true:=nb h
theorem tab_keep(S:c8 c o){a:Addr}(h:(o.tab.lookup a).isSome=true)(P:Params):keepIn (KK P) (.ref a)=true:=by
 obtain⟨C,e⟩:=Option.isSome_iff_exists.mp h
 exact(S.tab a C e).2 P
theorem qx(S:c8 c o)(hf:mK c f){a:Addr}{first:List Value}{pre:SV->SV}{pos:Pos}{es:List Expr}(cU:(es.all fun e=> !isStar e)=true)(hp:∀W',W.le W'->∀vs bR,VL W' vs bR->VL W' (pre vs) (first++bR))
  (h:jV f es σ fun vs aO=>sj o a (pre vs) aO k) (hk:(o.tab.lookup a).isSome=true):Ev c (callWith pos (.ref a) first (backTo pos (starEach es c.env)) []) W σ k:=by
 intro its s Q E hs he kk
 obtain⟨agj,lf,led,Ct,gn,tk,e,R⟩:=hs
 cases es with
 |nil=>
  have h:sj o a (pre .nil) σ k:=h
  have:=fT S h (hp W (.rfl W) .nil [] rfl) its s Q E ⟨agj,lf,led,Ct,gn,tk,e,R⟩ he kk
  rw[List.append_nil,e] at this
  rw[e]
  exact Bh (S.ok.X R.H) R.Z.F (tab_keep S hk _) this
 |cons e1 r=>
  have cU:=nosp cU
  refine w_call (S.ok.X R.H) (tab_keep S hk _) (bh cU.1) (plain_any cU.2) (cS hf (e1::r) W σ _ h its s _ E ⟨agj,lf,led,Ct,gn,tk,e,R⟩ he fun W1 bR vs au s1 l1 r1 aV k1=>?_)
  have:=fT S k1 (hp W1 l1 vs bR r1) its s1 Q E aV he fun W2 v r aO s2 l2 hr cB ja=>kk W2 v r aO s2 (l1.trans l2) hr cB ja
  obtain⟨aq,lf1,led1,Lm,gn1,tk1,e1,R1⟩:=aV
  rw[e1] at this⊢
  exact aaK (S.ok.X R1.H) R1.Z.F this
theorem zK(S:c8 c o)(hf:mK c f){id:String}{pos:Pos}{es:List Expr}(cU:(es.all fun e=> !isStar e)=true)(mO:(!es.isEmpty)=true)(h:jV f es σ fun vs aO=>Ig id vs aO k):Ev c (callWith pos (.builtin id) [] (backTo pos (starEach es c.env)) []) W σ k:=by
 intro its s Q E hs he kk
 cases es with
 |nil=>cases mO
 |cons e1 r=>
  have cU:=nosp cU
  exact gk (bh cU.1) (plain_any cU.2) (cS hf (e1::r) W σ _ h its s _ E hs he fun W1 bR vs au s1 l1 r1 aV k1=>lH S k1 r1 its s1 Q E aV he fun W2 v r aO s2 l2 hr cB ja=>kk W2 v r aO s2 (l1.trans l2) hr cB ja)
theorem zL(S:c8 c o)(hf:mK c f){T:String}{pos:Pos}{es:List Expr}(cU:(es.all fun e=> !isStar e)=true)(mO:(!es.isEmpty)=true)(h:jV f es σ fun vs aO=>Cu T vs aO k):Ev c (callWith pos (.type T) [] (backTo pos (starEach es c.env)) []) W σ k:=by
 intro its s Q E hs he kk
 cases es with
 |nil=>cases mO
 |cons e1 r=>
  have cU:=nosp cU
  exact jf (bh cU.1) (plain_any cU.2) (cS hf (e1::r) W σ _ h its s _ E hs he fun W1 bR vs au s1 l1 r1 aV k1=>sG S k1 r1 its s1 Q E aV he fun W2 v r aO s2 l2 hr cB ja=>kk W2 v r aO s2 (l1.trans l2) hr cB ja)
inductive LsR(c:Cx)(its:Led)(W:Wd)(σ:Sg)(s:Shared)(i:Nat)(v:Value)(t:SV):Prop
 |mk(agj:Heap)(lf:List (Str×Value))(led:Led)(h:Heap)(gn:Array GenState)(tk:Nat)(x:Addr)(vs:List Value)(n:Nat)(e:s=⟨h,gn,c.dr,tk,c.os⟩)(R:RR c its W σ agj lf led h gn)(e2:v=.ref x)(hx:W.ρ[i]?=some x)(hm:(x,ay vs n)∈led)(a:VA W (aX t) vs)(g:Ge c.d x)
theorem RS.lst{its:Led}{s:Shared}{i:Nat}{v:Value}{t:SV}(hs:RS c its W σ s)(hv:VR W (.lst i) v)(hT:σ.T[i]?=some (t,false)):LsR c its W σ s i v t:=by
 obtain⟨agj,lf,led,h,gn,tk,e,R⟩:=hs
 obtain⟨x,e2,hx⟩:=hv
 obtain⟨⟨vs,n,hm,hv⟩,hg,_⟩:=R.ta i x _ hx hT
 exact⟨agj,lf,led,h,gn,tk,x,vs,n,e,R,e2,hx,hm,hv.aX,hg⟩
theorem lI{i:Nat}{v:SV}{vl vv:Value}{ku:Sg->Prop}(h:zG i v σ ku)(hl:VR W (.lst i) vl)(hv:VR W v vv){its:Led}{s:Shared}{Q:Value->Shared->Prop}{E:Value->Shared->Prop}(hs:RS c its W σ s)(kk:∀aB s',RS c its W aB s'->ku aB->Q .none s'):wpAny (MM c.w) c.A (call (.builtin "list.append") [vl,vv]) Q E s:=by
 obtain⟨⟨t,b⟩,hT,h⟩:=aH h
 refine ai h fun g h=>?_
 have hb:b=false:=by simpa using (nb g).1
 rw[hb] at hT
 obtain⟨agj,lf,led,hp,gn,tk,x,vs,n,e,R,e2,hx,hm,jM,hg⟩:=hs.lst hl hT
 rw[e,e2]
 refine qc R.Z (fun S=>bV S hm) hg (by rw[<-jM.1];exact Nat.le_of_ble_eq_true (nb g).2) fun h' n' Z=>?_
 exact kk _ _ ⟨agj,lf,_,h',gn,tk,rfl,R.Cm hx hT hm (VA.iN (jM.app (.cons hv .nil))) Z⟩ h
theorem sJ{i:Nat}{vl:Value}(h:XK i σ k)(hl:VR W (.lst i) vl):Ev c (call (.builtin "list.pop") [vl]) W σ k:=by
 obtain⟨⟨t,b⟩,hT,h⟩:=aH h
 refine ai h fun g h=>?_
 refine aa h fun sx uJ h=>?_
 have hb:b=false:=by simpa using (nb g).1
 rw[hb] at hT
 intro its s Q E hs he kk
 obtain⟨agj,lf,led,hp,gn,tk,x,vs,n,e,R,e2,hx,hm,jM,hg⟩:=hs.lst hl hT
 obtain⟨us,u,ev⟩:∃us u,vs=us++[u]:=by
  cases hv:vs.reverse with
  |nil=>
   have:vs=[]:=List.reverse_eq_nil_iff.mp hv
   rw[this] at jM
   rw[List.length_eq_zero_iff.mp jM.1] at uJ
   cases uJ
  |cons a r=>exact⟨r.reverse,a,by rw[<-List.reverse_reverse vs,hv,List.reverse_cons]⟩
 have hlen:(aX t).length=us.length+1:=by rw[jM.1,ev,List.length_append];rfl
 rw[List.getLast?_eq_getElem?,hlen] at uJ
 have hu:VR W sx u:=by
  obtain⟨w,q1,q2⟩:=jM.2 _ _ uJ
  rw[ev,Nat.add_sub_cancel,List.getElem?_append_right (Nat.le_refl _),Nat.sub_self] at q1
  exact Option.some.inj q1▸q2
 have hd:VA W (aX t).dropLast us:=by
  refine⟨by rw[List.length_dropLast,hlen];rfl,fun j s e=>?_⟩
  have hj:j<us.length:=by have:=(List.getElem?_eq_some_iff.mp e).1;rw[List.length_dropLast,hlen] at this;exact this
  rw[List.getElem?_dropLast,if_pos (by rw[hlen];exact hj)] at e
  obtain⟨w,q1,q2⟩:=jM.2 j s e
  rw[ev,List.getElem?_append_left hj] at q1
  exact⟨w,q1,q2⟩
 rw[ev] at hm
 rw[e,e2]
 refine GY R.Z (fun S=>bV S hm) hg (by have q:(aX t).length<=1000:=Nat.le_of_ble_eq_true (nb g).2;exact Nat.le_of_succ_le (Nat.le_trans (Nat.le_of_eq hlen.symm) q)) fun h' n' Z=>?_
 exact kk W _ sx _ _ (.rfl W) hu ⟨agj,lf,_,h',gn,tk,rfl,R.Cm hx hT hm (VA.iN hd) Z⟩ h
theorem sL(S:c8 c o){a v:SV}{va vv:Value}(h:XM o a v σ fun r=>k r σ)(ha:VR W a va)(hv:VR W v vv):Ev c (call (.builtin "list.index") [va,vv]) W σ k:=by
 refine aa h fun w h0 h=>?_
 refine ai h fun g h=>?_
 refine aa h fun r h1 h=>?_
 refine ai h fun g2 h=>?_
 obtain⟨p,h2,hp,adQ,h⟩:=aH h
 rw[dZ h0] at hv
 obtain⟨x,e1,hx,_⟩:=hv
 intro its s Q E hs he kk
 obtain⟨agj,lf,led,Ct,gn,tk,e,R⟩:=hs
 obtain⟨y,vs,ob,e2,hv,hm,_,_,hf⟩:=R.sq ha h1
 obtain⟨n,e3⟩:=hf (by simpa using (nb g2).1)
 rw[e3] at hm
 obtain⟨q1,q2⟩:=oB (W:=W) h2 hp
 have hv:=hv.aX
 have O:=S.ok.old R.H (nb g).1 (nb g).2
 have hl:=Nat.le_of_ble_eq_true (nb g2).2
 have hj:p.1.findIdx (fun b=>dm b w.2)<p.1.length:=List.findIdx_lt_length_of_exists (List.any_eq_true.mp adQ)
 rw[e1,e2,e]
 refine HK O.B R.Z O.X O.T O.hk R.G O.hd O.hu hm (zD R.dl hv q1 q2) (F2.mono hx R.dl) (by rw[<-hv.1];exact hl) hj (List.findIdx_getElem (w:=hj)) (fun i hi cO=>by simpa using List.not_of_lt_findIdx cO) fun h' bB aN Z' G'=>?_
 refine kk W _ (.int _ _) σ _ (.rfl W) ⟨aN,rfl,.of0 (fun _=>?_) fun _=>Int.natCast_nonneg _⟩ ⟨agj,lf,led,h',bB,aN+1,rfl,R.grow (tl:=[]) Z' R.H G'⟩ h
 exact Sm.lit (Int.natCast_nonneg _) (Int.lt_of_lt_of_le (Int.ofNat_lt.mpr (Nat.lt_of_lt_of_le hj (q1▸hl))) (by decide))
end
section
variable{c:Cx}{o:Or}{f:WE}{t:WT}{W:Wd}{σ:Sg}{k:K1}
def A6(c:Cx)(t:WT):Prop:=∀e W σ k,t e σ k->Et c (isTrue e c.env (eval e c.env)) W σ k
theorem XU{value:Expr}{attr:Str}{pos:Pos}{env:Env}(h:okB value=true):eval (.Attribute value attr pos) env=(do
   let o <-eval value env
   standAt pos.atName
   let r <-holding [o] (getAttr o attr true)
   letTemporaryGo value o r
   pure r):=by cases value<;>first|rfl|cases h
theorem CE{ob:Expr}{name:Str}{apos pos:Pos}{args:List Expr}{env:Env}(hb:okB ob=true)(hs:(args.all fun e=> !isStar e)=true)(hn:Nat.ble args.length 20=true)(hp:(apos.endLine==pos.line)=true):
  ∃pl,eval (.Call (.Attribute ob name apos) args [] pos) env=(do
   let ov <-eval ob env
   standAt apos.atName
   let (f,first) <-holding [ov] (getMethod ov name pl)
   callWith pos f first (backTo pos (starEach args env)) []):=by
 refine⟨(do return (<-importBound ob env).getD true),?_⟩
 have e0:eval (.Call (.Attribute ob name apos) args [] pos) env=(do
  let ov <-attributeBase ob name env (eval ob env)
  standAt apos.atName
  methodCall ob name apos pos env ov (args.length+0) (backTo pos (starEach args env)) []):=rfl
 have ea:attributeBase ob name env (eval ob env)=eval ob env:=by cases ob<;>first|rfl|cases hb
 have e1:methodCallForm (args.length+0) (backTo pos (starEach args env)) []=true:=by
  unfold methodCallForm
  have q:∀x∈backTo pos (starEach args env),(!x.1)=true:=fun x hx=>by
   have:=List.any_eq_false.mp (plain_any (pos:=pos) (env:=env) hs) x hx
   simpa using this
  rw[List.all_eq_true.mpr q]
  have:=Nat.le_of_ble_eq_true hn
  show decide (args.length+0+0<30)=true
  exact decide_eq_true (Nat.lt_of_le_of_lt this (Nat.le_add_left _ _))
 have em:methodCallPos true ob env apos pos=pure pos:=by
  unfold methodCallPos
  rw[hp]
  rfl
 rw[e0,ea]
 unfold methodCall
 rw[e1,em]
 rfl
theorem RR.lsq{its:Led}{agj h:Heap}{lf:List (Str×Value)}{led:Led}{gn:Array GenState}(R:RR c its W σ agj lf led h gn){i:Nat}{va:Value}(ha:VR W (.lst i) va):∃x vs n,va=.ref x/\(x,ay vs n)∈led:=by
 have ha2:=ha
 obtain⟨x,ev,hx⟩:=ha2
 have hi:i<σ.T.length:=by rw[<-R.tl];exact(List.getElem?_eq_some_iff.mp hx).1
 obtain⟨y,vs,ob,e2,_,hm,_,_,XW⟩:=R.sq (r:=(σ.T[i].1,false)) ha (by show σ.T[i]?.map _=_;rw[List.getElem?_eq_getElem hi];rfl)
 obtain⟨n,e3⟩:=XW rfl
 exact⟨y,vs,n,e2,e3▸hm⟩
theorem wX(S:c8 c o)(hf:mK c f){a:SV}{va:Value}{name:Str}{pl:Sem Bool}{pos:Pos}{es:List Expr}(h:lmO f o a name es σ k)(ha:VR W a va):
  ∀its s Q E,RS c its W σ s->c.ex E->(∀W' v b aB s',W.le W'->VR W' b v->RS c its W' aB s'->k b aB->Q v s')->wpAny (MM c.w) c.A (getMethod va name pl) (fun fx bw=>wpAny (MM c.w) c.A (callWith pos fx.1 fx.2 (backTo pos (starEach es c.env)) []) Q E bw) E s:=by
 intro its s Q E hs he kk
 match es,h with
 |[],h=>
  refine ai h fun g h=>?_
  refine aa h fun i h1 h=>?_
  rw[zH h1] at ha
  rw[beq_iff_eq.mp g]
  have key:=sJ h ha its s Q E hs he kk
  obtain⟨agj,lf,led,hp,gn,tk,e,R⟩:=hs
  obtain⟨x,vs,n,e1,hm⟩:=R.lsq ha
  rw[e1,e] at key⊢
  exact Ls R.Z.N hm (Ft key)
 |[e1],h=>
  refine ai h fun g h=>?_
  refine aa h fun P hl h=>?_
  have arg:∀{id:String} {x:Addr} {k':K1},f e1 σ k'->(∀W' v b aB s',W.le W'->VR W' b v->RS c its W' aB s'->k' b aB->wpAny (MM c.w) c.A (call (.builtin id) [.ref x,v]) Q E s')->wpAny (MM c.w) c.A (callWith pos (.builtin id) [.ref x] (backTo pos (starEach [e1] c.env)) []) Q E s:=fun hk q=>
   gk (bh g) (plain_any (es:=[]) rfl) (bx (bh g) (hf e1 W σ _ hk its _ _ E hs he fun W1 v sv au s1 l1 r1 aV k1=>cT (q W1 v sv au s1 l1 r1 aV k1)))
  rcases bC hl with⟨en,hl⟩|hl
  ·rw[<-hl] at h
   refine aa h fun i h1 h=>?_
   rw[zH h1] at ha
   rw[en]
   have qv:=hs
   obtain⟨agj,lf,led,hp,gn,tk,e,R⟩:=qv
   obtain⟨x,vs,n,e2,hm⟩:=R.lsq ha
   have key:=arg (id:="list.append") (x:=x) h fun W1 v sv au s1 l1 r1 aV k1=>lI k1 (e2▸ha.mono l1) r1 aV fun aB s' cM fJ=>kk W1 .none .none aB s' l1 rfl cM fJ
   rw[e2]
   rw[e] at key⊢
   exact Lu R.Z.N hm key
  rcases bC hl with⟨en,hl⟩|hl
  ·rw[<-hl] at h
   refine aa h fun r h1 h=>?_
   refine ai h fun g2 h=>?_
   rw[en]
   have qv:=hs
   obtain⟨agj,lf,led,hp,gn,tk,e,R⟩:=qv
   obtain⟨x,vs,ob,e2,_,hm,_,_,XW⟩:=R.sq ha h1
   obtain⟨n,e3⟩:=XW (by simpa using g2)
   rw[e3] at hm
   have key:=arg (id:="list.index") (x:=x) h fun W1 v sv au s1 l1 r1 aV k1=>sL S k1 (e2▸ha.mono l1) r1 its s1 Q E aV he fun W2 v2 b2 aO s2 l2 JH cB ja=>kk W2 v2 b2 aO s2 (l1.trans l2) JH cB ja
   rw[e2]
   rw[e] at key⊢
   exact UT R.Z.N hm key
  exact no hl
theorem RR.adopt{its:Led}{agj h:Heap}{lf:List (Str×Value)}{led:Led}{gn:Array GenState}(R:RR c its W σ agj lf led h gn){x:Addr}{vs:List Value}{n:Nat}{s:SV}(hm:(x,ay vs n)∈led)(mR:Ge c.d x)(nD:∀q∈W.D,q.1≠x)(ni:∀q∈its,q.1≠x)(nr:∀y∈W.ρ,y≠x)(hs:VL ⟨W.ρ++[x],W.D⟩ s vs):RR c its ⟨W.ρ++[x],W.D⟩ (σ.add s) agj lf led h gn:=by
 have hW:=W.gO x
 refine⟨R.G,R.Z,R.H,fun y t hy=>?_,fun y t hy=>?_,R.ur,R.fr,by simp[Sg.add,R.tl],?_,fun i y e h1 h2=>?_,R.jF,R.d0,R.dl,R.d1,R.il,R.fF⟩
 ·obtain⟨v,a,b⟩:=R.lr y t hy
  exact⟨v,a,b.mono hW⟩
 ·obtain⟨a,o,v,k1,k2,k3,k4⟩:=R.cr y t hy
  exact⟨a,o,v,k1,k2,k3,k4.mono hW⟩
 ·exact List.nodup_append.mpr ⟨R.tn,by simp,fun a ha b hb=>by rw[List.mem_singleton.mp hb];exact nr a ha⟩
 ·rcases fG h1 with⟨hi,h1⟩|⟨hi,rfl⟩
  ·rcases fG h2 with⟨_,h2⟩|⟨hj,_⟩
   ·exact(R.ta i y e h1 h2).mono hW (fun _ h=>h) (fun _ q hq=>.inl hq) fun _ q hq=>.inl hq
   ·exact absurd (R.tl▸hj) (Nat.ne_of_lt hi)
  ·rcases fG h2 with⟨hj,_⟩|⟨_,rfl⟩
   ·exact absurd (R.tl▸hi:i=σ.T.length) (Nat.ne_of_lt hj)
   ·exact⟨⟨vs,n,hm,hs⟩,mR,nD,ni⟩
theorem ones{α:Type}{l:List α}{a:α}(h:one l=some a):l=[a]:=by
 match l,h with
 |[b],h=>rw[Option.some.inj h]
theorem sM(S:c8 c o)(hf:mK c f){T:String}{es:List Expr}{a:Expr}{pos:Pos}(hl:zI o σ T es=some a)(h:f a σ fun v aO=>af (pe v) fun r=>bF ((aX r).length==2) (k (.lst aO.T.length) (aO.add (iN (sH (aX r) 0))))):Ev c (callWith pos (.type T) [] (backTo pos (starEach es c.env)) []) W σ k:=by
 unfold zI at hl
 cases hT:T=="list" with
 |false=>rw[hT] at hl;exact no hl
 |true=>
  rw[hT] at hl
  obtain⟨e1,h1,hl⟩:=iD (show(one es).bind _=some a from hl)
  refine ah hl fun q h2 hl=>?_
  obtain⟨x,p,pos2,e2,hn,cU,mO⟩:=Ef h2
  cases hq:q.1==2 with
  |false=>rw[hq] at hl;exact no hl
  |true=>
   rw[hq] at hl
   have hqa:=ones (show one q.2=some a from hl)
   rw[beq_iff_eq.mp hq] at hn
   rw[hqa] at e2 cU
   rw[ones h1,e2,beq_iff_eq.mp hT]
   intro its s Q E hs he kk
   refine jf (bh rfl) rfl (bx (bh rfl) (cC rfl (S.nm W σ x _ p hn its s _ E hs he fun W1 v sv au s1 l1 r1 aV k1=>?_)))
   obtain⟨k1,k2⟩:=k1
   rw[k1] at r1
   rw[k2] at aV
   rw[show v=.type "enumerate" from r1]
   refine jf (bh (nosp cU).1) rfl (bx (bh (nosp cU).1) (hf a W1 σ _ h its s1 _ E aV he fun W2 v2 sv2 aO s2 l2 r2 cB k2=>cT ?_))
   refine aa k2 fun r h3 k2=>?_
   refine ai k2 fun g k2=>?_
   rw[gK h3] at r2
   obtain⟨t,vs,n,e3,hm,hv⟩:=r2
   have jM:=VL.aX hv
   obtain⟨y0,y1,ey⟩:∃y0 y1,aX r=[y0,y1]:=by
    have g:=beq_iff_eq.mp g
    match hh:aX r,g with
    |[y0,y1],_=>exact⟨y0,y1,rfl⟩
   rw[ey] at jM k2
   obtain⟨u0,vr,e4,ru0,jM⟩:=jM.head
   obtain⟨u1,vr2,e5,ru1,jM⟩:=jM.head
   rw[e4,e5,List.length_eq_zero_iff.mp jM.1.symm] at hm
   obtain⟨agj,lf,led,hp,gn,tk,rfl,R⟩:=cB
   rw[e3]
   refine rQ R.Z (R.dl _ hm) fun e it oi h' Z j1 g1 g2=>cT ?_
   refine BR Z (fun S=>yv S) j1 (.tail _ (.tail _ (R.dl _ hm))) rfl fun X T0 T1 n z0 z1 h2 aN Z2 gS=>?_
   have Z2:St agj c.L c.nw c.d h2 (c.ms lf) ((T1,aj [.int 1 z1,u1] 0)::(T0,aj [.int 0 z0,u0] 0)::(X,ay [.ref T0,.ref T1] n)::led):=Z2
   have R1:=R.zh (Z2.less ((List.sublist_cons_self _ _).trans (List.sublist_cons_self _ _)))
   have R2:=R1.push (Z2.less (List.sublist_cons_self _ _))
   have R3:=R2.push Z2
   have hX:∀p∈led,@LT.lt Nat _ p.1 X:=(cj.tail (cj.tail Z2.S)).gt
   have x0:@LT.lt Nat _ X T0:=(cj.tail Z2.S).gt _ (.head _)
   have x1:@LT.lt Nat _ X T1:=Z2.S.gt _ (.tail _ (.head _))
   have wl:W2.le ⟨W2.ρ++[X],(T1,aj [.int 1 z1,u1] 0)::(T0,aj [.int 0 z0,u0] 0)::W2.D⟩:=⟨⟨[X],rfl⟩,fun p hp=>.tail _ (.tail _ hp)⟩
   have R4:=R3.adopt (x:=X) (s:=iN (sH [y0,y1] 0)) (.tail _ (.tail _ (.head _))) gS (fun q hq=>by
    rcases List.mem_cons.mp hq with rfl|hq
    ·exact Nat.ne_of_gt x1
    ·rcases List.mem_cons.mp hq with rfl|hq
     ·exact Nat.ne_of_gt x0
     ·exact Nat.ne_of_lt (hX q (R.dl q hq))) (fun q hq=>Nat.ne_of_lt (hX q (R.il q hq).1)) (fun y hy=>by
    obtain⟨i,hi,ei⟩:=List.mem_iff_getElem.mp hy
    have mG:i<aO.T.length:=R.tl▸hi
    obtain⟨ob,ho⟩:=(R.ta i y aO.T[i] (by rw[List.getElem?_eq_getElem hi,ei]) (List.getElem?_eq_getElem mG)).in_ R.dl
    exact Nat.ne_of_lt (hX _ ho))
    (show VL _ (.cons (Ij (.int 0 (dF 0)) y0) (.cons (Ij (.int 1 (dF 1)) y1) .nil)) _ from⟨.ref T0,[.ref T1],rfl,⟨T0,_,0,rfl,.tail _ (.head _),.int 0 z0,[u0],rfl,⟨z0,rfl,b8 _⟩,u0,[],rfl,ru0.mono wl,rfl⟩,.ref T1,[],rfl,⟨T1,_,0,rfl,.head _,.int 1 z1,[u1],rfl,⟨z1,rfl,b8 _⟩,u1,[],rfl,ru1.mono wl,rfl⟩,rfl⟩)
   refine kk ⟨W2.ρ++[X],(T1,aj [.int 1 z1,u1] 0)::(T0,aj [.int 0 z0,u0] 0)::W2.D⟩ (.ref X) (.lst aO.T.length) _ _ ((l1.trans l2).trans wl) ⟨X,rfl,?_⟩ ⟨agj,lf,_,h2,gn,aN,rfl,R4⟩ k2
   show(W2.ρ++[X])[aO.T.length]?=some X
   rw[<-R.tl,List.getElem?_append_right (Nat.le_refl _),Nat.sub_self]
   rfl
theorem qy(S:c8 c o)(hf:mK c f){fn:Expr}{es:List Expr}{Ea:List Keyword}{pos:Pos}(h:D9 f o fn es Ea pos σ k):Ev c (eval (.Call fn es Ea pos) c.env) W σ k:=by
 refine ai h fun g h=>?_
 have hk:Ea=[]:=List.isEmpty_iff.mp (nb g).1
 have cU:=(nb g).2
 rw[hk]
 intro its s Q E hs he kk
 have adR:∀{W1:Wd},∀W',W1.le W'->∀vs bR,VL W' vs bR->VL W' vs ([]++bR):=fun _ _ _ _ h=>h
 cases fn with
 |Name x p=>
  refine cC rfl (hf _ W σ _ h its s _ E hs he fun W1 v1 sv1 au s1 l1 r1 aV k1=>?_)
  refine aa k1 fun v h1 k1=>?_
  rw[zE h1] at r1
  have ev:v1=v:=r1
  rw[ev]
  have fin:∀W2 v r aO s2,W1.le W2->VR W2 r v->RS c its W2 aO s2->k r aO->Q v s2:=fun W2 v r aO s2 l2 hr cB ja=>kk W2 v r aO s2 (l1.trans l2) hr cB ja
  cases v with
  |ref a=>
   refine ai k1 fun g2 k1=>?_
   exact qx S hf (pre:=fun v=>v) cU adR k1 g2 its s1 Q E aV he fin
  |builtin id=>
   refine ai k1 fun g2 k1=>?_
   exact zK S hf cU g2 k1 its s1 Q E aV he fin
  |type T=>
   have k1:(match zI o au T es with
    |some a=>f a au fun v aO=>af (pe v) fun r=>bF ((aX r).length==2) (k (.lst aO.T.length) (aO.add (iN (sH (aX r) 0))))
    |none=>bF (!es.isEmpty) (jV f es au fun vs aO=>Cu T vs aO k)):=k1
   cases hl:zI o au T es with
   |some a=>rw[hl] at k1;exact sM S hf hl k1 its s1 Q E aV he fin
   |none=>
    rw[hl] at k1
    refine ai k1 fun g2 k1=>?_
    exact zL S hf cU g2 k1 its s1 Q E aV he fin
  |_=>exact k1.elim
 |Attribute ob name apos=>
  refine ai h fun g2 h=>?_
  have g3:=nb g2
  have g4:=nb g3.1
  obtain⟨pl,hq⟩:=CE (name:=name) (env:=c.env) g4.1 cU g3.2 g4.2
  refine Bg hq (hf _ W σ _ h its s _ E hs he fun W1 ov sv1 au s1 l1 r1 aV k1=>?_)
  have fin:∀W2 v r aO s2,W1.le W2->VR W2 r v->RS c its W2 aO s2->k r aO->Q v s2:=fun W2 v r aO s2 l2 hr cB ja=>kk W2 v r aO s2 (l1.trans l2) hr cB ja
  cases hm:Ib sv1 name with
  |some a=>
   rw[hm] at k1
   refine ai k1 fun g5 k1=>?_
   have key:=qx (first:=[ov]) (pre:=fun vs=>.cons sv1 vs) (pos:=pos) S hf cU (fun W' l vs bR hv=>⟨ov,bR,rfl,r1.mono l,hv⟩) k1 g5 its s1 Q E aV he fin
   obtain⟨agj,lf,led,hp,gn,tk,e,R⟩:=aV
   rw[e] at key⊢
   exact sC S R hm r1 key
  |none=>
   rw[hm] at k1
   exact wX S hf k1 r1 its s1 Q E aV he fin
 |_=>exact h.elim
theorem iP(hf:mK c f){e:Option Expr}{kp:Option Int->Sg->Prop}(h:Cy f e σ kp){its:Led}{s:Shared}{Q:Value->Shared->Prop}{E:Value->Shared->Prop}(hs:RS c its W σ s)(he:c.ex E)(kk:∀W' v p aB s',W.le W'->IsPart v p->RS c its W' aB s'->kp p aB->Q v s'):wpAny (MM c.w) c.A (evalPart e c.env) Q E s:=by
 cases e with
 |none=>exact BX (kk W .none none σ s (.rfl W) .none hs h)
 |some e=>
  refine BY (hf e W σ _ h its s Q E hs he fun W1 v sv au s1 l1 r1 aV k1=>?_)
  refine aa k1 fun p h1 k1=>?_
  refine ai k1 fun _ k1=>?_
  rw[bL h1] at r1
  obtain⟨t,e1,_⟩:=r1
  rw[e1]
  exact kk W1 _ (some p.1) au s1 l1 (.int _ _) aV k1
theorem VA.pick{l:List SV}{vs:List Value}(h:VA W l vs):∀idx:List Nat,VA W (idx.filterMap (l[·]?)) (idx.filterMap (vs[·]?))
 |[]=>.nil
 |i::r=>by
  have ih:=VA.pick h r
  rw[List.filterMap_cons,List.filterMap_cons]
  cases hi:l[i]? with
  |none=>
   have:vs[i]?=none:=by rw[List.getElem?_eq_none_iff,<-h.1];exact List.getElem?_eq_none_iff.mp hi
   rw[this]
   exact ih
  |some s=>
   obtain⟨v,q1,q2⟩:=h.2 i s hi
   rw[q1]
   exact .cons q2 ih
theorem CF{vs:List Value}{lo hi st:Option Int}:slicePick vs.toArray lo hi st=((Ik lo hi st vs.length).filterMap (vs[·]?)).toArray:=by
 unfold slicePick Ik
 rw[List.size_toArray]
 simp only[List.getElem?_toArray]
theorem sN(hf:mK c f){v:Expr}{lo hi st:Option Expr}{p:Pos}{a:SV}{va:Value}(hn:isNm v=true)(h:XO f v lo hi st a σ k)(ha:VR W a va):
  ∀its s Q E,RS c its W σ s->c.ex E->(∀W' v b aB s',W.le W'->VR W' b v->RS c its W' aB s'->k b aB->Q v s')->wpAny (MM c.w) c.A (eval (.Slice lo hi st p) c.env) (fun i bw=>wpAny (MM c.w) c.A (subscriptTail v (.Slice lo hi st p) va i) Q E bw) E s:=by
 intro its s Q E hs he kk
 refine BW (iP hf h hs he fun W1 v1 p1 au s1 l1 q1 aV k1=>iP hf k1 aV he fun W2 v2 p2 aO s2 l2 q2 cB k2=>iP hf k2 cB he fun W3 v3 p3 dQ s3 l3 q3 mT k3=>?_)
 refine aa k3 fun r h1 k3=>?_
 refine ai k3 fun g k3=>?_
 have ha3:=((ha.mono l1).mono l2).mono l3
 obtain⟨agj,lf,led,hp,gn,tk,e,R⟩:=mT
 rw[e]
 refine Lr R.Z fun x h' Z hg=>?_
 have R1:=R.push Z
 obtain⟨y,vs,ob,e2,hv,hm,_,_,XW⟩:=R1.sq (ha3.mono (W3.push x _)) h1
 obtain⟨n,e3⟩:=XW (by simpa using (nb (nb g).1).1)
 rw[e3] at hm
 have hv:=hv.aX
 obtain⟨ops,adS⟩:∃ops,subscripted (.Slice lo hi st p) false (.ref y) (.ref x)=operate ops (getItem (.ref y) (.ref x)):=by cases st<;>exact⟨_,rfl⟩
 rw[e2]
 refine G6 Z hm (.head _) q1 q2 q3 (by simpa using (nb g).2) (by rw[<-hv.1];exact Nat.le_of_ble_eq_true (nb (nb g).1).2) CF adS (fun r=>by cases v<;>first|rfl|cases hn) fun z h2 Z2 hg2=>?_
 refine kk ⟨W3.ρ++[z],(x,BV v1 v2 v3)::W3.D⟩ _ (.lst dQ.T.length) _ _ (((l1.trans l2).trans l3).trans ((W3.push x _).trans (Wd.gO _ z))) ⟨z,rfl,?_⟩ ⟨agj,lf,_,h2,gn,tk,rfl,R1.gO Z2 hg2 (VA.iN (VA.mono ?_ (Wd.gO _ z)))⟩ k3
 ·show(W3.ρ++[z])[dQ.T.length]?=some z
  rw[<-R.tl,List.getElem?_append_right (Nat.le_refl _),Nat.sub_self]
  rfl
 ·rw[<-hv.1]
  exact hv.pick _
end
theorem XX:∀{a0 a1:Nat},a0=a1->(↑a1:Int)-(↑a0:Int)<=0:=fun h1=>by rw[h1,Int.sub_self];exact Int.le_refl _
noncomputable def XY(names:List (Str×NameKind))(cl:List (Str×Addr)):List (Str×Addr):=names.foldl (fun acc p=>if(p.2==.free)=true then(p.1,(cl.lookup p.1).getD 0)::acc else acc) []
noncomputable def clB(env:Env)(x:Str×NameKind)(r:List (Str×Addr)):Sem (ForInStep (List (Str×Addr))):=if(x.2==NameKind.free)=true then(do let a <-cellOf env x.1;pure (ForInStep.yield ((x.1,a)::r))) else pure (ForInStep.yield r)
theorem uK{env:Env}:∀(names:List (Str×NameKind)) (acc:List (Str×Addr)),(∀p∈names,p.2=.free->(env.cells.lookup p.1).isSome=true)->forIn names acc (clB env)=pure (names.foldl (fun acc p=>if(p.2==.free)=true then(p.1,(env.cells.lookup p.1).getD 0)::acc else acc) acc)
 |[],acc,_=>rfl
 |p::r,acc,h=>by
  rw[List.forIn_cons,List.foldl_cons]
  have e:clB env p acc=pure (ForInStep.yield (if(p.2==NameKind.free)=true then(p.1,(env.cells.lookup p.1).getD 0)::acc else acc)):=by
   unfold clB
   by_cases hk:(p.2==NameKind.free)=true
   ·rw[if_pos hk,if_pos hk]
    obtain⟨a,ha⟩:=Option.isSome_iff_exists.mp (h _ (.head _) (by simpa using hk))
    have e:cellOf env p.1=pure a:=by unfold cellOf;rw[ha]
    rw[e,ha]
    rfl
   ·rw[if_neg hk,if_neg hk]
  rw[e]
  exact uK r _ fun q hq=>h q (.tail _ hq)
theorem CG{scope:Scope}{env:Env}(h:∀p∈scope.names,p.2=.free->(env.cells.lookup p.1).isSome=true):closureFor scope env=pure (XY scope.names env.cells):=by
 have e:closureFor scope env=(forIn scope.names ([]:List (Str×Addr)) (clB env) >>=fun s=>pure s):=rfl
 rw[e,uK scope.names [] h]
 rfl
theorem lJ{cl:List (Str×Addr)}{x:Str}{a:Addr}(ha:cl.lookup x=some a):∀(names:List (Str×NameKind)) (acc:List (Str×Addr)),(acc.lookup x=some a\/∃p∈names,p.1=x/\p.2=.free)->(∀b,acc.lookup x=some b->b=a)->(names.foldl (fun acc p=>if(p.2==NameKind.free)=true then(p.1,(cl.lookup p.1).getD 0)::acc else acc) acc).lookup x=some a
 |[],acc,h,_=>h.elim id fun⟨p,hp,_⟩=>nomatch hp
 |p::r,acc,h,u=>by
  rw[List.foldl_cons]
  by_cases hx:p.2=.free/\p.1=x
  ·have e:(if(p.2==NameKind.free)=true then(p.1,(cl.lookup p.1).getD 0)::acc else acc)=(x,a)::acc:=by rw[hx.1,hx.2,ha];rfl
   rw[e]
   exact lJ ha r _ (.inl (by rw[List.lookup_cons,beq_self_eq_true])) fun b hb=>by rw[List.lookup_cons,beq_self_eq_true] at hb;exact(Option.some.inj hb).symm
  ·have e:∀b,(if(p.2==NameKind.free)=true then(p.1,(cl.lookup p.1).getD 0)::acc else acc).lookup x=some b↔acc.lookup x=some b:=fun b=>by
    by_cases hk:p.2=.free
    ·rw[hk,beq_self_eq_true,if_pos rfl,List.lookup_cons,beq_false_of_ne fun e=>hx ⟨hk,e.symm⟩]
    ·rw[beq_false_of_ne hk]
     exact Iff.rfl
   refine lJ ha r _ (h.elim (fun h=>.inl ((e a).mpr h)) fun⟨q,hq,h1,h2⟩=>?_) fun b hb=>u b ((e b).mp hb)
   rcases List.mem_cons.mp hq with rfl|hq
   ·exact absurd ⟨h2,h1⟩ hx
   ·exact .inr ⟨q,hq,h1,h2⟩
theorem lK{α:Type _}{x:Str}{v:α}:∀{l:List (Str×α)},l.lookup x=some v->(x,v)∈l
 |[],h=>no h
 |(y,u)::r,h=>by
  rcases bC h with⟨rfl,rfl⟩|h
  ·exact .head _
  ·exact .tail _ (lK h)
theorem gQ{α:Type _}{q:Str->Bool}{x:Str}{v:α}:∀{l:List (Str×α)},(l.filter fun p=>q p.1).lookup x=some v->l.lookup x=some v/\q x=true
 |[],h=>no h
 |(y,u)::r,h=>by
  rw[List.filter_cons] at h
  cases hq:q y with
  |true=>
   rw[hq,if_pos rfl] at h
   rcases bC h with⟨rfl,rfl⟩|h2
   ·exact⟨by rw[List.lookup_cons,beq_self_eq_true],hq⟩
   ·obtain⟨a,b⟩:=gQ h2
    rw[List.lookup_cons] at h⊢
    cases e:x==y with
    |true=>rw[e] at h;exact⟨h,b⟩
    |false=>exact⟨a,b⟩
  |false=>
   rw[hq] at h
   obtain⟨a,b⟩:=gQ h
   have e:x≠y:=fun e=>by rw[e,hq] at b;cases b
   rw[List.lookup_cons,beq_false_of_ne e]
   exact⟨a,b⟩
noncomputable def qz(c:Cx)(scope:Scope)(bA:List (Str×Addr))(C:Addr)(m0:Str->Option Value):Cx:=
 { c with env:=compEnvC scope bA C c.env,kg:=bA,ms:=fun _=>m0,fr:=fun its lf=>∃o,(C,o)∈its/\mF C o lf,ex:=fun _=>True,rz:=False,ry:=False}
section
variable{c:Cx}{o:Or}{W:Wd}{σ:Sg}
theorem zM{scope:Scope}(F:FF c o)(hk:c.cs.kind=.function):(relabel scope c.env).names=gf scope.names o.names:=by
 rw[F.env,F.names]
 unfold relabel gf
 refine List.map_congr_left fun p _=>?_
 have e1:((envX c.cn c.cs c.L c.a c.aJ c.cl).scope.kind==ScopeKind.function)=true:=by show(c.cs.kind==ScopeKind.function)=true;rw[hk];rfl
 have e2:(envX c.cn c.cs c.L c.a c.aJ c.cl).kindOf p.1=c.cs.names.lookup p.1:=rfl
 simp only[e1,e2,Bool.and_true]
theorem nmC(F:FF c o)(S:c8 c o){scope:Scope}{bA:List (Str×Addr)}{C:Addr}{m0:Str->Option Value}(bz:scope.kind=.function):HY (qz c scope bA C m0) (Il o scope):=by
 intro W σ x v pos h
 unfold rZ at h
 cases hd:x==("__debug__":Str) with
 |true=>rw[hd] at h;cases h
 |false=>
  rw[hd] at h
  have h:(match (gf scope.names o.names).lookup x with
   |some .local=>σ.l.lookup x
   |some .cell=>σ.c.lookup x
   |some .globalImplicit=>Xx (Il o scope) x
   |_=>none)=some v:=h
  have hn:(compEnvC scope bA C c.env).kindOf x=(gf scope.names o.names).lookup x:=by
   show(relabel scope c.env).names.lookup x=_
   rw[zM F S.ok.hk]
  refine Eg.val fun its agj lf led hp gn tk Q E R kk=>?_
  have hks:(compEnvC scope bA C c.env).scope.kind=.function:=bz
  have gl:(compEnvC scope bA C c.env).globals=mainGlobals:=by show c.env.globals=_;rw[F.env]
  have bl:(compEnvC scope bA C c.env).builtins=builtinsNs:=by show c.env.builtins=_;rw[F.env]
  show wpAny (MM c.w) c.A (eval (.Name x pos) (compEnvC scope bA C c.env)) Q E ⟨hp,gn,c.dr,tk,c.os⟩
  cases hl:(gf scope.names o.names).lookup x with
  |none=>rw[hl] at h;cases h
  |some kd=>
   rw[hl] at h hn
   cases kd with
   |«local»=>
    obtain⟨u,a,b⟩:=R.lr x v h
    obtain⟨ob,m1,m2⟩:=R.fr
    exact pP R.Z.N (R.il _ m1).1 m2 a hks hn hd (kk u b)
   |cell=>
    obtain⟨a,ob,u,k1,k2,k3,k4⟩:=R.cr x v h
    exact FI R.Z.N hn k1 (R.dl _ k2) k3 hks hd (kk u k4)
   |globalImplicit=>
    have X:=S.ok.X R.H
    have T:=S.ok.T R.H
    rcases nq h with⟨u,e,rfl⟩|⟨u,e,e2,e3,rfl⟩
    ·have e:nsIn (KK o.P) mainGlobals x=some (some u):=e
     rw[S.P] at e
     exact FH R.Z.F X T e gl hks hn hd (kk u (oz W u))
    ·have e:nsIn (KK o.P) mainGlobals x=some none:=e
     rw[S.P] at e
     exact KD R.Z.F X T e e2 e3 gl bl hks hn hd (kk u rfl)
   |free=>cases h
   |globalExplicit=>cases h
theorem adT(F:FF c o)(S:c8 c o){scope:Scope}{bA:List (Str×Addr)}{C:Addr}{m0:Str->Option Value}(bz:scope.kind=.function):c8 (qz c scope bA C m0) (Il o scope):=
 ⟨⟨S.ok.XB,S.ok.TB,S.ok.hk,S.ok.hd,S.ok.hu⟩,S.P,S.tn,rfl,fun _ _ h=>False.elim h,S.tab,nmC F S bz,fun e=>Bool.noConfusion e⟩
end
def XZ(w:World)(I:Addr)(o:Obj):Prop:=∀(A:Around) (E:Value->Shared->Prop) (agj h:Heap) (L:Addr) (led:Led) gn dr tk os (elts:List Expr) k p (v:Value) (Q:Unit->Shared->Prop),News agj L h led->(I,o)∈led->Q () ⟨h,gn,dr,tk,os⟩->wpAny (MM w) A (letOwnedTupleGo (.Tuple elts k p) (.ref I) v) Q E ⟨h,gn,dr,tk,os⟩
theorem sO{w:World}{I:Addr}{o:Obj}{n:String}{vs:Array Value}(hc:o.cls=.type n)(hd:o.data=.fields vs)(hn:["enumerate","zip","dict_itemiterator","dict_reverseitemiterator","odict_iterator","itertools.zip_longest","itertools.pairwise"].contains n=false):XZ w I o:=by
 intro A E agj h L led gn dr tk os elts k p v Q N hI q
 unfold letOwnedTupleGo
 cases v with
 |ref T=>
  obtain⟨c,d,dt,sl⟩:=o
  dsimp only at hc hd
  rw[hc,hd] at hI
  refine wpAny_bind (wpAny_load (N _ hI).1 ?_)
  show wpAny _ A (if(["enumerate","zip","dict_itemiterator","dict_reverseitemiterator","odict_iterator","itertools.zip_longest","itertools.pairwise"].contains n&&_)=true then _ else _) Q E _
  rw[hn,Bool.false_and,if_neg Bool.false_ne_true]
  exact wpAny_pure q
 |_=>exact wpAny_pure q
section
variable{c:Cx}{its:Led}{W:Wd}{σ:Sg}{agj h h':Heap}{lf:List (Str×Value)}{led:Led}{gn:Array GenState}
theorem RR.bG(R:RR c its W σ agj lf led h gn){nb:Led}(hk:∀p∈nb,∃o,(p.1,o)∈its)(Z:St agj c.L c.nw c.d h' (c.ms lf) (setB nb led))(hf:c.fr (setB nb its) lf):RR c (setB nb its) W σ agj lf (setB nb led) h' gn:=by
 have no:∀y:Addr,(∀q∈its,q.1≠y)->nb.lookup y=none:=fun y h=>dj.mpr fun p hp e=>let⟨o,ho⟩:=hk p hp;h _ ho e
 have key:∀q∈setB nb its,∃o,(q.1,o)∈its:=fun q hq=>(ek hq).elim (fun k=>⟨_,k.1⟩) fun k=>k.1
 refine⟨R.G,Z,R.H,R.lr,R.cr,fun y hy=>?_,hf,R.tl,R.tn,fun i y e h1 h2=>?_,fun p hp=>?_,R.d0,fun p hp=>?_,R.d1,fun p hp=>?_,zm qp R.fF⟩
 ·obtain⟨a,oa,k2,k3,k4,k5,k6,k7⟩:=R.ur y hy
  exact⟨a,oa,k2,fC k3 (no a k7),k4,k5,k6,fun q hq=>(key q hq).elim fun o ho=>k7 (q.1,o) ho⟩
 ·have q:=R.ta i y e h1 h2
  have ny:∀p∈its,p.1≠y:=fun p hp=>by
   obtain⟨s,b⟩:=e
   cases b with
   |true=>obtain⟨vs,n,a,_⟩:=q;exact fun e=>(R.il p hp).2.2 _ a e.symm
   |false=>exact q.2.2.2 p hp
  have hn:=no y ny
  exact q.mono (.rfl W) (fun o ho=>fC ho hn) (fun _ q hq=>.inl hq) fun _ q hq=>.inr fun e0=>(key q hq).elim fun o ho=>ny (q.1,o) ho e0
 ·have:=R.jF p hp
  refine⟨fC this.1 (no _ fun q hq e=>?_),this.2⟩
  have g:Ge c.d q.1:=(R.il q hq).2.1
  exact absurd (Nat.lt_of_lt_of_le this.2 g) (by rw[e];exact Nat.lt_irrefl _)
 ·exact fC (R.dl p hp) (no _ fun q hq e=>(R.il q hq).2.2 p hp e.symm)
 ·rcases ek hp with⟨k1,k2⟩|⟨⟨o,k1⟩,k2⟩
  ·obtain⟨a,b,d⟩:=R.il p k1
   exact⟨fC a k2,b,d⟩
  ·obtain⟨a,b,d⟩:=R.il _ k1
   obtain⟨q,hq,e⟩:=List.mem_map.mp hp
   refine⟨List.mem_map.mpr ⟨(p.1,o),a,?_⟩,b,d⟩
   have e1:=congrArg Prod.fst e
   have e1:q.1=p.1:=e1
   show(p.1,(nb.lookup p.1).getD o)=p
   rw[<-e1]
   cases q2:nb.lookup q.1 with
   |some o2=>rw[q2] at e;exact e
   |none=>exact absurd e1.symm (dj.mp q2 p k2)
theorem RR.fgs{its':Led}(R:RR c its W σ agj lf led h gn)(hs:its'.Sublist its)(hf:c.fr its' lf):RR c its' W σ agj lf led h gn:=
 ⟨R.G,R.Z,R.H,R.lr,R.cr,fun y hy=>let⟨a,ob,k1,k2,k3,k4,k5,k6⟩:=R.ur y hy;⟨a,ob,k1,k2,k3,k4,k5,fun q hq=>k6 q (hs.subset hq)⟩,hf,R.tl,R.tn,fun i x e h1 h2=>(R.ta i x e h1 h2).mono (.rfl W) (fun _ h=>h) (fun _ q hq=>.inl hq) fun _ q hq=>.inl (hs.subset hq),R.jF,R.d0,R.dl,R.d1,fun q hq=>R.il q (hs.subset hq),R.fF.sublist hs⟩
theorem RR.fQ(R:RR c its W σ agj lf led h gn){ks:List Addr}(hk:∀k∈ks,∃o,(k,o)∈its)(Z:St agj c.L c.nw c.d h' (c.ms lf) (fQ ks led)){its':Led}(hs:its'.Sublist its)(hd:∀p∈its',p.1∉ks)(hf:c.fr its' lf):RR c its' W σ agj lf (fQ ks led) h' gn:=by
 have no:∀y:Addr,(∀q∈its,q.1≠y)->y∉ks:=fun y h e=>let⟨o,ho⟩:=hk y e;h _ ho rfl
 refine⟨R.G,Z,R.H,R.lr,R.cr,fun y hy=>?_,hf,R.tl,R.tn,fun i y e h1 h2=>?_,fun p hp=>?_,R.d0,fun p hp=>?_,R.d1,fun p hp=>?_,R.fF.sublist hs⟩
 ·obtain⟨a,oa,k2,k3,k4,k5,k6,k7⟩:=R.ur y hy
  exact⟨a,oa,k2,fD.mpr ⟨k3,no a k7⟩,k4,k5,k6,fun q hq=>k7 q (hs.subset hq)⟩
 ·have q:=R.ta i y e h1 h2
  have hn:y∉ks:=by
   refine no y fun p hp=>?_
   obtain⟨s,b⟩:=e
   cases b with
   |true=>obtain⟨vs,n,a,_⟩:=q;exact fun e=>(R.il p hp).2.2 _ a e.symm
   |false=>exact q.2.2.2 p hp
  exact q.mono (.rfl W) (fun o ho=>fD.mpr ⟨ho,hn⟩) (fun _ q hq=>.inl hq) fun _ q hq=>.inl (hs.subset hq)
 ·have:=R.jF p hp
  refine⟨fD.mpr ⟨this.1,no _ fun q hq e=>?_⟩,this.2⟩
  have g:Ge c.d q.1:=(R.il q hq).2.1
  exact absurd (Nat.lt_of_lt_of_le this.2 g) (by rw[e];exact Nat.lt_irrefl _)
 ·exact fD.mpr ⟨R.dl p hp,no _ fun q hq e=>(R.il q hq).2.2 p hp e.symm⟩
 ·obtain⟨a,b,d⟩:=R.il p (hs.subset hp)
  exact⟨fD.mpr ⟨a,hd p hp⟩,b,d⟩
end
theorem oF{pre its:Led}{q:Addr×Obj}(h:(pre++(q::its)).Pairwise fun p q=>p.1≠q.1):(∀p∈pre,p.1≠q.1)/\∀p∈its,q.1≠p.1:=
 ⟨fun p hp=>(List.pairwise_append.mp h).2.2 p hp q (.head _),(List.pairwise_cons.mp (List.pairwise_append.mp h).2.1).1⟩
def FrK(c:Cx)(pre bG its:Led)(W:Wd)(σ:Sg):Prop:=∀{agj lf led h gn},RR c (pre++(bG++its)) W σ agj lf led h gn->∀b,c.fr (pre++(b++its)) lf
structure xE(w:World)(I:Addr)(l:List SV)(nm:Bool)(It:Nat->Led->Wd->Prop):Prop where
 mono:∀{i b W W'},It i b W->W.le W'->It i b W'
 nxt:∀{c:Cx} {pre its bG:Led} {W:Wd} {σ:Sg} {st:Shared} {i:Nat} {s:SV} {Q:Option Value->Shared->Prop} {E:Value->Shared->Prop},c.w=w->FrK c pre bG its W σ->It i bG W->l[i]?=some s->RS c (pre++(bG++its)) W σ st->
  (∀v W' b' CH,W.le W'->VR W' s v->RS c (pre++(b'++its)) W' σ CH->(nm=true->It (i+1) b' W')->
   (∀{elts k p} {Q':Unit->Shared->Prop} {E':Value->Shared->Prop},(∀b2 st2,It (i+1) b2 W'->RS c (pre++(b2++its)) W' σ st2->Q' () st2)->wpAny (MM c.w) c.A (letOwnedTupleGo (.Tuple elts k p) (.ref I) v) Q' E' CH)->Q (some v) CH)->
  wpAny (MM c.w) c.A (pyNext (.ref I)) Q E st
 fin:∀{c:Cx} {pre its bG:Led} {W:Wd} {σ:Sg} {st:Shared} {Q:Option Value->Shared->Prop} {E:Value->Shared->Prop},c.w=w->FrK c pre bG its W σ->It l.length bG W->RS c (pre++(bG++its)) W σ st->(∀CH,RS c (pre++its) W σ CH->Q none CH)->wpAny (MM c.w) c.A (pyNext (.ref I)) Q E st
structure ItS(w:World)(W:Wd)(I:Addr)(l:List SV)(nm:Bool)(i:Nat)(bG:Led):Prop where
 x:∃It:Nat->Led->Wd->Prop,xE w I l nm It/\It i bG W
theorem lM{pre its:Led}{x:Addr}{o o':Obj}(h:(pre++([(x,o)]++its)).Pairwise fun p q=>p.1≠q.1):cP x (pre++([(x,o)]++its)) o'=pre++([(x,o')]++its):=by
 obtain⟨a,b⟩:=oF h
 have e1:cP x pre o'=pre:=j6 fun p hp e=>a p hp e
 have e2:cP x its o'=its:=j6 fun p hp e=>b p hp e.symm
 show List.map _ _=_
 rw[List.map_append,List.map_append]
 show cP x pre o'++(cP x [(x,o)] o'++cP x its o')=_
 rw[e1,e2]
 show pre++([if x=x then(x,o') else(x,o)]++its)=_
 rw[if_pos rfl]
theorem zN{pre its:Led}{x:Addr}{o:Obj}(h:(pre++([(x,o)]++its)).Pairwise fun p q=>p.1≠q.1):cy x (pre++([(x,o)]++its))=pre++its:=by
 obtain⟨a,b⟩:=oF h
 have e1:cy x pre=pre:=List.filter_eq_self.mpr fun p hp=>decide_eq_true (a p hp)
 have e2:cy x its=its:=List.filter_eq_self.mpr fun p hp=>decide_eq_true (Ne.symm (b p hp))
 have e3:cy x [(x,o)]=[]:=by unfold cy;rw[List.filter_cons,if_neg (by simp)];rfl
 show List.filter _ _=_
 rw[List.filter_append,List.filter_append]
 show cy x pre++(cy x [(x,o)]++cy x its)=_
 rw[e1,e2,e3]
 rfl
theorem xE.one{w:World}{I:Addr}{l:List SV}{Vs:Nat->Value->Prop}{It:Nat->Obj->Prop}{aZ:Led}{W0:Wd}(a:nY w I l.length Vs It aZ)(sub:∀p∈aZ,p∈W0.D)(dv:∀j v s,Vs j v->l[j]?=some s->VR W0 s v)(f:∀j o,It j o->XZ w I o):
  xE w I l true fun i b W=>∃o,b=[(I,o)]/\It i o/\W0.le W:=by
 refine⟨fun⟨o,e,h,l⟩ k=>⟨o,e,h,l.trans k⟩,?_,?_⟩
 ·intro c pre its bG W σ st i s Q E hw hf hit hs cU kk
  obtain⟨oI,rfl,hit,hle⟩:=hit
  subst hw
  obtain⟨agj,lf,led,h,gn,tk,rfl,R⟩:=cU
  have hm:(I,oI)∈pre++([(I,oI)]++its):=List.mem_append_right _ (.head _)
  obtain⟨k1,k2,_⟩:=R.il _ hm
  refine(a c.A E agj c.L c.nw c.d h (c.ms lf) led gn c.dr tk c.os oI i Q rfl R.Z (fun p hp=>R.dl p (hle.d _ (sub p hp))) k1 k2 hit).1 (List.getElem?_eq_some_iff.mp hs).1 fun v h' o' aN hv Z ya=>?_
  have e2:=lM (o':=o') R.fF
  have R2:=R.HX hm Z (by rw[e2];exact hf R _)
  rw[e2] at R2
  exact kk v W [(I,o')] _ (.rfl W) ((dv i v s hv hs).mono hle) ⟨agj,lf,_,h',gn,aN,rfl,R2⟩ (fun _=>⟨o',rfl,ya,hle⟩) fun q=>f _ _ ya _ _ _ _ _ _ _ _ _ _ _ _ _ _ _ R2.Z.N (R2.il _ (List.mem_append_right _ (.head _))).1 (q _ _ ⟨o',rfl,ya,hle⟩ ⟨agj,lf,_,h',gn,aN,rfl,R2⟩)
 ·intro c pre its bG W σ st Q E hw hf hit cU kk
  obtain⟨oI,rfl,hit,hle⟩:=hit
  subst hw
  obtain⟨agj,lf,led,h,gn,tk,rfl,R⟩:=cU
  have hm:(I,oI)∈pre++([(I,oI)]++its):=List.mem_append_right _ (.head _)
  obtain⟨k1,k2,_⟩:=R.il _ hm
  refine(a c.A E agj c.L c.nw c.d h (c.ms lf) led gn c.dr tk c.os oI l.length Q rfl R.Z (fun p hp=>R.dl p (hle.d _ (sub p hp))) k1 k2 hit).2 rfl fun h' Z=>?_
  have e2:=zN R.fF
  have R2:=R.Xv hm Z (by rw[e2];exact hf R [])
  rw[e2] at R2
  exact kk _ ⟨agj,lf,_,h',gn,tk,rfl,R2⟩
theorem VA.get{W:Wd}{l:List SV}{vs:List Value}(h:VA W l vs){i:Nat}{s:SV}(e:l[i]?=some s):∃v,vs[i]?=some v/\VR W s v:=h.2 i s e
noncomputable def jr(z TO TI i2 i1:Addr)(f0 a b:Value)(o1 o2:Obj):Led:=[(z,b7 f0 TI TO),(TO,aj [a,b] 0),(TI,aj [.ref i1,.ref i2] 0),(i2,o2),(i1,o1)]
inductive ZI(z TO TI i2 i1 t1 t2:Addr)(W0:Wd)(i:Nat)(b:Led)(W:Wd):Prop
 |mk(a b':Value)(o1 o2:Obj)(e:b=jr z TO TI i2 i1 .none a b' o1 o2)(j1:bg o1 t1 i)(j2:bg o2 t2 i)(l:W0.le W)
theorem xE.zip{w:World}{z TO TI i2 i1 t1 t2:Addr}{l1 l2:List SV}{v1 v2:List Value}{n1 n2:Nat}{W0:Wd}(ZO:jB t1 t2 i1 i2 TI TO z)(jO:(t1,aj v1 n1)∈W0.D)(pV:(t2,aj v2 n2)∈W0.D)(a1:VA W0 l1 v1)(a2:VA W0 l2 v2)(hl:l1.length=l2.length):
  xE w z (Cw l1 l2) false (ZI z TO TI i2 i1 t1 t2 W0):=by
 have dist:∀{f0 a b o1 o2} {pre its:Led},(pre++(jr z TO TI i2 i1 f0 a b o1 o2++its)).Pairwise (fun p q=>p.1≠q.1)->(∀p∈pre,p.1∉[z,TO,TI,i2,i1])/\∀p∈its,p.1∉[z,TO,TI,i2,i1]:=fun {f0 a b o1 o2 pre its} h=>by
  have h1:=List.pairwise_append.mp h
  have h2:=List.pairwise_append.mp h1.2.1
  refine⟨fun p hp hq=>?_,fun p hp hq=>?_⟩
  ·simp only[List.mem_cons,List.not_mem_nil,or_false] at hq
   have q:=h1.2.2 p hp
   rcases hq with e|e|e|e|e
   ·exact q _ (List.mem_append_left _ (.head _)) e
   ·exact q _ (List.mem_append_left _ (.tail _ (.head _))) e
   ·exact q _ (List.mem_append_left _ (.tail _ (.tail _ (.head _)))) e
   ·exact q _ (List.mem_append_left _ (.tail _ (.tail _ (.tail _ (.head _))))) e
   ·exact q _ (List.mem_append_left _ (.tail _ (.tail _ (.tail _ (.tail _ (.head _)))))) e
  ·simp only[List.mem_cons,List.not_mem_nil,or_false] at hq
   have q:=fun r hr=>h2.2.2 r hr p hp
   rcases hq with e|e|e|e|e
   ·exact q _ (.head _) e.symm
   ·exact q _ (.tail _ (.head _)) e.symm
   ·exact q _ (.tail _ (.tail _ (.head _))) e.symm
   ·exact q _ (.tail _ (.tail _ (.tail _ (.head _)))) e.symm
   ·exact q _ (.tail _ (.tail _ (.tail _ (.tail _ (.head _))))) e.symm
 refine⟨fun⟨a,b',o1,o2,e,h,h',l⟩ k=>⟨a,b',o1,o2,e,h,h',l.trans k⟩,?_,?_⟩
 ·intro c pre its bG W σ st i s Q E hw hf hit hs cU kk
  obtain⟨a,b',o1,o2,rfl,j1,j2,hle⟩:=hit
  subst hw
  obtain⟨agj,lf,led,h,gn,tk,rfl,R⟩:=cU
  obtain⟨s1,s2,e1,e2,e3⟩:∃s1 s2,l1[i]?=some s1/\l2[i]?=some s2/\Ij s1 s2=s:=by
   rw[Cw,List.getElem?_zipWith_eq_some] at hs
   exact hs
  obtain⟨x,hx,rx⟩:=a1.get e1
  obtain⟨y,hy,ry⟩:=a2.get e2
  have mm:∀q∈jr z TO TI i2 i1 .none a b' o1 o2,q∈pre++(jr z TO TI i2 i1 .none a b' o1 o2++its):=fun q hq=>List.mem_append_right _ (List.mem_append_left _ hq)
  have m1:=mm _ (.head _)
  have m2:=mm _ (.tail _ (.head _))
  have m3:=mm _ (.tail _ (.tail _ (.head _)))
  have m4:=mm _ (.tail _ (.tail _ (.tail _ (.head _))))
  have m5:=mm _ (.tail _ (.tail _ (.tail _ (.tail _ (.head _)))))
  obtain⟨d1,d2⟩:=dist R.fF
  refine Hh R.Z (R.il _ m1).1 (R.il _ m2).1 (R.il _ m3).1 (R.il _ m4).1 (R.il _ m5).1 (R.il _ m5).2.1 j1 j2 (R.dl _ (hle.d _ jO)) (R.dl _ (hle.d _ pV)) hx hy ZO fun T h' gZ ia Z k1 k2 gT=>?_
  have a3:=ZO.a3
  have a4:=ZO.a4
  have a5:=ZO.a5
  have a6:=ZO.a6
  change @LT.lt Nat _ _ _ at a3 a4 a5 a6
  have es:setB [(z,b7 (rawInt T) TI TO),(TO,aj [x,y] 0),(i2,ia),(i1,gZ)] (pre++(jr z TO TI i2 i1 .none a b' o1 o2++its))=pre++(jr z TO TI i2 i1 (rawInt T) x y gZ ia++its):=by
   have no:∀q:Addr×Obj,q.1∉[z,TO,TI,i2,i1]->List.lookup q.1 ([(z,b7 (rawInt T) TI TO),(TO,aj [x,y] 0),(i2,ia),(i1,gZ)]:Led)=none:=fun q hq=>dj.mpr fun r hr e=>by
    simp only[List.mem_cons,List.not_mem_nil,or_false,not_or] at hr hq
    rcases hr with rfl|rfl|rfl|rfl
    ·exact hq.1 e.symm
    ·exact hq.2.1 e.symm
    ·exact hq.2.2.2.1 e.symm
    ·exact hq.2.2.2.2 e.symm
   rw[ez,ez,jn (G:=pre) fun q hq=>no q (d1 q hq),jn (G:=its) fun q hq=>no q (d2 q hq)]
   have bq:∀{u v:Addr},@LT.lt Nat _ u v->(u==v)=false:=fun h=>beq_false_of_ne (Nat.ne_of_lt h)
   unfold setB jr
   simp only[List.map_cons,List.map_nil,List.lookup_cons,beq_self_eq_true,bq a6,bq a5,bq a4,bq a3,bq (Nat.lt_trans a5 a6),bq (Nat.lt_trans a4 (Nat.lt_trans a5 a6)),bq (Nat.lt_trans a3 (Nat.lt_trans a4 (Nat.lt_trans a5 a6))),bq (Nat.lt_trans a4 a5),bq (Nat.lt_trans a3 (Nat.lt_trans a4 a5)),beq_false_of_ne (Nat.ne_of_gt a4),beq_false_of_ne (Nat.ne_of_gt (Nat.lt_trans a3 a4)),List.lookup_nil,Option.getD_some,Option.getD_none]
  have R1:=R.bG (nb:=[(z,b7 (rawInt T) TI TO),(TO,aj [x,y] 0),(i2,ia),(i1,gZ)]) (fun p hp=>by
   simp only[List.mem_cons,List.not_mem_nil,or_false] at hp
   rcases hp with rfl|rfl|rfl|rfl
   ·exact⟨_,m1⟩
   ·exact⟨_,m2⟩
   ·exact⟨_,m4⟩
   ·exact⟨_,m5⟩) (Z.less (List.sublist_cons_self _ _)) (by rw[es];exact hf R _)
  rw[es] at R1
  have R2:=R1.push Z
  have lW:=W.push T (aj [x,y] 0)
  have hz:(z,b7 (rawInt T) TI TO)∈pre++(jr z TO TI i2 i1 (rawInt T) x y gZ ia++its):=List.mem_append_right _ (List.mem_append_left _ (.head _))
  refine kk (.ref T) ⟨W.ρ,(T,aj [x,y] 0)::W.D⟩ (jr z TO TI i2 i1 (rawInt T) x y gZ ia) _ lW ?_ ⟨agj,lf,_,h',gn,tk,rfl,R2⟩ (fun e=>nomatch e) fun {elts k p Q' E'} q=>?_
  ·rw[<-e3]
   exact⟨T,[x,y],0,rfl,.head _,x,[y],rfl,(rx.mono hle).mono lW,y,[],rfl,(ry.mono hle).mono lW,rfl⟩
  ·refine rR R2.Z (fun S=>bV S (R2.il _ hz).1) (R2.il _ hz).2.1 fun h2 Z2=>?_
   have e5:cP z (pre++(jr z TO TI i2 i1 (rawInt T) x y gZ ia++its)) (b7 .none TI TO)=pre++(jr z TO TI i2 i1 .none x y gZ ia++its):=lM (its:=(TO,aj [x,y] 0)::(TI,aj [.ref i1,.ref i2] 0)::(i2,ia)::(i1,gZ)::its) R2.fF
   have R3:=R2.HX hz Z2 (by rw[e5];exact hf R _)
   rw[e5] at R3
   exact q _ _ ⟨x,y,gZ,ia,rfl,k1,k2,hle.trans lW⟩ ⟨agj,lf,_,h2,gn,tk,rfl,R3⟩
 ·intro c pre its bG W σ st Q E hw hf hit cU kk
  obtain⟨a,b',o1,o2,rfl,j1,j2,hle⟩:=hit
  subst hw
  obtain⟨agj,lf,led,h,gn,tk,rfl,R⟩:=cU
  have mm:∀q∈jr z TO TI i2 i1 .none a b' o1 o2,q∈pre++(jr z TO TI i2 i1 .none a b' o1 o2++its):=fun q hq=>List.mem_append_right _ (List.mem_append_left _ hq)
  have m1:=mm _ (.head _)
  have m2:=mm _ (.tail _ (.head _))
  have m3:=mm _ (.tail _ (.tail _ (.head _)))
  have m4:=mm _ (.tail _ (.tail _ (.tail _ (.head _))))
  have m5:=mm _ (.tail _ (.tail _ (.tail _ (.tail _ (.head _)))))
  obtain⟨d1,d2⟩:=dist R.fF
  refine Hi R.Z (R.il _ m1).1 (R.il _ m2).1 (R.il _ m3).1 (R.il _ m4).1 (R.il _ m5).1 j1 (R.dl _ (hle.d _ jO)) (List.getElem?_eq_none (by rw[Cw,List.length_zipWith,<-hl,Nat.min_self,a1.1];exact Nat.le_refl _)) ZO rfl fun h' Z=>?_
  refine kk _ ⟨agj,lf,_,h',gn,tk,rfl,R.fQ (fun k hk=>?_) Z (List.Sublist.append (List.Sublist.refl _) (List.sublist_append_right _ _)) (fun p hp=>(List.mem_append.mp hp).elim (d1 p) (d2 p)) (hf R [])⟩
  simp only[List.mem_cons,List.not_mem_nil,or_false] at hk
  rcases hk with rfl|rfl|rfl|rfl|rfl
  ·exact⟨_,m1⟩
  ·exact⟨_,m2⟩
  ·exact⟨_,m3⟩
  ·exact⟨_,m4⟩
  ·exact⟨_,m5⟩
theorem CI{i:Nat}:∀{l:List SV} {k:Nat},(sH l k)[i]?=l[i]?.map fun s=>Ij (.int ((k+i:Nat):Int) (dF ((k+i:Nat):Int))) s:=by
 induction i with
 |zero=>intro l k;cases l<;>rfl
 |succ i ih=>
  intro l k
  cases l with
  |nil=>rfl
  |cons h t=>
   show(sH t (k+1))[i]?=t[i]?.map _
   rw[ih,show k+1+i=k+(i+1) by exact Nat.add_right_comm _ _ _]
theorem uL:∀{l:List SV} {k:Nat},(sH l k).length=l.length
 |[],_=>rfl
 |_::t,k=>congrArg (·+1) (uL (l:=t) (k:=k+1))
inductive EI(e it t:Addr)(W0:Wd)(i:Nat)(b:Led)(W:Wd):Prop
 |mk(o:Obj)(old:Value)(eb:b=[(e,aS .none it (i:Int) old),(it,o)])(j:bg o t i)(l:W0.le W)
theorem xE.enum{w:World}{e it t:Addr}{l:List SV}{vs:List Value}{n:Nat}{W0:Wd}(hm:(t,aj vs n)∈W0.D)(a:VA W0 l vs):xE w e (sH l 0) false (EI e it t W0):=by
 refine⟨fun⟨o,old,e,h,l⟩ k=>⟨o,old,e,h,l.trans k⟩,?_,?_⟩
 ·intro c pre its bG W σ st i s Q E hw hf hit hs cU kk
  obtain⟨oi,old,rfl,j1,hle⟩:=hit
  subst hw
  obtain⟨agj,lf,led,h,gn,tk,rfl,R⟩:=cU
  obtain⟨s1,e1,e3⟩:∃s1,l[i]?=some s1/\Ij (.int (i:Int) (dF i)) s1=s:=by
   rw[CI,Nat.zero_add] at hs
   exact Option.map_eq_some_iff.mp hs
  obtain⟨x,hx,rx⟩:=a.get e1
  have m1:(e,aS .none it (i:Int) old)∈pre++([(e,aS .none it (i:Int) old),(it,oi)]++its):=List.mem_append_right _ (.head _)
  have m2:(it,oi)∈pre++([(e,aS .none it (i:Int) old),(it,oi)]++its):=List.mem_append_right _ (.tail _ (.head _))
  have h1:=oF (its:=(it,oi)::its) R.fF
  have h2:(∀p∈pre,p.1≠it)/\∀p∈its,it≠p.1:=⟨fun p hp=>(List.pairwise_append.mp R.fF).2.2 p hp _ (.tail _ (.head _)),(List.pairwise_cons.mp (List.pairwise_cons.mp (List.pairwise_append.mp R.fF).2.1).2).1⟩
  refine Cc R.Z (R.il _ m1).1 (R.il _ m2).1 (R.il _ m1).2.1 (R.il _ m2).2.1 j1 rfl (R.dl _ (hle.d _ hm)) hx rfl fun T h' o' aN Z k1 gT=>?_
  have es:setB [(e,aS (rawInt T) it ((i:Int)+1) x),(it,o')] (pre++([(e,aS .none it (i:Int) old),(it,oi)]++its))=pre++([(e,aS (rawInt T) it ((i:Int)+1) x),(it,o')]++its):=by
   have no:∀q:Addr×Obj,q.1≠e->q.1≠it->List.lookup q.1 ([(e,aS (rawInt T) it ((i:Int)+1) x),(it,o')]:Led)=none:=fun q h1 h2=>dj.mpr fun r hr e=>by
    simp only[List.mem_cons,List.not_mem_nil,or_false] at hr
    rcases hr with rfl|rfl
    ·exact h1 e.symm
    ·exact h2 e.symm
   rw[ez,ez,jn (G:=pre) fun q hq=>no q (h1.1 q hq) (h2.1 q hq),jn (G:=its) fun q hq=>no q (Ne.symm (h1.2 q (.tail _ hq))) (Ne.symm (h2.2 q hq))]
   have ne:(it==e)=false:=beq_false_of_ne (Ne.symm (h1.2 _ (.head _)))
   unfold setB
   simp only[List.map_cons,List.map_nil,List.lookup_cons,beq_self_eq_true,ne,Option.getD_some]
  have R1:=R.bG (nb:=[(e,aS (rawInt T) it ((i:Int)+1) x),(it,o')]) (fun p hp=>by
   simp only[List.mem_cons,List.not_mem_nil,or_false] at hp
   rcases hp with rfl|rfl
   ·exact⟨_,m1⟩
   ·exact⟨_,m2⟩) (Z.less (List.sublist_cons_self _ _)) (by rw[es];exact hf R _)
  rw[es] at R1
  have R2:=R1.push Z
  have lW:=W.push T (aj [.int (i:Int) aN,x] 0)
  have hz:(e,aS (rawInt T) it ((i:Int)+1) x)∈pre++([(e,aS (rawInt T) it ((i:Int)+1) x),(it,o')]++its):=List.mem_append_right _ (.head _)
  refine kk (.ref T) ⟨W.ρ,(T,aj [.int (i:Int) aN,x] 0)::W.D⟩ _ _ lW ?_ ⟨agj,lf,_,h',gn,aN+1,rfl,R2⟩ (fun e=>nomatch e) fun {elts k p Q' E'} q=>?_
  ·rw[<-e3]
   exact⟨T,[.int (i:Int) aN,x],0,rfl,.head _,.int (i:Int) aN,[x],rfl,⟨aN,rfl,b8 _⟩,x,[],rfl,(rx.mono hle).mono lW,rfl⟩
  ·refine nX R2.Z (fun S=>bV S (R2.il _ hz).1) (R2.il _ hz).2.1 fun h2 Z2=>?_
   have e5:cP e (pre++([(e,aS (rawInt T) it ((i:Int)+1) x),(it,o')]++its)) (aS .none it ((i:Int)+1) x)=pre++([(e,aS .none it ((i:Int)+1) x),(it,o')]++its):=lM (its:=(it,o')::its) R2.fF
   have R3:=R2.HX hz Z2 (by rw[e5];exact hf R _)
   rw[e5] at R3
   exact q _ _ ⟨o',x,by rw[Int.natCast_add];rfl,k1,hle.trans lW⟩ ⟨agj,lf,_,h2,gn,aN+1,rfl,R3⟩
 ·intro c pre its bG W σ st Q E hw hf hit cU kk
  obtain⟨oi,old,rfl,j1,hle⟩:=hit
  subst hw
  obtain⟨agj,lf,led,h,gn,tk,rfl,R⟩:=cU
  have m1:(e,aS .none it ((sH l 0).length:Int) old)∈pre++([(e,aS .none it ((sH l 0).length:Int) old),(it,oi)]++its):=List.mem_append_right _ (.head _)
  have m2:(it,oi)∈pre++([(e,aS .none it ((sH l 0).length:Int) old),(it,oi)]++its):=List.mem_append_right _ (.tail _ (.head _))
  have S2:(pre++((e,aS .none it ((sH l 0).length:Int) old)::its)).Sublist (pre++([(e,aS .none it ((sH l 0).length:Int) old),(it,oi)]++its)):=List.Sublist.append (List.Sublist.refl _) (.cons_cons _ (List.sublist_cons_self _ _))
  have h2:(∀p∈pre,p.1≠it)/\∀p∈its,it≠p.1:=⟨fun p hp=>(List.pairwise_append.mp R.fF).2.2 p hp _ (.tail _ (.head _)),(List.pairwise_cons.mp (List.pairwise_cons.mp (List.pairwise_append.mp R.fF).2.1).2).1⟩
  have hlen:(sH l 0).length=vs.length:=by rw[uL,a.1]
  refine uc R.Z (R.il _ m1).1 rfl (R.il _ m2).1 (oq R.Z.S (R.il _ m2).1) j1 (R.dl _ (hle.d _ hm)) hlen rfl fun h' Z=>?_
  have e0:cy it led=fQ [it] led:=by
   unfold cy fQ
   refine List.filter_congr fun p hp=>?_
   by_cases h:p.1=it<;>simp[h]
  rw[e0] at Z
  refine kk _ ⟨agj,lf,_,h',gn,tk,rfl,R.fQ (fun k hk=>⟨oi,by rw[List.mem_singleton.mp hk];exact m2⟩) Z (List.Sublist.append (List.Sublist.refl _) (List.sublist_append_right _ _)) (fun p hp hq=>?_) (hf R [])⟩
  rw[List.mem_singleton] at hq
  exact(List.mem_append.mp hp).elim (fun k=>h2.1 p k hq) fun k=>h2.2 p k hq.symm
theorem CJ{w:World}{I:Addr}{a c:Int}{N:Nat}{led:Led}:nY w I N (fun i x=>∃t,x=.int (a+(i:Int)*c) t) (fun i o=>o=ji (a+(i:Int)*c) ((N:Int)-i) c) led:=by
 intro A E agj L nw d h m G gn dr tk os oI i Q hh Z sub hI hc hi
 rw[hi] at hI
 refine⟨fun cO k=>?_,fun he k=>?_⟩
 ·refine GP Z (fun S=>bV S hI) hc (Int.sub_pos_of_lt (Int.ofNat_le.mpr cO)) fun h' Z'=>k _ h' _ _ ⟨_,rfl⟩ Z' ?_
  have e1:a+(i:Int)*c+c=a+((i+1:Nat):Int)*c:=by rw[Int.natCast_add,Int.add_mul];omega
  have e2:(N:Int)-i-1=N-((i+1:Nat):Int):=by exact Int.sub_sub _ _ _
  show ji _ _ _=ji _ _ _
  rw[e1,e2]
 ·exact Z.elim fun o7 h7 N7=>Ga Z.F N7 (aA hI) (Z.A7 hI) hh (XX he) fun h' F N=>k h' (Z.sub h7 jm F N)
section
variable{c:Cx}{o:Or}{f:WE}{W:Wd}{σ:Sg}
def JI(c:Cx)(its:Led)(W:Wd)(tp:Bool)(kl:List SV->Sg->Prop)(Q:Value->Shared->Prop):Prop:=∀W' I oI bG l nm aB s',W.le W'->RS c (bG++its) W' aB s'->ItS c.w W' I l nm 0 bG->(nm||tp)=true->(I,oI)∈bG->cX c.w I oI->kl l aB->Q (.ref I) s'
theorem sP(wY:c.fr=fun _ _=>True){v:SV}{vv:Value}{kl:List SV->Sg->Prop}(h:XS v σ kl)(hv:VR W v vv){its:Led}{s:Shared}{Q:Value->Shared->Prop}{E:Value->Shared->Prop}(hs:RS c its W σ s){tp:Bool}(kk:JI c its W tp kl Q):wpAny (MM c.w) c.A (pyIter vv) Q E s:=by
 refine aa h fun p h1 h=>?_
 refine aa h fun r h2 h=>?_
 refine ai h fun g h=>?_
 obtain⟨agj,lf,led,hp,gn,tk,e,R⟩:=hs
 obtain⟨W1,l1,v1,R1,_⟩:=R.zw hv h1
 rw[e]
 have fin:∀{x vs ob},vv=.ref x->VL W1 r.1 vs->(x,ob)∈W1.D->jR ob vs->wpAny (MM c.w) c.A (pyIter vv) Q E ⟨hp,gn,c.dr,tk,c.os⟩:=fun {x vs ob} ev X0 hD ho=>by
  have jM:=X0.aX
  have hm:=R1.dl _ hD
  rw[ev]
  have Eh:∀(j:Nat) (v:Value) (s:SV),vs[j]?=some v->(aX r.1)[j]?=some s->VR W1 s v:=fun j v s hj cM=>by
   obtain⟨u,a,b⟩:=jM.2 j s cM
   rw[hj] at a
   exact Option.some.inj a▸b
  obtain⟨n,rfl|rfl⟩:=ho
  ·refine GK R1.Z hm fun I oI h' Z hi iE hg=>?_
   exact kk W1 I oI [(I,oI)] _ true p.2 _ l1 ⟨agj,lf,_,h',gn,tk,rfl,R1.gP Z hg (by rw[wY];trivial)⟩ ⟨⟨_,xE.one (W0:=W1) (Vs:=fun i u=>vs[i]?=some u) (It:=fun i ob=>jP ob x i) (aZ:=[(x,ay vs n)]) (by rw[jM.1];exact qg (.head _)) (fun q hq=>by rw[List.mem_singleton.mp hq];exact hD) Eh (fun j ob hj=>sO hj.1 hj.2 rfl),oI,rfl,hi,.rfl _⟩⟩ rfl (.head _) iE h
  ·refine GJ R1.Z hm fun I oI h' Z hi iE hg=>?_
   exact kk W1 I oI [(I,oI)] _ true p.2 _ l1 ⟨agj,lf,_,h',gn,tk,rfl,R1.gP Z hg (by rw[wY];trivial)⟩ ⟨⟨_,xE.one (W0:=W1) (Vs:=fun i u=>vs[i]?=some u) (It:=fun i ob=>bg ob x i) (aZ:=[(x,aj vs n)]) (by rw[jM.1];exact qe (.head _)) (fun q hq=>by rw[List.mem_singleton.mp hq];exact hD) Eh (fun j ob hj=>sO hj.1 hj.2 rfl),oI,rfl,hi,.rfl _⟩⟩ rfl (.head _) iE h
 obtain⟨p1,p2⟩:=p
 cases p1 with
 |tup t=>
  rw[<-Option.some.inj h2] at fin
  obtain⟨x,vs,n,ev,hm,X0⟩:=v1
  exact fin ev X0 hm ⟨n,.inr rfl⟩
 |rl t=>
  rw[<-Option.some.inj h2] at fin
  obtain⟨x,vs,n,ev,hm,X0⟩:=v1
  exact fin ev X0 hm ⟨n,.inl rfl⟩
 |lst i=>rename_i hc;cases hc
 |_=>exact no h2
theorem zO{a cc:Int}{n j:Nat}{s:SV}(h:(wW a cc n)[j]?=some s):s=.int (a+(j:Int)*cc) (dF (a+(j:Int)*cc)):=by
 unfold wW at h
 rw[List.getElem?_map] at h
 obtain⟨i,h1,h2⟩:=Option.map_eq_some_iff.mp h
 obtain⟨hj,e⟩:=List.getElem?_eq_some_iff.mp h1
 rw[List.getElem_range] at e
 rw[<-h2,<-e]
theorem wZ(wY:c.fr=fun _ _=>True){vs:SV}{bR:List Value}{kl:List SV->Sg->Prop}(h:rgO vs fun l=>kl l σ)(hv:VL W vs bR){its:Led}{s:Shared}{Q:Value->Shared->Prop}{E:Value->Shared->Prop}(hs:RS c its W σ s){tp:Bool}(kk:JI c its W tp kl Q):wpAny (MM c.w) c.A (call (.type "range") bR) (fun x aC=>wpAny (MM c.w) c.A (pyIter x) Q E aC) E s:=by
 refine aa h fun q h1 h=>?_
 refine ai h fun g h=>?_
 have g1:=nb g
 have g2:=nb g1.1
 have g3:=nb g2.1
 have g4:=nb g3.1
 have g5:=nb g4.1
 have n0:=of_decide_eq_true g2.2
 have n1:=of_decide_eq_true g1.2
 obtain⟨agj,lf,led,hp,gn,tk,e,R⟩:=hs
 rw[e]
 have lg:∀{n m:Nat},n<=m->m<2 ^ 8999->n.log2<9000:=fun {n m} h k=>by
  by_cases h0:n=0
  ·rw[h0];decide +kernel
  ·exact Nat.lt_of_lt_of_le ((Nat.log2_lt h0).mpr (Nat.lt_of_le_of_lt h k)) (by decide)
 have l2:(q.2.1-q.1).natAbs.log2<9000:=lg (Nat.le_of_ble_eq_true g4.2) (by decide +kernel)
 have l3:q.2.2.natAbs.log2<9000:=lg (Nat.le_of_ble_eq_true g3.2) (by decide +kernel)
 have it:∀{r:Addr} {h':Heap} {aN:Nat} {t u v:Tok},St agj c.L c.nw c.d h' (c.ms lf) ((r,rM q.1 q.2.1 q.2.2 t u v)::led)->wpAny (MM c.w) c.A (pyIter (.ref r)) Q E ⟨h',gn,c.dr,aN,c.os⟩:=fun {r h' aN t u v} Z=>by
  have R1:=R.push Z
  refine GL Z (.head _) g5.1 fun I h2 Z2 hg=>?_
  refine kk ⟨W.ρ,_::W.D⟩ I _ [(I,_)] (wW q.1 q.2.2 (Builtin.Range.rangeSize q.1 q.2.1 q.2.2).toNat) true σ _ (W.push r _) ⟨agj,lf,_,h2,gn,aN,rfl,R1.gP Z2 hg (by rw[wY];trivial)⟩
   ⟨⟨_,xE.one (W0:=⟨W.ρ,_::W.D⟩) (aZ:=[]) (CJ (a:=q.1) (c:=q.2.2)) (fun p hp=>nomatch hp) (fun j v s hv hs=>?_) (fun j ob hj=>by rw[hj];exact sO rfl rfl rfl),_,rfl,?_,.rfl _⟩⟩ rfl (.head _) x9 h
  ·obtain⟨t,rfl⟩:=hv
   rw[zO hs]
   exact⟨t,rfl,b8 _⟩
  ·show ji _ _ _=ji _ _ _
   have e1:(wW q.1 q.2.2 (Builtin.Range.rangeSize q.1 q.2.1 q.2.2).toNat).length=(Builtin.Range.rangeSize q.1 q.2.1 q.2.2).toNat:=by unfold wW;rw[List.length_map,List.length_range]
   rw[e1,show q.1+((0:Nat):Int)*q.2.2=q.1 by omega,show((Builtin.Range.rangeSize q.1 q.2.1 q.2.2).toNat:Int)-((0:Nat):Int)=Builtin.Range.rangeSize q.1 q.2.1 q.2.2 by exact Int.toNat_of_nonneg n0]
 unfold XQ at h1
 cases ha:cN vs with
 |some a=>
  rw[ha] at h1
  refine ah h1 fun p h2 h1=>?_
  obtain⟨_,h1⟩:=eN h1
  obtain⟨v,e1,k1⟩:=jq ha hv
  rw[bL h2] at k1
  obtain⟨t,e2,_⟩:=k1
  rw[e1,e2]
  rw[<-h1] at it
  exact aaV R.Z fun r h' Z hg=>it Z
 |none=>
  rw[ha] at h1
  refine ah h1 fun t h2 h1=>?_
  refine ah h1 fun x h3 h1=>?_
  refine ah h1 fun y h4 h1=>?_
  refine ah h1 fun z h5 h1=>?_
  obtain⟨_,h1⟩:=eN h1
  obtain⟨v1,v2,v3,e1,k1,k2,k3⟩:=zF h2 hv
  rw[bL h3] at k1
  rw[bL h4] at k2
  rw[bL h5] at k3
  obtain⟨t1,e2,_⟩:=k1
  obtain⟨t2,e3,_⟩:=k2
  obtain⟨t3,e4,_⟩:=k3
  have hz:q.2.2≠0:=by simpa using g5.2
  rw[e1,e2,e3,e4]
  rw[<-h1] at it l2 l3 hz
  exact aaW R.Z hz l2 l3 fun r h' Z hg=>it Z
theorem w5(wY:c.fr=fun _ _=>True){vs:SV}{bR:List Value}{kl:List SV->Sg->Prop}(h:zpO vs fun l=>kl l σ)(hv:VL W vs bR){its:Led}{s:Shared}{Q:Value->Shared->Prop}{E:Value->Shared->Prop}(hs:RS c its W σ s)(kk:JI c its W true kl Q):wpAny (MM c.w) c.A (call (.type "zip") bR) (fun x aC=>wpAny (MM c.w) c.A (pyIter x) Q E aC) E s:=by
 refine aa h fun a h1 h=>?_
 refine aa h fun r1 h2 h=>?_
 refine aa h fun r2 h3 h=>?_
 refine ai h fun g h=>?_
 obtain⟨v1,v2,e,k1,k2⟩:=nB h1 hv
 rw[gK h2] at k1
 rw[gK h3] at k2
 obtain⟨t1,u1,n1,e1,m1,k1⟩:=k1
 obtain⟨t2,u2,n2,e2,m2,k2⟩:=k2
 obtain⟨agj,lf,led,hp,gn,tk,rfl,R⟩:=hs
 rw[e,e1,e2]
 refine DQ R.Z (R.dl _ m1) (R.dl _ m2) fun z TO TI i2 i1 o1 o2 h' Z j1 j2 ZO g1 g5=>?_
 have a3:=ZO.a3
 have a4:=ZO.a4
 have a5:=ZO.a5
 change @LT.lt Nat _ _ _ at a3 a4 a5
 have g2:Ge c.d i2:=Nat.le_trans g1 (Nat.le_of_lt a3)
 have g3:Ge c.d TI:=Nat.le_trans g2 (Nat.le_of_lt a4)
 have g4:Ge c.d TO:=Nat.le_trans g3 (Nat.le_of_lt a5)
 have f:∀its lf,c.fr its lf:=fun _ _=>by rw[wY];trivial
 have R1:=R.gP (Z.less ((((List.sublist_cons_self _ _).trans (List.sublist_cons_self _ _)).trans (List.sublist_cons_self _ _)).trans (List.sublist_cons_self _ _))) g1 (f _ _)
 have R2:=R1.gP (Z.less (((List.sublist_cons_self _ _).trans (List.sublist_cons_self _ _)).trans (List.sublist_cons_self _ _))) g2 (f _ _)
 have R3:=R2.gP (Z.less ((List.sublist_cons_self _ _).trans (List.sublist_cons_self _ _))) g3 (f _ _)
 have R4:=R3.gP (Z.less (List.sublist_cons_self _ _)) g4 (f _ _)
 have R5:=R4.gP Z g5 (f _ _)
 refine kO (w:=c.w) _ _ _ _ (Z.N _ (.head _)).1 ?_
 exact kk W z _ (jr z TO TI i2 i1 .none .none .none o1 o2) _ false σ _ (.rfl W) ⟨agj,lf,_,h',gn,tk,rfl,R5⟩ ⟨⟨_,xE.zip ZO m1 m2 (VL.aX k1) (VL.aX k2) (beq_iff_eq.mp g),.none,.none,o1,o2,rfl,j1,j2,.rfl W⟩⟩ rfl (.head _) kO h
theorem w7(wY:c.fr=fun _ _=>True){vs:SV}{bR:List Value}{kl:List SV->Sg->Prop}(h:enO vs fun l=>kl l σ)(hv:VL W vs bR){its:Led}{s:Shared}{Q:Value->Shared->Prop}{E:Value->Shared->Prop}(hs:RS c its W σ s)(kk:JI c its W true kl Q):wpAny (MM c.w) c.A (call (.type "enumerate") bR) (fun x aC=>wpAny (MM c.w) c.A (pyIter x) Q E aC) E s:=by
 refine aa h fun a h1 h=>?_
 refine aa h fun r1 h2 h=>?_
 obtain⟨v1,e,k1⟩:=jq h1 hv
 rw[gK h2] at k1
 obtain⟨t1,u1,n1,e1,m1,k1⟩:=k1
 obtain⟨agj,lf,led,hp,gn,tk,rfl,R⟩:=hs
 rw[e,e1]
 refine rQ R.Z (R.dl _ m1) fun en it oi h' Z j1 g1 g2=>?_
 have f:∀its lf,c.fr its lf:=fun _ _=>by rw[wY];trivial
 have R1:=R.gP (Z.less (List.sublist_cons_self _ _)) g2 (f _ _)
 have R2:=R1.gP Z g1 (f _ _)
 refine gY (w:=c.w) rfl _ _ _ _ (Z.N _ (.head _)).1 ?_
 exact kk W en _ [(en,aS .none it ((0:Nat):Int) .none),(it,oi)] _ false σ _ (.rfl W) ⟨agj,lf,_,h',gn,tk,rfl,R2⟩ ⟨⟨_,xE.enum m1 (VL.aX k1),oi,.none,rfl,j1,.rfl W⟩⟩ rfl (.head _) (gY rfl) h
end
section
variable{c:Cx}{o:Or}{f:WE}{W:Wd}{σ:Sg}
theorem iQ(S:c8 c o)(hf:mK c f)(wY:c.fr=fun _ _=>True){tp:Bool}{e:Expr}{kl:List SV->Sg->Prop}(h:CB f o tp e σ kl){its:Led}{s:Shared}{Q:Value->Shared->Prop}{E:Value->Shared->Prop}(hs:RS c its W σ s)(he:c.ex E)(kk:JI c its W tp kl Q):
  wpAny (MM c.w) c.A (eval e c.env) (fun x aC=>wpAny (MM c.w) c.A (pyIter x) Q E aC) E s:=by
 have tr:∀{W1:Wd},W.le W1->JI c its W1 tp kl Q:=fun l W2 I oI bG l2 nm aB s' l'=>kk W2 I oI bG l2 nm aB s' (l.trans l')
 unfold CB at h
 cases hr:Cv o σ e with
 |none=>
  rw[hr] at h
  exact hf e W σ _ h its s _ E hs he fun W1 v sv au s1 l1 r1 aV k1=>sP wY k1 r1 aV (tr l1)
 |some q=>
  rw[hr] at h
  obtain⟨x,p,pos,e1,hn,cU,mO⟩:=Ef hr
  rw[e1]
  refine cC rfl (S.nm W σ x _ p hn its s _ E hs he fun W1 v sv au s1 l1 r1 aV k1=>?_)
  obtain⟨k1,k2⟩:=k1
  rw[k1] at r1
  rw[k2] at aV
  have ev:v=.type (tyN q.1):=r1
  rw[ev]
  obtain⟨n,es⟩:=q
  cases es with
  |nil=>cases mO
  |cons ea r=>
   have cU:=nosp cU
   refine jf (bh cU.1) (plain_any cU.2) (cS hf (ea::r) W1 σ _ h its s1 _ E aV he fun W2 bR vs aO s2 l2 r2 cB k2=>?_)
   match n,k2 with
   |0,k2=>exact wZ wY k2 r2 cB (tr (l1.trans l2))
   |1,k2=>
    refine ai k2 fun g k2=>?_
    exact w5 wY k2 r2 cB (g▸tr (l1.trans l2))
   |_+2,k2=>
    refine ai k2 fun g k2=>?_
    exact w7 wY k2 r2 cB (g▸tr (l1.trans l2))
theorem zP{e:Expr}{env:Env}(h:CC e=true):∀v,foldedSetIterable e env v=pure v:=by
 cases e<;>first|exact fun _=>rfl|cases h
theorem nE{env:Env}:∀{es:List Expr},(es.all isNm)=true->(assignEach es env).length=es.length/\(assignEach es env).findIdx? (·.1)=none
 |[],_=>⟨rfl,rfl⟩
 |e::r,h=>by
  have h2:=nb h
  obtain⟨a,b⟩:=nE (env:=env) h2.2
  have e1:assignEach (e::r) env=(false,assign e env)::assignEach r env:=by cases e<;>first|rfl|cases h2.1
  rw[e1]
  exact⟨congrArg (·+1) a,by rw[List.findIdx?_cons,b];rfl⟩
def Est(c:Cx)(pre:Led->Prop)(t:Sem Unit)(W:Wd)(σ:Sg)(k:Sg->Prop):Prop:=
 ∀its s (Q:Unit->Shared->Prop) E,pre its->RS c its W σ s->(∀its' W' aB s',pre its'->W.le W'->RS c its' W' aB s'->k aB->Q () s')->wpAny (MM c.w) c.A t Q E s
def Sto(c:Cx)(pre:Led->Prop)(st:Str->SV->Sg->(Sg->Prop)->Prop):Prop:=∀x v σ k W vv,st x v σ k->VR W v vv->Est c pre (storeName c.env x vv) W σ k
theorem iT{pre:Led->Prop}{st:Str->SV->Sg->(Sg->Prop)->Prop}(cU:Sto c pre st):∀(es:List Expr) (l:List SV) (vs:List Value) W σ k,Cz st es l σ k->VA W l vs->∀its s (Q:Unit->Shared->Prop) E,pre its->RS c its W σ s->(∀its' W' aB s',pre its'->W.le W'->RS c its' W' aB s'->k aB->Q () s')->Bl c.w c.A c.env es vs Q E s
 |[],l,vs,W,σ,k,h,hv,its,s,Q,E,hp,hs,kk=>by
  cases l with
  |nil=>rw[List.length_eq_zero_iff.mp hv.1.symm];exact kI (kk its W σ s hp (.rfl W) hs h)
  |cons _ _=>exact False.elim h
 |e::r,l,vs,W,σ,k,h,hv,its,s,Q,E,hp,hs,kk=>by
  cases l with
  |nil=>exact False.elim h
  |cons a l=>
   obtain⟨v,vr,ev,k1,k2⟩:=hv.head
   rw[ev]
   cases e with
   |Name x p=>exact dX (cU x a σ _ W v h k1 its s _ E hp hs fun its' W' aB s' Ct l' cM hk=>iT cU r l vr W' aB k hk (k2.mono l') its' s' Q E Ct cM fun adU W2 aO s2 yK l2 cB ja=>kk adU W2 aO s2 yK (l'.trans l2) cB ja)
   |_=>exact False.elim h
theorem iU{pre:Led->Prop}{st:Str->SV->Sg->(Sg->Prop)->Prop}(cU:Sto c pre st){es:List Expr}{kk0:Nat}{pos:Pos}{v:SV}{vv:Value}{k:Sg->Prop}(hn:(es.all isNm)=true)(h:af (oA σ v) fun r=>bF ((aX r.1).length==es.length) (Cz st es (aX r.1) σ k))(hv:VR W v vv):Est c pre (assign (.Tuple es kk0 pos) c.env vv) W σ k:=by
 refine aa h fun r h1 h=>?_
 refine ai h fun g h=>?_
 intro its s Q E hp hs kk
 obtain⟨agj,lf,led,Ct,gn,tk,e,R⟩:=hs
 obtain⟨x,vs,ob,e1,hx,hm,ho,_,_⟩:=R.sq hv h1
 have hx:=hx.aX
 obtain⟨n1,n2⟩:=nE (env:=c.env) hn
 have hl:(assignEach es c.env).length=vs.length:=by rw[n1,<-hx.1];exact(beq_iff_eq.mp g).symm
 rw[e1,e]
 obtain⟨n,rfl|rfl⟩:=ho
 ·exact GH R.Z hm rfl hl n2 fun h' Z=>iT cU es _ vs W σ k h hx its _ Q E hp ⟨agj,lf,led,h',gn,tk,rfl,R.same Z⟩ kk
 ·exact kU R.Z hm rfl hl n2 fun h' Z=>iT cU es _ vs W σ k h hx its _ Q E hp ⟨agj,lf,led,h',gn,tk,rfl,R.same Z⟩ kk
end
theorem zQ:∀{a0 a1:Nat},a0+(a1+1)=a0+1+a1:=(Eq.symm (Nat.add_right_comm _ _ _))
theorem uM{x:Addr}{o:Obj}{r:Led}(h:∀q∈r,x≠q.1):cy x ((x,o)::r)=r:=by
 unfold cy
 rw[List.filter_cons,if_neg (by simp)]
 exact List.filter_eq_self.mpr fun p hp=>decide_eq_true fun e=>h p hp e.symm
section
variable{c:Cx}{o:Or}{W:Wd}{σ:Sg}{its:Led}{agj h:Heap}{lf:List (Str×Value)}{led:Led}{gn:Array GenState}{scope:Scope}{bA:List (Str×Addr)}{C:Addr}{m0:Str->Option Value}
theorem RR.toC(R:RR c its W σ agj lf led h gn){oC:Obj}(hm:(C,oC)∈its)(hn:mF C oC []):RR (qz c scope (XY scope.names c.kg) C (c.ms lf)) its W ⟨[],σ.c.filter fun p=>scope.names.lookup p.1==some .free,none,σ.T⟩ agj [] led h gn:=by
 refine⟨R.G,R.Z,R.H,fun x s h=>no h,fun x s hs=>?_,fun x hx=>no hx,⟨oC,hm,hn⟩,R.tl,R.tn,R.ta,R.jF,R.d0,R.dl,R.d1,R.il,R.fF⟩
 obtain⟨h1,h2⟩:=gQ (q:=fun x=>scope.names.lookup x==some NameKind.free) hs
 obtain⟨a,ob,v,k1,k2,k3,k4⟩:=R.cr x s h1
 have h3:=lK (beq_iff_eq.mp h2)
 exact⟨a,ob,v,lJ k1 scope.names [] (.inr ⟨_,h3,rfl,rfl⟩) (fun b hb=>no hb),k2,k3,k4⟩
theorem RR.ofC{Im:Led}{W0:Wd}{CK:Sg}{h0 h1:Heap}{lf0:List (Str×Value)}{aZ:Led}{gn0:Array GenState}(R0:RR c Im W0 CK h0 lf0 aZ h1 gn0)(l:W0.le W)(hu:CK.u=none)(hf:c.fr its lf0)(R:RR (qz c scope bA C (c.ms lf0)) its W σ agj lf led h gn):RR c its W ⟨CK.l,CK.c,CK.u,σ.T⟩ agj lf0 led h gn:=by
 refine⟨R.G,R.Z,R.H,fun x s hs=>?_,fun x s hs=>?_,fun x hx=>no (hu.symm.trans hx),hf,R.tl,R.tn,R.ta,R.jF,R.d0,R.dl,R.d1,R.il,R.fF⟩
 ·obtain⟨v,a,b⟩:=R0.lr x s hs
  exact⟨v,a,b.mono l⟩
 ·obtain⟨a,ob,v,k1,k2,k3,k4⟩:=R0.cr x s hs
  exact⟨a,ob,v,k1,l.d _ k2,k3,k4.mono l⟩
theorem nF(F:FF c o)(hk:c.cs.kind=.function)(bz:scope.kind=.function){rest:Led}:Sto (qz c scope bA C m0) (fun its=>∃oC,its=(C,oC)::rest) (stC (gf scope.names o.names)):=by
 intro x v σ k W vv h hv its s Q E hp hs kk
 obtain⟨oC,hp⟩:=hp
 obtain⟨agj,lf,led,Ct,gn,tk,e,R⟩:=hs
 unfold stC at h
 cases hl:(gf scope.names o.names).lookup x with
 |none=>rw[hl] at h;exact False.elim h
 |some kd=>
  rw[hl] at h
  cases kd with
  |«local»=>
   have hx:(compEnvC scope bA C c.env).kindOf x=some .local:=by
    show(relabel scope c.env).names.lookup x=_
    rw[zM F hk]
    exact hl
   rw[hp] at R
   obtain⟨o2,m1,m2⟩:=R.fr
   have i0:=R.il _ (.head _)
   have eo:o2=oC:=R.uq (R.il _ m1).1 i0.1
   rw[eo] at m2
   rw[e]
   refine qa R.Z (fun S=>bV S i0.1) m2 i0.2.1 bz hx fun h' o' Z' ns=>?_
   have fF:=List.pairwise_cons.mp R.fF
   have T:=R.turn (aB:={ σ with l:=(x,v)::σ.l}) (its':=(C,o')::rest) i0.1 i0.2.1 i0.2.2 (zj:=(x,vv)::lf) Z' (fun y t hy=>?_) rfl (fun y hy=>⟨hy,fun e=>?_⟩) ⟨o',.head _,ns⟩ R.tl (fun i y e h1 h2=>?_) (fun p hp=>?_) (List.pairwise_cons.mpr fF)
   ·exact kk _ W _ _ ⟨o',rfl⟩ (.rfl W) ⟨agj,_,_,h',gn,tk+1,rfl,T⟩ h
   ·rcases bC hy with⟨rfl,rfl⟩|jz
    ·exact⟨vv,aR,hv⟩
    ·by_cases JJ:y=x
     ·subst JJ
      have hy:((y,v)::σ.l).lookup y=some t:=hy
      rw[List.lookup_cons,beq_self_eq_true] at hy
      exact⟨vv,aR,Option.some.inj hy▸hv⟩
     ·obtain⟨u,a,b⟩:=R.lr y t jz
      exact⟨u,aW (beq_false_of_ne JJ) a,b⟩
   ·obtain⟨a,oa,q1,_,_,_,_,q6⟩:=R.ur y hy
    rw[e] at q1
    cases q1
    exact q6 _ (.head _) rfl
   ·by_cases hy:y=C
    ·refine .inl ⟨hy,?_⟩
     have q:=R.ta i y e h1 h2
     obtain⟨s,b⟩:=e
     cases b with
     |true=>exact q
     |false=>exact absurd hy.symm (q.2.2.2 _ (.head _))
    ·exact .inr ⟨hy,h2⟩
   ·rcases List.mem_cons.mp hp with e|hp
    ·exact .inr e
    ·exact .inl ⟨.tail _ hp,fun e=>fF.1 p hp e.symm⟩
  |_=>exact False.elim h
end
section
variable{c:Cx}{o:Or}{scope:Scope}{bA:List (Str×Addr)}{C I D:Addr}{m0:Str->Option Value}{l:List SV}{its:Led}
theorem frC{bG:Led}{oC:Obj}{W:Wd}{σ:Sg}:FrK (qz c scope bA C m0) [(C,oC)] bG its W σ:=fun R b=>by
 obtain⟨o2,m1,m2⟩:=R.fr
 have eo:o2=oC:=R.uq (R.il _ m1).1 (R.il _ (.head _)).1
 exact⟨oC,.head _,eo▸m2⟩
theorem w9(F:FF c o)(S:c8 c o)(bz:scope.kind=.function){f:WE}{t:WT}(hf:mK (qz c scope bA C m0) f)(ht:A6 (qz c scope bA C m0) t){i0:Nat}{target elt iter:Expr}{ifs:List Expr}{pos:Pos}{R:Result->Shared->Prop}{k:Sg->Prop}{nm:Bool}(CM:Nat.ble ifs.length 1=true)(zR:(nm||zJ target)=true):
  ∀(r:List SV) (i:Nat),i+r.length=l.length->(∀j,r[j]?=l[i+j]?)->∀W σ s oC bG,Ec f t (gf scope.names o.names) i0 target elt ifs r σ k->RS (qz c scope bA C m0) ((C,oC)::(bG++its)) W σ s->ItS c.w W I l nm i bG->VR W (.lst i0) (.ref D)->
   (∀W' aB s' zS,W.le W'->RS (qz c scope bA C m0) ((C,zS)::its) W' aB s'->k aB->R (.ok .next) s')->CL c.w c.A elt target iter ifs scope pos (compEnvC scope bA C c.env) (.ref I) (.ref D) R s:=by
 intro r
 induction r with
 |nil=>
  intro i hl hg W σ s oC bG h hs hit hD fin
  obtain⟨It,hI,hit⟩:=hit
  have hi:i=l.length:=hl
  rw[hi] at hit
  have fin2:∀E',wpAny (MM c.w) c.A (pyNext (.ref I)) (kJ c.w c.A E' elt target iter ifs scope pos (compEnvC scope bA C c.env) (.ref I) (.ref D) R) E' s:=fun E'=>
   hI.fin (c:=qz c scope bA C m0) (pre:=[(C,oC)]) rfl frC hit hs fun CH cM=>tO (fin W σ CH oC (.rfl W) cM h)
  cases ifs with
  |nil=>exact pT fin2
  |cons cnd r=>
   cases r with
   |nil=>exact gr fin2
   |cons _ _=>cases CM
 |cons s0 r ih=>
  intro i hl hg W σ s oC bG h hs hit hD fin
  obtain⟨It,hI,hit⟩:=hit
  have next:∀W1 au s1 CN b1,W.le W1->RS (qz c scope bA C m0) ((C,CN)::(b1++its)) W1 au s1->It (i+1) b1 W1->Ec f t (gf scope.names o.names) i0 target elt ifs r au k->CL c.w c.A elt target iter ifs scope pos (compEnvC scope bA C c.env) (.ref I) (.ref D) R s1:=fun W1 au s1 CN b1 l1 aV uN nG=>
   ih (i+1) (by rw[<-hl];simp;exact Nat.add_right_comm _ _ _) (fun j=>by have:=hg (j+1);rw[List.getElem?_cons_succ] at this;rw[this];congr 1;exact zQ) W1 au s1 CN b1 nG aV ⟨It,hI,uN⟩ (hD.mono l1) fun W' aB s' zS l'=>fin W' aB s' zS (l1.trans l')
  clear ih
  have body:∀E' W1 au s1 CN b1,W.le W1->RS (qz c scope bA C m0) ((C,CN)::(b1++its)) W1 au s1->It (i+1) b1 W1->lpB f t i0 elt ifs (Ec f t (gf scope.names o.names) i0 target elt ifs r) k au->wD c.w c.A E' (compEnvC scope bA C c.env) elt ifs (.ref D) (CL c.w c.A elt target iter ifs scope pos (compEnvC scope bA C c.env) (.ref I) (.ref D) R) () s1:=fun E' W1 au s1 CN b1 l1 aV uN nG=>by
   have one:∀W2 aO s2,W1.le W2->RS (qz c scope bA C m0) ((C,CN)::(b1++its)) W2 aO s2->(f elt aO fun v dQ=>zG i0 v dQ fun xD=>Ec f t (gf scope.names o.names) i0 target elt ifs r xD k)->wpAny (MM c.w) c.A (eval elt (compEnvC scope bA C c.env)) (rH c.w c.A E' (.ref D) (CL c.w c.A elt target iter ifs scope pos (compEnvC scope bA C c.env) (.ref I) (.ref D) R)) E' s2:=fun W2 aO s2 l2 cB ja=>
    hf elt W2 aO _ ja _ s2 _ E' cB trivial fun W3 v3 sv dQ s3 l3 r3 mT k3=>lI (c:=qz c scope bA C m0) k3 ((hD.mono (l1.trans l2)).mono l3) r3 mT fun aB s' cM fJ=>next W3 aB s' CN b1 ((l1.trans l2).trans l3) cM (hI.mono uN (l2.trans l3)) fJ
   cases ifs with
   |nil=>exact aaN (one W1 au s1 (.rfl W1) aV nG)
   |cons cnd r2=>
    cases r2 with
    |cons _ _=>exact nG.elim
    |nil=>
     refine FP (ht cnd W1 au _ nG _ s1 _ E' aV trivial fun W3 b bl dQ s3 l3 rb mT k3=>?_)
     refine lD (K:=fun b=>pS _ _ _ _ _ _ _ b _) rb k3 (fun k3=>?_) fun k3=>?_
     ·exact KG (one W3 dQ s3 l3 mT k3)
     ·exact KH (next W3 dQ s3 CN b1 (l1.trans l3) mT (hI.mono uN l3) k3)
  have turn:∀E',wpAny (MM c.w) c.A (pyNext (.ref I)) (kJ c.w c.A E' elt target iter ifs scope pos (compEnvC scope bA C c.env) (.ref I) (.ref D) R) E' s:=fun E'=>by
   refine hI.nxt (c:=qz c scope bA C m0) (pre:=[(C,oC)]) rfl frC hit (by rw[show l[i]?=l[i+0]? from rfl,<-hg 0];rfl) hs fun v W1 b1 s1 l1 hv aV hn Fq=>?_
   have h:CA (stC (gf scope.names o.names)) target s0 σ (lpB f t i0 elt ifs (Ec f t (gf scope.names o.names) i0 target elt ifs r) k):=h
   cases target with
   |Name x p=>
    have h:stC (gf scope.names o.names) x s0 σ (lpB f t i0 elt ifs (Ec f t (gf scope.names o.names) i0 (.Name x p) elt ifs r) k):=h
    have uN:=hn (Bool.or_false nm▸(zR:(nm||false)=true))
    exact Bo (nF (m0:=m0) (bA:=bA) (C:=C) (rest:=b1++its) F S.ok.hk bz x s0 σ _ W1 v h hv _ _ _ E' ⟨oC,rfl⟩ aV fun its' W' aB s' hp l' cM hk=>by obtain⟨zS,hp⟩:=hp;rw[hp] at cM;exact body E' W' aB s' zS b1 (l1.trans l') cM (hI.mono uN l') hk)
   |Tuple es k0 p=>
    refine ai h fun g h=>?_
    refine rI (Fq fun b2 s2 uN cB=>?_)
    exact iU (c:=qz c scope bA C m0) (nF (m0:=m0) (bA:=bA) (C:=C) (rest:=b2++its) F S.ok.hk bz) g h hv _ _ _ E' ⟨oC,rfl⟩ cB fun its' W' aB s' hp l' cM hk=>by obtain⟨zS,hp⟩:=hp;rw[hp] at cM;exact body E' W' aB s' zS b2 (l1.trans l') cM (hI.mono uN l') hk
   |_=>exact False.elim h
  cases ifs with
  |nil=>exact pT turn
  |cons cnd r2=>
   cases r2 with
   |nil=>exact gr turn
   |cons _ _=>cases CM
end
section
variable{c:Cx}{o:Or}{scope:Scope}{W:Wd}{σ:Sg}
theorem FF.Io{c:Cx}{o:Or}(F:FF c o)(its:Led)(lf:List (Str×Value)):c.fr its lf:=by rw[F.fr];trivial
theorem lN(F:FF c o)(S:c8 c o){FE:Or->WE}{FT:Or->WT}(hF:∀c' o',c'.base=c.base->c8 c' o'->mK c' (FE o'))(hT:∀c o,c8 c o->A6 c (FT o)){I:Addr}{oI:Obj}{its bG:Led}{l:List SV}{nm:Bool}{target elt iter:Expr}{ifs:List Expr}{pos:Pos}{use:Option (Value->Sem Unit)}{Q:Value->Shared->Prop}{E:Value->Shared->Prop}{k:Sg->Prop}
  (bz:scope.kind=.function) (CM:Nat.ble ifs.length 1=true) (cL:∀y∈scope.names,y.2≠.cell) (hu:σ.u=none) {agj h:Heap} {lf:List (Str×Value)} {led:Led} {gn:Array GenState} {tk:Nat} (R:RR c (bG++its) W σ agj lf led h gn) (hI:ItS c.w W I l nm 0 bG) (zR:(nm||zJ target)=true) (JK:(I,oI)∈bG) (iE:cX c.w I oI)
  (hk:Ec (FE (Il o scope)) (FT (Il o scope)) (gf scope.names o.names) σ.T.length target elt ifs l ⟨[],σ.c.filter fun p=>scope.names.lookup p.1==some .free,none,σ.T++[(.nil,false)]⟩ k)
  (post:∀W2 aO agj led h gn tk C oC X3 D,W.le W2->RR c ((C,oC)::its) W2 ⟨σ.l,σ.c,σ.u,aO.T⟩ agj lf led h gn->mF C oC X3->VR W2 (.lst σ.T.length) (.ref D)->k aO->compPost (MM c.w) c.A E use Q (.ref D) C (.ok .next) ⟨h,gn,c.dr,tk,c.os⟩):
  KC c.w c.A E c.env elt target iter ifs scope (XY scope.names c.kg) pos use Q (.ref I) ⟨h,gn,c.dr,tk,c.os⟩:=by
 refine qb R.Z (R.il _ (List.mem_append_left _ JK)).1 iE cL bz fun D C ob h' Z ns hgD hgC=>?_
 have Z1:=Z.less (led':=(D,ay [] 0)::led) (List.Sublist.cons _ (List.Sublist.refl _))
 have R1:=R.gO (s:=.nil) Z1 hgD rfl
 have R2:=R1.gP Z hgC (F.Io _ _)
 have R3:=R2.toC (scope:=scope) (.head _) ns
 have l1:=W.gO D
 have hD:VR ⟨W.ρ++[D],W.D⟩ (.lst σ.T.length) (.ref D):=⟨D,rfl,by show(W.ρ++[D])[σ.T.length]?=some D;rw[<-R.tl,List.getElem?_append_right (Nat.le_refl _),Nat.sub_self];rfl⟩
 have sk:=adT (scope:=scope) (bA:=XY scope.names c.kg) (C:=C) (m0:=c.ms lf) F S bz
 refine w9 F S bz (hF _ _ rfl sk) (hT _ _ sk) CM zR l 0 (Nat.zero_add _) (fun j=>by rw[Nat.zero_add]) _ _ _ ob bG hk ⟨agj,[],_,h',gn,tk,rfl,R3⟩ (let⟨It,a,b⟩:=hI;⟨It,a,a.mono b l1⟩) hD fun W' aB s' zS l' cM fJ=>?_
 obtain⟨bE,X3,Ip,yK,Jz,uo,e,R4⟩:=cM
 obtain⟨o2,m1,m2⟩:=R4.fr
 have eo:o2=zS:=R4.uq (R4.il _ m1).1 (R4.il _ (.head _)).1
 rw[e]
 have V:=RR.ofC (its:=(C,zS)::its) R2 l' hu (F.Io _ _) R4
 exact post W' aB bE Ip yK Jz uo C zS X3 D (l1.trans l') V (eo▸m2) (hD.mono l') fJ
theorem Iq{α:Type _}{l:List α}{p:α->Bool}(h:l.all p=true):∀x∈l,p x=true:=List.all_eq_true.mp h
structure CmK(c:Cx)(o:Or)(g:Comprehension)(scope:Scope):Prop where
 F:FF c o
 it:CC g.iter=true
 ifs:Nat.ble g.ifs.length 1=true
 as:g=⟨g.target,g.iter,g.ifs,0⟩
 kind:scope.kind=.function
 cell:∀y∈scope.names,y.2≠.cell
 names:∀x∈scope.names,x.2=.local->scope.names.lookup x.1=some .local
 X4:closureFor scope c.env=pure (XY scope.names c.kg)
theorem as0:∀g:Comprehension,g.is_async=0->g=⟨g.target,g.iter,g.ifs,0⟩
 |⟨_,_,_,_⟩,e=>congrArg _ e
theorem X5(S:c8 c o){g:Comprehension}(b:cmK o g scope σ=true){its:Led}{s:Shared}(hs:RS c its W σ s):CmK c o g scope:=by
 have b1:=nb b
 have b2:=nb b1.1
 have b3:=nb b2.1
 have b4:=nb b3.1
 have b5:=nb b4.1
 have F:=S.fn b5.1
 have hc:c.env.cells=c.kg:=by rw[F.env,F.kg]
 refine⟨F,b5.2,b4.2,?_,of_decide_eq_true b2.2,fun y hy e=>?_,fun x hx e=>?_,?_⟩
 ·have e:g.is_async=0:=by simpa using b3.2
  exact as0 g e
 ·have:=(nb (nb (Iq b1.2 y hy)).1).1
  rw[e] at this
  cases this
 ·have:=(nb (nb (Iq b1.2 x hx)).1).2
  rw[e] at this
  simpa using this
 ·rw[<-hc]
  refine CG fun p hp X6=>?_
  have q:=(nb (Iq b1.2 p hp)).2
  rw[X6] at q
  obtain⟨s,aV⟩:=Option.isSome_iff_exists.mp (by simpa using q:(σ.c.lookup p.1).isSome=true)
  obtain⟨agj,lf,led,hp,gn,tk,e,R⟩:=hs
  obtain⟨a,_,_,k1,_⟩:=R.cr _ _ aV
  rw[hc,k1]
  rfl
theorem sQ(S:c8 c o){FE:Or->WE}{FT:Or->WT}(hF:∀c' o',c'.base=c.base->c8 c' o'->mK c' (FE o'))(hT:∀c o,c8 c o->A6 c (FT o)){elt:Expr}{gens:List Comprehension}{pos:Pos}{k:K1}(h:CD FE FT o elt gens scope σ k):Ev c (eval (.ListComp elt gens scope pos) c.env) W σ k:=by
 match gens,h with
 |[g],h=>
  refine ai h fun b h=>?_
  intro its s Q E hs he kk
  have K:=X5 S b hs
  rw[K.as]
  refine xX K.X4 (zP K.it) K.kind K.names (iQ S (hF c o rfl S) K.F.fr h hs he fun W1 I oI bG l nm au s1 l1 aV hI zR JK iE nG=>?_)
  refine ai nG fun hu nG=>?_
  have hu:=Option.isNone_iff_eq_none.mp hu
  obtain⟨agj,lf,led,hp,gn,tk,e,R⟩:=aV
  rw[e]
  refine lN K.F S hF hT K.kind K.ifs K.cell hu R hI zR JK iE nG fun W2 aO bE Ip yK Jz uo C oC X3 D l2 R2 ns hD ja=>?_
  have fF:=(List.pairwise_cons.mp R2.fF).1
  have hm:=(R2.il _ (.head _)).1
  refine yF R2.Z hm ns (oq R2.Z.S hm) fun h' Z'=>?_
  have R3:=R2.Xv (.head _) Z' (K.F.Io _ _)
  rw[uM fF] at R3
  exact kk W2 _ (.lst au.T.length) _ _ (l1.trans l2) hD ⟨bE,lf,_,h',Jz,uo,rfl,R3⟩ ja
theorem iV{cst:Const}{kd:Nat}{pos:Pos}{k:K1}(h:XJ cst fun v=>k v σ):Ev c (eval (.Constant cst kd pos) c.env) W σ k:=by
 cases cst with
 |int i=>exact cH (b8 i) h fun h gn dr tk os Q E kk=>DH (kk _ _)
 |bool b=>exact fS h fun s Q E q=>nQ q
 |none=>exact Eg.ret .none h fun h gn dr tk os Q E kk=>xJ (kk _ _ rfl)
 |_=>exact False.elim h
theorem qA{FE:Or->WE}{FT:Or->WT}(hF:∀c o,c8 c o->mK c (FE o))(hT:∀c o,c8 c o->A6 c (FT o))(S:c8 c o):mK c (Ed FE FT o):=by
 intro e W σ k h
 have hf:=hF c o S
 cases e with
 |Name x pos=>
  refine aa h fun v h1 h=>?_
  exact(S.nm W σ x v pos h1).imp fun v' aB e=>by rw[e.1,e.2];exact h
 |Constant cst kd pos=>exact iV h
 |BinOp l op r pos=>
  intro its s Q E hs he kk
  exact pG (hf l W σ _ h its s _ E hs he fun W1 v1 a au s1 l1 r1 aV k1=>hf r W1 au _ k1 its s1 _ E aV he fun W2 v2 b aO s2 l2 r2 cB k2=>
   iO S k2 (r1.mono l2) r2 its s2 Q E cB he (eL (l1.trans l2) kk))
 |UnaryOp op x pos=>
  intro its s Q E hs he kk
  exact aaF (hf x W σ _ h its s _ E hs he fun W1 v1 a au s1 l1 r1 aV k1=>sF S k1 r1 its s1 Q E aV he (eL l1 kk))
 |BoolOp op es p=>
  intro its s Q E hs he kk
  match es,h with
  |[e],h=>exact Ff (hf e W σ _ h its s Q E hs he kk)
  |e1::e2::r,h=>
   have key:∀{W1 v1 sv au s1},W.le W1->VR W1 sv v1->RS c its W1 au s1->(Cr sv fun b l=>match op with
     | .And=>br b l (FE o (.BoolOp .And (e2::r) p) au k) (k sv au)
     | .Or=>br b l (k sv au) (FE o (.BoolOp .Or (e2::r) p) au k))->wpAny (MM c.w) c.A (truthy v1) (match op with
      | .And=>pA c.w c.A c.env (e2::r) p v1 Q E
      | .Or=>xG c.w c.A c.env (e2::r) p v1 Q E) E s1:=fun {W1 v1 sv au s1} l1 r1 aV hk=>by
    refine dz hk r1 fun b l hb=>?_
    cases op with
    |And=>
     refine lD (K:=fun b=>pA _ _ _ _ _ _ _ _ b _) rfl hb (fun hb=>?_) fun hb=>?_
     ·exact HF (hf _ W1 au _ hb its s1 Q E aV he (eL l1 kk))
     ·exact HG (kk W1 v1 sv au s1 l1 r1 aV hb)
    |Or=>
     refine lD (K:=fun b=>xG _ _ _ _ _ _ _ _ b _) rfl hb (fun hb=>?_) fun hb=>?_
     ·exact UN (kk W1 v1 sv au s1 l1 r1 aV hb)
     ·exact UO (hf _ W1 au _ hb its s1 Q E aV he (eL l1 kk))
   cases op with
   |And=>exact v_and (hf e1 W σ _ h its s _ E hs he fun W1 v1 sv au s1 l1 r1 aV k1=>key l1 r1 aV k1)
   |Or=>exact v_or (hf e1 W σ _ h its s _ E hs he fun W1 v1 sv au s1 l1 r1 aV k1=>key l1 r1 aV k1)
 |Compare l ops rs pos=>
  intro its s Q E hs he kk
  match ops,rs,h with
  |[op],[r],h=>
   refine ai h fun g h=>?_
   exact J6 (by simpa using g) (hf l W σ _ h its s _ E hs he fun W1 v1 a au s1 l1 r1 aV k1=>hf r W1 au _ k1 its s1 _ E aV he fun W2 v2 b aO s2 l2 r2 cB k2=>
    eG S k2 (r1.mono l2) r2 its s2 Q E cB he (eL (l1.trans l2) kk))
 |IfExp t a b pos=>
  intro its s Q E hs he kk
  refine DE (hT c o S t W σ _ h its s _ E hs he fun W1 v1 bl au s1 l1 r1 aV k1=>?_)
  refine lD (K:=fun b=>Be _ _ _ _ _ _ _ b _) r1 k1 (fun k1=>?_) fun k1=>?_
  ·exact e_t (hf a W1 au k k1 its s1 Q E aV he (eL l1 kk))
  ·exact e_f (hf b W1 au k k1 its s1 Q E aV he (eL l1 kk))
 |Tuple es kd pos=>
  intro its s Q E hs he kk
  refine DF (cS hf es W σ _ h its s _ E hs he fun W1 vs JG au s1 l1 r1 aV k1=>?_)
  refine ai k1 fun g k1=>?_
  obtain⟨agj,lf,led,hp,gn,tk,e,R⟩:=aV
  have hl:=r1.aX.1
  rw[e]
  exact DP R.Z (by rw[<-hl];exact Nat.le_of_ble_eq_true g) fun x h' Z hg=>kk ⟨W1.ρ,(x,aj vs 0)::W1.D⟩ _ (.tup JG) _ _ (l1.trans (W1.push x _)) ⟨x,vs,0,rfl,.head _,VL.mono (s:=JG) r1 (W1.push x _)⟩ ⟨agj,lf,_,h',gn,tk,rfl,R.push Z⟩ k1
 |List es pos=>
  intro its s Q E hs he kk
  refine J7 (cS hf es W σ _ h its s _ E hs he fun W1 vs JG au s1 l1 r1 aV k1=>?_)
  refine ai k1 fun g k1=>?_
  have hl:=r1.aX
  refine Eg.lst (l:=aX JG) k1 (fun its agj lf led hp gn tk Q E R kk2=>Le R.Z (by rw[<-hl.1];exact Nat.le_of_ble_eq_true g) fun x h' Z hg=>kk2 x 0 vs h' tk Z hg hl) its s1 Q E aV he (eL l1 kk)
 |Subscript v i pos=>
  intro its s Q E hs he kk
  refine v_sub (hf v W σ _ h its s _ E hs he fun W1 v1 a au s1 l1 r1 aV k1=>?_)
  have plain:isSlice i=false->(FE o i au fun b aO=>H8 a b aO fun r=>k r aO)->wpAny (MM c.w) c.A (eval i c.env) (fun i' bw=>wpAny (MM c.w) c.A (subscriptTail v i v1 i') Q E bw) E s1:=fun hi k1=>
   hf i W1 au _ k1 its s1 _ E aV he fun W2 v2 b aO s2 l2 r2 cB k2=>se hi k2 (r1.mono l2) r2 its s2 Q E cB he (eL (l1.trans l2) kk)
  cases i with
  |Slice lo hi st p=>
   refine ai k1 fun g k1=>?_
   exact sN hf g k1 r1 its s1 Q E aV he (eL l1 kk)
  |_=>exact plain rfl k1
 |Call fn es Ea pos=>exact qy S hf h
 |Attribute v a pos=>
  refine ai h fun g h=>?_
  intro its s Q E hs he kk
  exact J9 (XU g) (hf v W σ _ h its s _ E hs he fun W1 v1 a au s1 l1 r1 aV k1=>sA S k1 r1 its s1 Q E aV he (eL l1 kk))
 |ListComp elt gens scope pos=>exact sQ S (fun c o _=>hF c o) hT h
 |_=>exact False.elim h
end
section
variable{c:Cx}{o:Or}
theorem Ir{w:World}{A:Around}{env:Env}{op:CmpOp}{b:Value}{r:Expr}{Q:Bool->Shared->Prop}{E:Value->Shared->Prop}{s:Shared}(k:Q false s):KCh w A env op b r Q E false s:=k
theorem qB{FE:Or->WE}{FT:Or->WT}(hF:∀c o,c8 c o->mK c (FE o))(hT:∀c o,c8 c o->A6 c (FT o))(S:c8 c o):A6 c (stepT FE FT o):=by
 intro e W σ k h
 have hf:=hF c o S
 have ht:=hT c o S
 have plain:bF (plainT e) (FE o e σ fun v au=>Cr v fun b l=>k b l au)->Et c (isTrue e c.env (eval e c.env)) W σ k:=fun h=>by
  refine ai h fun hp h=>?_
  intro its s Q E hs he kk
  have heq:isTrue e c.env (eval e c.env)=(do let v <-eval e c.env;standAt e.pos;holding [v] (truthy v)):=by
   cases e<;>first|rfl|cases hp
  exact fM heq (hf e W σ _ h its s _ E hs he fun W1 v1 sv au s1 l1 r1 aV k1=>dz k1 r1 fun b l hb=>kk W1 b (b,l) au s1 l1 rfl aV hb)
 cases e with
 |UnaryOp op x pos=>
  cases op with
  |Not=>
   intro its s Q E hs he kk
   exact DC (ht x W σ _ h its s _ E hs he fun W1 v1 bl au s1 l1 r1 aV k1=>kk W1 (!v1) (!bl.1,bl.2) au s1 l1 (congrArg (!·) r1) aV k1)
  |_=>exact plain h
 |BoolOp op es p=>
  intro its s Q E hs he kk
  cases es with
  |nil=>
   cases op with
   |And=>exact Fc (kk W true (true,true) σ s (.rfl W) rfl hs h)
   |Or=>exact J2 (kk W false (false,true) σ s (.rfl W) rfl hs h)
  |cons x r=>
   cases op with
   |And=>
    refine J3 (ht x W σ _ h its s _ E hs he fun W1 v1 bl au s1 l1 r1 aV k1=>?_)
    refine lD (K:=fun b=>Bf _ _ _ _ _ _ _ _ b _) r1 k1 (fun k1=>?_) fun k1=>?_
    ·exact J4 (ht _ W1 au _ k1 its s1 Q E aV he (eL l1 kk))
    ·exact J5 (kk W1 false (false,true) au s1 l1 rfl aV k1)
   |Or=>
    refine aaC (ht x W σ _ h its s _ E hs he fun W1 v1 bl au s1 l1 r1 aV k1=>?_)
    refine lD (K:=fun b=>KOr _ _ _ _ _ _ _ _ b _) r1 k1 (fun k1=>?_) fun k1=>?_
    ·exact aaD (kk W1 true (true,true) au s1 l1 rfl aV k1)
    ·exact aaE (ht _ W1 au _ k1 its s1 Q E aV he (eL l1 kk))
 |Compare l ops rs pos=>
  intro its s Q E hs he kk
  match ops,rs,h with
  |[op],[r],h=>
   refine ai h fun g h=>?_
   exact pF (by simpa using g) (hf l W σ _ h its s _ E hs he fun W1 v1 a au s1 l1 r1 aV k1=>hf r W1 au _ k1 its s1 _ E aV he fun W2 v2 b aO s2 l2 r2 cB k2=>
    eG S k2 (r1.mono l2) r2 its s2 _ E cB he fun W3 v3 t dQ s3 l3 r3 mT k3=>dz k3 r3 fun b l hb=>kk W3 b (b,l) dQ s3 ((l1.trans l2).trans l3) rfl mT hb)
  |[HQ,A5],[e1,e2],h=>
   refine ai h fun g h=>?_
   refine UZ (by simpa using g) (hf l W σ _ h its s _ E hs he fun W1 v1 a au s1 l1 r1 aV k1=>hf e1 W1 au _ k1 its s1 _ E aV he fun W2 v2 b aO s2 l2 r2 cB k2=>
    eG S k2 (r1.mono l2) r2 its s2 _ E cB he fun W3 v3 t dQ s3 l3 r3 mT k3=>dz k3 r3 fun b l hb=>?_)
   rcases kc hb with⟨e,hb⟩|⟨e,hb⟩
   ·exact Cj e (hf e2 W3 dQ _ hb its s3 _ E mT he fun W4 v4 d xD s4 l4 r4 G2 k4=>eG S k4 ((r2.mono l3).mono l4) r4 its s4 _ E G2 he fun W5 v5 t JF s5 l5 r5 X7 k5=>dz k5 r5 fun b l hb=>kk W5 b (b,l) JF s5 ((((l1.trans l2).trans l3).trans l4).trans l5) rfl X7 hb)
   ·rw[e];exact Ir (kk W3 false (false,true) dQ s3 ((l1.trans l2).trans l3) rfl mT hb)
 |_=>exact plain h
theorem bQ:∀n,(∀c o,c8 c o->mK c ((ET n).1 o))/\∀c o,c8 c o->A6 c ((ET n).2 o)
 |0=>⟨fun _ _ _ _ _ _ _ h=>False.elim h,fun _ _ _ _ _ _ _ h=>False.elim h⟩
 |n+1=>⟨fun _ _ S=>qA (bQ n).1 (bQ n).2 S,fun _ _ S=>qB (bQ n).1 (bQ n).2 S⟩
end
set_option genSizeOf false
set_option genInjectivity false
inductive SF
 |next
 |ret (v:SV)
 |brk
 |cont
def Iu(W:Wd)(sf:SF)(f:Flow):Prop:=match sf with
 | .next=>f=.next
 | .ret s=>∃v,f=.ret v/\VR W s v
 | .brk=>f=.brk
 | .cont=>f=.cont
noncomputable abbrev K2:=SF->Sg->Prop
noncomputable abbrev WS:=Stmt->Sg->K2->Prop
def sR(f:WS)(b:List Stmt):Sg->K2->Prop:=List.rec (motive:=fun _=>Sg->K2->Prop) (fun σ k=>k .next σ) (fun s _ ih σ k=>f s σ fun sf au=>match sf with
 | .next=>ih au k
 |sf=>k sf au) b
noncomputable def swO(o:Or)(x:Str)(xp:Pos)(e:Expr):Bool:=match e with
 | .ListComp _ _ s p=>o.names.lookup x==some .local&&xp.line==p.line&& !(s.names.any fun q=>q.1==x&&(q.2==.local||q.2==.cell))
 |_=>false
noncomputable def CO(e:Expr):Bool:=e.ctorIdx==8||e.ctorIdx==9||e.ctorIdx==10
noncomputable def Iv(o:Or):Env:=⟨{ (default:Scope) with kind:=.function,names:=o.names},0,0,[],Str.empty,none,.none,none,0⟩
noncomputable def pureO{α:Type}(s:Sem α):Option α:=match s with
 | .pure a=>some a
 |_=>none
noncomputable def swp(o:Or)(t e:Expr):Option (Option (List Str)):=pureO (swappedStores [t] e (Iv o))
def stN(o:Or)(ns:List Str):List SV->Sg->(Sg->Prop)->Prop:=List.rec (motive:=fun _=>List SV->Sg->(Sg->Prop)->Prop)
 (fun l σ k=>match l with
  |[]=>k σ
  |_=>False)
 (fun x _ ih l σ k=>match l with
  |v::vs=>nC o x v σ fun au=>ih vs au k
  |_=>False) ns
def Iw(F:WE)(o:Or)(t:Expr)(e:Expr)(σ:Sg)(k:K2):Prop:=match t with
 | .Name x _=>F e σ fun v au=>nC o x v au fun aO=>k .next aO
 | .Tuple es k0 p0=>af (swp o (.Tuple es k0 p0) e) fun w=>F e σ fun v au=>match w with
  |none=>bF (es.all isNm) (af (oA au v) fun r=>bF ((aX r.1).length==es.length) (Cz (nC o) es (aX r.1) au fun aO=>k .next aO))
  |some ns=>af (pe v) fun r=>bF (ns.length==(aX r).length) (stN o ns.reverse (aX r).reverse au fun aO=>k .next aO)
 | .Subscript a i _=>bF (!CO e) (F e σ fun v au=>F a au fun av aO=>F i aO fun iv dQ=>af (JE av) fun j=>Ih j iv v dQ fun xD=>k .next xD)
 |_=>False
def ipO(o:Or)(op:Operator)(a b:SV)(σ:Sg)(k:K1):Prop:=match a with
 | .int x c=>af (dw b) fun p=>match op with
  | .Add=>wQ op x c p.1 p.2 fun z e=>k (.int z e) σ
  | .Sub=>wQ op x c p.1 p.2 fun z e=>k (.int z e) σ
  | .Mod=>wQ op x c p.1 p.2 fun z e=>k (.int z e) σ
  | .RShift=>wQ op x c p.1 p.2 fun z e=>k (.int z e) σ
  |_=>False
 | .lst i=>match op with
  | .Add=>af σ.T[i]? fun e=>af (oA σ b) fun q=>bF (!e.2&& !q.2&&Nat.ble ((aX e.1).length+(aX q.1).length) 1000) (k (.lst i) (σ.lE i (iN (aX e.1++aX q.1),false)))
  |_=>False
 |_=>False
def X8(F:WE)(o:Or)(t:Expr)(op:Operator)(e:Expr)(σ:Sg)(k:K2):Prop:=match t with
 | .Name x _=>match o.names.lookup x with
  |some .local=>af (σ.l.lookup x) fun v=>F e σ fun v2 au=>ipO o op v v2 au fun r aO=>nC o x r aO fun dQ=>k .next dQ
  |_=>False
 | .Subscript a i _=>bF (!isSlice i) (F a σ fun av au=>F i au fun iv aO=>af (JE av) fun j=>af (dw iv) fun p=>bF (decide (0<=p.1)) (af (oA aO av) fun r=>uH (aX r.1) false p.1 p.2 fun old=>F e aO fun v dQ=>ipO o op old v dQ fun new xD=>Ih j iv new xD fun JF=>k .next JF))
 |_=>False
def JL(bd:Sg->K2->Prop)(st:Str->SV->Sg->(Sg->Prop)->Prop)(target:Expr)(l:List SV):Sg->K2->Prop:=List.rec (motive:=fun _=>Sg->K2->Prop) (fun σ k=>k .next σ)
 (fun s _ ih σ k=>CA st target s σ fun au=>bd au fun sf aO=>match sf with
  | .next=>ih aO k
  | .cont=>ih aO k
  | .brk=>k .next aO
  | .ret v=>k (.ret v) aO) l
noncomputable def isInt(v:Value):Bool:=match v with
 | .type T=>T=="int"
 |_=>false
def rzN(p:Int×IC):Prop:=bF (!(p.2.n==0)&&Nat.ble p.2.n 1900) True
noncomputable def eName(e:Expr):Option Str:=match e with
 | .Name x _=>some x
 |_=>none
noncomputable def Ei(e:Expr):Option (Expr×List Expr×List Keyword):=match e with
 | .Call f es ks _=>some (f,es,ks)
 |_=>none
noncomputable def mV(e:Expr):Option Const:=match e with
 | .Constant c _ _=>some c
 |_=>none
noncomputable def Ej(e:Expr):Option (List Expr):=match e with
 | .JoinedStr l _=>some l
 |_=>none
noncomputable def Yb(e:Expr):Option (Expr×Int×Option Expr):=match e with
 | .FormattedValue v c f _=>some (v,c,f)
 |_=>none
noncomputable def cStr(c:Const):Option Str:=match c with
 | .str s=>some s
 |_=>none
noncomputable def uO(c:Const):Bool:=match c with
 | .none=>true
 |_=>false
noncomputable def CP(s:Stmt):Option Expr:=match s with
 | .Return e _=>e
 |_=>none
noncomputable def two{α:Type}(l:List α):Option (α×α):=match l with
 |[a,b]=>some (a,b)
 |_=>none
noncomputable def jG(e:Expr):Option (Str×Expr):=(Ei e).bind fun q=>bif q.2.2.isEmpty then((eName q.1).bind fun f=>(one q.2.1).map fun a=>(f,a)) else none
def rzV(o:Or)(σ:Sg)(v:Expr):Prop:=match eName v with
 |some x=>af (rZ o σ x) fun v=>af (dw v) rzN
 |none=>af (jG v) fun q=>af (eName q.2) fun x=>af (rZ o σ q.1) fun t=>af (Ie t) fun t=>bF (isInt t) (af (rZ o σ x) fun v=>af (D4 v) fun _=>True)
def rzE(o:Or)(σ:Sg)(e:Expr):Prop:=match mV e with
 |some c=>bF (cStr c).isSome True
 |none=>af (Ej e) fun l=>af (two l) fun q=>af ((mV q.1).bind cStr) fun c1=>af (Yb q.2) fun f=>bF (Nat.ble c1.length 1000&&f.2.1== -1&&f.2.2.isNone) (rzV o σ f.1)
noncomputable def wF(h:ExceptHandler):Option Expr×Option Str×List Stmt:=match h with
 | .ExceptHandler t n b _=>(t,n,b)
noncomputable def trH(hs:List ExceptHandler):Bool:=((one hs).bind fun h=>((wF h).1.bind eName).bind fun x=>(one (wF h).2.2).bind fun s=>((CP s).bind mV).map fun c=>x=="ValueError"&&(wF h).2.1.isNone&&uO c).getD false
def Ek(m:Nat)(f:Or->WS)(o:Or)(s:Stmt)(σ:Sg)(k:K2):Prop:=match s with
 | .Return (some e) _=>(ET m).1 o e σ fun v au=>k (.ret v) au
 | .Return none _=>k (.ret .none) σ
 | .If t b1 b2 _=>(ET m).2 o t σ fun x l au=>br x l (sR (f o) b1 au k) (sR (f o) b2 au k)
 | .Assign [t] e _=>Iw ((ET m).1 o) o t e σ k
 | .AugAssign t op e _=>X8 ((ET m).1 o) o t op e σ k
 | .Expr e _=>bF (!CO e) ((ET m).1 o e σ fun v au=>match v with
  | .none=>k .next au
  |_=>False)
 | .For target iter body [] _=>bF (o.lp&&o.fn&&CC iter) (CB ((ET m).1 o) o (zJ target) iter σ fun l au=>JL (sR (f o) body) (nC o) target l au k)
 | .While test body [] _=>bF o.lp (o.mJ test body σ fun aB=>k .next aB)
 | .Raise (some e) none _=>af (jG e) fun q=>bF (q.1=="ValueError"&&o.names.lookup q.1==some .globalImplicit) (rzE o σ q.2/\o.ry)
 |_=>False
noncomputable def ST(m:Nat)(n:Nat):Or->WS:=Nat.rec (motive:=fun _=>Or->WS) (fun _ _ _ _=>False) (fun _ ih=>Ek m ih) n
noncomputable def CQ(s:Stmt):Option (List Stmt×List ExceptHandler):=match s with
 | .Try body hs o f _=>bif o.isEmpty&&f.isEmpty then some (body,hs) else none
 |_=>none
def Yc(m n:Nat)(o:Or)(p:List Stmt×List ExceptHandler)(σ:Sg)(k:K2):Prop:=bF (trH p.2&&o.tn&&o.ca&&o.fn&&o.lp&&(o.names.lookup (Str.ofString "ValueError")==some .globalImplicit)) (sR (ST m n { o with rz:=∀aB,k (.ret .none) aB,ry:=False,lp:=false,ca:=false}) p.1 σ fun sf au=>match sf with
 | .ret v=>k (.ret v) au
 |_=>False)
def wpF(m n:Nat)(o:Or)(b:List Stmt)(σ:Sg)(k:K2):Prop:=match b with
 |[s]=>match CQ s with
  |some p=>Yc m n o p σ k
  |none=>sR (ST m n o) [s] σ k
 |b=>sR (ST m n o) b σ k
abbrev Ex(c:Cx)(t:Sem Flow)(W:Wd)(σ:Sg)(k:K2):Prop:=Eg Iu c t W σ k
section
variable{c:Cx}{o:Or}{f:WE}{W:Wd}{σ:Sg}
theorem d7(F:FF c o)(hk:c.cs.kind=.function){Im:Led}:Sto c (fun its=>its=Im) (nC o):=by
 intro x v σ k W vv h hv its s Q E hp hs kk
 obtain⟨agj,lf,led,Ct,gn,tk,e,R⟩:=hs
 unfold nC at h
 rw[F.names] at h
 rw[F.env,e]
 have Z:=R.Z
 cases hn:c.cs.names.lookup x with
 |none=>rw[hn] at h;exact False.elim h
 |some kd=>
  rw[hn] at h
  cases kd with
  |«local»=>
   rw[F.ms] at Z
   refine yE Z hk hn fun h' Z'=>?_
   exact kk its W _ _ hp (.rfl W) ⟨agj,(x,vv)::lf,led,h',gn,tk+1,rfl,R.loc hv (by rw[F.ms];exact Z') (F.Io _ _)⟩ h
  |cell=>
   refine ai h fun g h=>?_
   obtain⟨a,oa,k1,k2,k3,k4,k5,k6⟩:=R.ur x (beq_iff_eq.mp g)
   have k1':=k1
   rw[F.kg] at k1'
   refine UW Z k1' (fun S=>bV S k2) k4 k3 hk hn fun h' o' Z' hd=>?_
   have T1:=R.turn (aB:={ σ with u:=none}) (its':=its) k2 k4 k5 (zj:=lf) Z' R.lr rfl (fun y hy=>no hy) R.fr R.tl (fun i y e h1 h2=>?_) (fun p hp=>.inl ⟨hp,k6 p hp⟩) R.fF
   ·have T2:=T1.fact (aB:={ σ with c:=(x,v)::σ.c,u:=none}) (jl k2) k4 k6 rfl (fun y t hy=>?_) (fun y hy=>no hy) R.tl (fun i y e h1 h2=>?_)
    ·exact kk its _ _ _ hp (W.push a o') ⟨agj,lf,_,h',gn,tk,rfl,T2⟩ h
    ·by_cases JJ:y=x
     ·have hy:((x,v)::σ.c).lookup y=some t:=hy
      rw[JJ,List.lookup_cons,beq_self_eq_true] at hy
      rw[JJ]
      exact .inr ⟨vv,k1,hd,Option.some.inj hy▸hv⟩
     ·have hy:((x,v)::σ.c).lookup y=some t:=hy
      rw[List.lookup_cons,beq_false_of_ne JJ] at hy
      exact .inl hy
    ·refine .inl ⟨h2,fun e2 e3=>?_⟩
     have q:=T1.ta i y e h1 h2
     obtain⟨s,b⟩:=e
     cases e2
     obtain⟨⟨vs,n,hm,_⟩,_⟩:=q
     rw[e3] at hm
     have:=T1.uq hm (jl k2)
     rw[<-this] at hd
     cases hd
   ·by_cases hy:y=a
    ·have q:=R.ta i y e h1 h2
     obtain⟨s,b⟩:=e
     cases b with
     |true=>exact .inl ⟨hy,q⟩
     |false=>
      obtain⟨⟨vs,n,hm,_⟩,_⟩:=q
      rw[hy] at hm
      rw[R.uq k2 hm] at k3
      cases k3
    ·exact .inr ⟨hy,h2⟩
  |_=>exact False.elim h
theorem nH(F:FF c o)(hk:c.cs.kind=.function){its:Led}:∀(ns:List Str) (l:List SV) (vs:List Value) W σ k,stN o ns l σ k->VA W l vs->∀s (Q:Unit->Shared->Prop) E,RS c its W σ s->(∀W' aB s',W.le W'->RS c its W' aB s'->k aB->Q () s')->wpAny (MM c.w) c.A (assignInOrder (ns.map fun n=>bindName c.env n) vs) Q E s
 |[],l,vs,W,σ,k,h,hv,s,Q,E,hs,kk=>by
  cases l with
  |nil=>exact assignInOrder_nil (kk W σ s (.rfl W) hs h)
  |cons _ _=>exact False.elim h
 |x::r,l,vs,W,σ,k,h,hv,s,Q,E,hs,kk=>by
  cases l with
  |nil=>exact False.elim h
  |cons a l=>
   obtain⟨v,vr,ev,k1,k2⟩:=hv.head
   have h:nC o x a σ fun au=>stN o r l au k:=h
   rw[ev]
   exact assignInOrder_cons (t:=fun v=>bindName c.env x v) (bindName_ (d7 F hk x a σ _ W v h k1 its s _ E rfl hs fun its' W' aB s' e l' cM fJ=>nH F hk r l vr W' aB k fJ (k2.mono l') s' Q E (e▸cM) fun W2 aO s2 l2 cB ja=>kk W2 aO s2 (l'.trans l2) cB ja))
theorem VA.rev{W:Wd}{l:List SV}{vs:List Value}(h:VA W l vs):VA W l.reverse vs.reverse:=by
 refine⟨by rw[List.length_reverse,List.length_reverse,h.1],fun i s e=>?_⟩
 obtain⟨hi,_⟩:=List.getElem?_eq_some_iff.mp e
 rw[List.length_reverse] at hi
 rw[List.getElem?_reverse hi] at e
 rw[List.getElem?_reverse (h.1▸hi),<-h.1]
 exact h.2 _ s e
theorem lO{i:Nat}{x v:SV}{vl vx vv:Value}{k:Sg->Prop}(h:Ih i x v σ k)(hl:VR W (.lst i) vl)(hx:VR W x vx)(hv:VR W v vv){its:Led}{s:Shared}{Q:Unit->Shared->Prop}{E:Value->Shared->Prop}(hs:RS c its W σ s)(kk:∀aB s',RS c its W aB s'->k aB->Q () s'):wpAny (MM c.w) c.A (setItem vl vx vv) Q E s:=by
 obtain⟨⟨t,b⟩,hT,h⟩:=aH h
 refine aa h fun p h1 h=>?_
 refine ai h fun g h=>?_
 have g1:=nb g
 have g2:=nb g1.1
 have g3:=nb g2.1
 have g4:=nb g3.1
 have hb:b=false:=by simpa using g4.1
 rw[hb] at hT
 rw[bL h1] at hx
 obtain⟨u,e1,_⟩:=hx
 obtain⟨agj,lf,led,hp,gn,tk,y,vs,n,e,R,e2,hy,hm,jM,hg⟩:=hs.lst hl hT
 have Gh:(aX t).length<=1000:=Nat.le_of_ble_eq_true g4.2
 have cO:p.1<((aX t).length:Int):=of_decide_eq_true g1.2
 rw[e,e1,e2]
 refine GX R.Z (fun S=>bV S hm) hg (of_decide_eq_true g2.2) (by rw[<-jM.1];exact Gh) (by rw[<-jM.1];exact cO) fun h' Z=>?_
 exact kk _ _ ⟨agj,lf,_,h',gn,tk,rfl,R.Cm hy hT hm (VA.iN (jM.set hv _)) Z⟩ h
theorem nJ{op:Operator}{a b:SV}{va vb:Value}{k:K1}(h:ipO o op a b σ k)(ha:VR W a va)(hb:VR W b vb):Ev c (inplaceOp op va vb) W σ k:=by
 cases a with
 |int x i=>
  refine aa h fun p h1 h=>?_
  rw[bL h1] at hb
  obtain⟨t,e1,hx⟩:=ha
  obtain⟨u,e2,hy⟩:=hb
  rw[e1,e2]
  cases op<;>try exact False.elim h
  case Add=>exact cH (eW (zp hx hy)) h fun h gn dr tk os Q E kk=>Fg (kk _ _)
  case Sub=>exact cH (eW (zq hx hy)) h fun h gn dr tk os Q E kk=>Fi (kk _ _)
  case Mod=>
   refine ai h fun b h=>?_
   have p0:=hy.pos b
   exact cH (eW (.of0 (fun e=>Sm.fmod (hy.s e) p0) fun _=>Int.fmod_nonneg_of_pos _ p0)) h fun h gn dr tk os Q E kk=>Fy (lu p0) (kk _ _)
  case RShift=>
   refine ai h fun b h=>?_
   exact cH (.of0 (fun e=>absurd rfl e) fun e=>ow (hx.p e) (Int.pow_nonneg (by decide))) h fun h gn dr tk os Q E kk=>Fj (hy.p b) (kk _ _)
 |lst i=>
  cases op<;>try exact False.elim h
  obtain⟨⟨t,b⟩,hT,h⟩:=aH h
  refine aa h fun q h2 h=>?_
  refine ai h fun g h=>?_
  have g1:=nb g
  have g2:=nb g1.1
  have hb0:b=false:=by simpa using g2.1
  rw[hb0] at hT
  intro its s Q E hs he kk
  obtain⟨agj,lf,led,hp,gn,tk,x,vs,n,e,R,e1,hx,hm,jM,hg⟩:=hs.lst ha hT
  obtain⟨y,us,ob,e2,hv,pV,_,_,hf⟩:=R.sq hb h2
  obtain⟨n2,e3⟩:=hf (by simpa using g2.2)
  have hv:=hv.aX
  have hz:(aX t).length+(aX q.1).length<=1000:=Nat.le_of_ble_eq_true g1.2
  rw[e3] at pV
  rw[e1] at ha
  rw[e1,e2,e]
  refine BU R.Z (fun S=>bV S hm) hg pV (by rw[<-jM.1,<-hv.1];exact hz) fun h' n' Z=>?_
  exact kk W _ (.lst i) _ _ (.rfl W) ha ⟨agj,lf,_,h',gn,tk,rfl,R.Cm hx hT hm (VA.iN (jM.app hv)) Z⟩ h
 |_=>exact False.elim h
end
def Yd(c:Cx)(f:WS):Prop:=∀s W σ k,f s σ k->Ex c (exec s c.env) W σ k
section
variable{c:Cx}{o:Or}{f:WE}{W:Wd}{σ:Sg}
theorem sS{e:Expr}{t:Option Expr}{ln:Nat}{env:Env}(h:(!CO e)=true):swapsWith e t ln env=pure false:=by
 cases e<;>first|rfl|cases h
end
theorem Iz{α:Type}{s:Sem α}{a:α}(h:pureO s=some a):s=.pure a:=by
 cases s
 case pure b=>exact congrArg Sem.pure (Option.some.inj h)
 all_goals exact(nomatch (show none=some a from h))
theorem adV{c:Cx}{o:Or}{t e:Expr}{w:Option (List Str)}(F:FF c o)(hk:c.cs.kind=.function)(h:swp o t e=some w):swappedStores [t] e c.env=pure w:=by
 refine Eq.trans ?_ (Iz h)
 have h1:c.env.blockKind=(Iv o).blockKind:=by
  rw[F.env]
  show(if c.cs.kind.isAnnotationScope then ScopeKind.function else c.cs.kind)=.function
  rw[hk]
  rfl
 have h2:c.env.kindOf=(Iv o).kindOf:=by
  rw[F.env]
  show(fun x=>c.cs.names.lookup x)=fun x=>o.names.lookup x
  rw[F.names]
 unfold swappedStores
 rw[h1,h2]
section
variable{c:Cx}{o:Or}{f:WE}{W:Wd}{σ:Sg}
theorem uP{x:Str}{xp pos:Pos}{elt:Expr}{gens:List Comprehension}{scope:Scope}{ln:Nat}(F:FF c o)(hk:c.cs.kind=.function){b:Bool}(h:swO o x xp (.ListComp elt gens scope pos)=b):swapsWith (.ListComp elt gens scope pos) (some (.Name x xp)) ln c.env=pure b:=by
 have e:swapsWith (.ListComp elt gens scope pos) (some (.Name x xp)) ln c.env=pure (c.env.blockKind==.function&&c.env.kindOf x==some .local&&xp.line==pos.line&& !(scope.names.any fun(n,k)=>n==x&&(k==.local||k==.cell))):=rfl
 have hb:(c.env.blockKind==.function)=true:=by
  rw[F.env]
  show((if c.cs.kind.isAnnotationScope then ScopeKind.function else c.cs.kind)==.function)=true
  rw[hk]
  rfl
 have hn:c.env.kindOf x=o.names.lookup x:=by rw[F.env,F.names];rfl
 rw[e,hb,hn,Bool.true_and,<-h]
 rfl
theorem lP(S:c8 c o){FE:Or->WE}{FT:Or->WT}(hF:∀c' o',c'.base=c.base->c8 c' o'->mK c' (FE o'))(hT:∀c o,c8 c o->A6 c (FT o)){x:Str}{xp pos xY:Pos}{elt:Expr}{gens:List Comprehension}{scope:Scope}{k:K2}
  (FN:swO o x xp (.ListComp elt gens scope pos)=true) (h:CD FE FT o elt gens scope σ fun v au=>nC o x v au fun aO=>k .next aO):Ex c (exec (.Assign [.Name x xp] (.ListComp elt gens scope pos) xY) c.env) W σ k:=by
 match gens,h with
 |[g],h=>
  refine ai h fun b h=>?_
  intro its s Q E hs he kk
  have K:=X5 S b hs
  have hx:o.names.lookup x=some .local:=by
   have q:=nb (nb FN).1
   simpa using q.1
  have FN:=uP (pos:=pos) (ln:=xY.line) K.F S.ok.hk FN
  rw[K.as] at FN⊢
  refine FJ K.X4 FN (zP K.it) K.kind K.names (iQ S (hF c o rfl S) K.F.fr h hs he fun W1 I oI bG l nm au s1 l1 aV hI zR JK iE nG=>?_)
  refine ai nG fun hu nG=>?_
  have hu:=Option.isNone_iff_eq_none.mp hu
  obtain⟨agj,lf,led,hp,gn,tk,e,R⟩:=aV
  rw[e]
  refine lN K.F S hF hT K.kind K.ifs K.cell hu R hI zR JK iE nG fun W2 aO bE Ip yK Jz uo C oC X3 D l2 R2 ns hD ja=>?_
  have fF:=(List.pairwise_cons.mp R2.fF).1
  have hm:=(R2.il _ (.head _)).1
  have Z2:=R2.Z
  rw[K.F.ms] at Z2
  rw[K.F.env]
  have iJ:(envX c.cn c.cs c.L c.a c.aJ c.cl).kindOf x=some .local:=by rw[<-hx,K.F.names];rfl
  refine BN Z2 hm ns (oq R2.Z.S hm) S.ok.hk iJ fun h' Z'=>?_
  unfold nC at ja
  rw[hx] at ja
  have T:=R2.D6 (.head _) (by rw[K.F.ms];exact Z') (K.F.Io _ _) (R2.lrv (x:=x) hD)
  rw[uM fF] at T
  exact kk W2 .next .next _ _ (l1.trans l2) rfl ⟨bE,(x,.ref D)::lf,_,h',Jz,uo+1,rfl,T⟩ ja
theorem sU(S:c8 c o)(F:FF c o){FE:Or->WE}{FT:Or->WT}(hF:∀c o,c8 c o->mK c (FE o))(hT:∀c o,c8 c o->A6 c (FT o)){n:Nat}(hE:FE=(ET (n+1)).1)(hE0:∀c o,c8 c o->mK c ((ET n).1 o))(hT0:∀c o,c8 c o->A6 c ((ET n).2 o)){t e:Expr}{pos:Pos}{k:K2}(h:Iw (FE o) o t e σ k):Ex c (exec (.Assign [t] e pos) c.env) W σ k:=by
 have hf:=hF c o S
 cases t with
 |Name x xp=>
  have h:FE o e σ fun v au=>nC o x v au fun aO=>k .next aO:=h
  have plain:swapsWith e (some (.Name x xp)) pos.line c.env=pure false->Ex c (exec (.Assign [.Name x xp] e pos) c.env) W σ k:=fun qv=>by
   intro its s Q E hs he kk
   exact JZ qv (hf e W σ _ h its s _ E hs he fun W1 v sv au s1 l1 r1 aV k1=>d7 F S.ok.hk x sv au _ W1 v k1 r1 its s1 _ E rfl aV fun its' W' aB s' e l cM fJ=>kk W' .next .next aB s' (l1.trans l) rfl (e▸cM) fJ)
  by_cases hc:CO e=true
  ·cases e with
   |ListComp elt gens scope p=>
    cases hw:swO o x xp (.ListComp elt gens scope p) with
    |true=>rw[hE] at h;exact lP S (fun c o _=>hE0 c o) hT0 hw h
    |false=>exact plain (uP F S.ok.hk hw)
   |_=>first|(rw[hE] at h;exact False.elim h)|cases hc
  ·exact plain (sS (by rw[Bool.not_eq_true] at hc;rw[hc];rfl))
 |Tuple es kd tp=>
  refine aa h fun w h1 h=>?_
  have hw:=adV F S.ok.hk h1
  have qv:swapsWithSole [.Tuple es kd tp] e pos.line c.env=pure false:=show swapsWith e (some (.Tuple es kd tp)) pos.line c.env=pure false by cases e<;>rfl
  intro its s Q E hs he kk
  cases w with
  |none=>
   refine FD qv hw (hf e W σ _ h its s _ E hs he fun W1 v sv au s1 l1 r1 aV k1=>?_)
   refine ai k1 fun g2 k1=>?_
   exact iU (d7 F S.ok.hk) g2 k1 r1 its s1 _ E rfl aV fun its' W' aB s' e l cM fJ=>kk W' .next .next aB s' (l1.trans l) rfl (e▸cM) fJ
  |some ns=>
   refine Assign_Tuple_swapped (names:=ns) (hf e W σ _ h its s _ E hs he fun W1 v sv au s1 l1 r1 aV k1=>?_) qv hw
   refine aa k1 fun r h2 k1=>?_
   refine ai k1 fun g2 k1=>?_
   rw[gK h2] at r1
   obtain⟨y,vs,n,e1,hm,hv⟩:=r1
   have hv:VA W1 _ _:=VL.aX (s:=r) hv
   obtain⟨agj,lf,led,hp,gn,tk,e2,R⟩:=aV
   rw[e1,e2]
   refine Lf R.Z (R.dl _ hm) rfl (by rw[<-hv.1];exact beq_iff_eq.mp g2) fun h' Z'=>?_
   exact nH F S.ok.hk ns.reverse _ _ W1 au _ k1 hv.rev _ _ E ⟨agj,lf,led,h',gn,tk,rfl,R.same Z'⟩ fun W' aB s' l cM fJ=>kk W' .next .next aB s' (l1.trans l) rfl cM fJ
 |Subscript a i tp=>
  refine ai h fun g h=>?_
  intro its s Q E hs he kk
  refine Fb (sS g) (hf e W σ _ h its s _ E hs he fun W1 v sv au s1 l1 r1 aV k1=>hf a W1 au _ k1 its s1 _ E aV he fun W2 av sa aO s2 l2 r2 cB k2=>hf i W2 aO _ k2 its s2 _ E cB he fun W3 iv si dQ s3 l3 r3 mT k3=>?_)
  refine aa k3 fun j h1 k3=>?_
  rw[zH h1] at r2
  exact lO k3 (r2.mono l3) r3 ((r1.mono l2).mono l3) mT fun aB s' cM fJ=>kk W3 .next .next aB s' ((l1.trans l2).trans l3) rfl cM fJ
 |_=>exact False.elim h
theorem sV(S:c8 c o)(F:FF c o)(hf:mK c f){t e:Expr}{op:Operator}{pos:Pos}{k:K2}(h:X8 f o t op e σ k):Ex c (exec (.AugAssign t op e pos) c.env) W σ k:=by
 cases t with
 |Name x xp=>
  have h:(match o.names.lookup x with
   |some .local=>af (σ.l.lookup x) fun v=>f e σ fun v2 au=>ipO o op v v2 au fun r aO=>nC o x r aO fun dQ=>k .next dQ
   |_=>False):=h
  cases hn:o.names.lookup x with
  |none=>rw[hn] at h;exact False.elim h
  |some kd=>
   rw[hn] at h
   cases kd with
   |«local»=>
    refine aa h fun sv h1 h=>?_
    intro its s Q E hs he kk
    obtain⟨agj,lf,led,hp,gn,tk,e2,R⟩:=hs
    obtain⟨v,a,b⟩:=R.lr x sv h1
    have Z:=R.Z
    rw[F.ms] at Z
    have hx:(envX c.cn c.cs c.L c.a c.aJ c.cl).kindOf x=some .local:=by rw[<-hn,F.names];rfl
    rw[e2]
    refine J0 ?_
    rw[F.env]
    refine Fp Z.F a S.ok.hk hx ?_
    rw[<-F.env]
    refine hf e W σ _ h its _ _ E ⟨agj,lf,led,hp,gn,tk,rfl,R⟩ he fun W1 v1 s1v au s1 l1 r1 aV k1=>?_
    exact nJ k1 (b.mono l1) r1 its s1 _ E aV he fun W2 v2 sr aO s2 l2 r2 cB k2=>d7 F S.ok.hk x sr aO _ W2 v2 k2 r2 its s2 _ E rfl cB fun its' W' aB s' e l cM fJ=>kk W' .next .next aB s' ((l1.trans l2).trans l) rfl (e▸cM) fJ
   |_=>exact False.elim h
 |Subscript a i tp=>
  refine ai h fun g h=>?_
  intro its s Q E hs he kk
  refine G3 (hf a W σ _ h its s _ E hs he fun W1 av sa au s1 l1 r1 aV k1=>hf i W1 au _ k1 its s1 _ E aV he fun W2 iv si aO s2 l2 r2 cB k2=>?_) (fun ov iv new=>by cases i<;>first|rfl|cases g)
  refine aa k2 fun j h1 k2=>?_
  refine aa k2 fun p h2 k2=>?_
  refine ai k2 fun g0 k2=>?_
  refine aa k2 fun r h3 k2=>?_
  obtain⟨hl,f1,f2,f3,jj,s0,t0,q1,q4,q2,gt,hk⟩:=zA (W:=W2) k2
  have r1':=r1.mono l2
  have adW:=cB
  obtain⟨agj,lf,led,hp,gn,tk,e2,R⟩:=adW
  obtain⟨x,vs,ob,e3,hv,hm,_,_,hf2⟩:=R.sq r1' h3
  have hb:r.2=false:=by
   rw[zH h1] at h3
   obtain⟨y,_,e4⟩:=Option.map_eq_some_iff.mp h3
   rw[<-e4]
  obtain⟨n,e4⟩:=hf2 hb
  rw[e4] at hm
  have hv:=hv.aX
  obtain⟨v0,H9,XA⟩:=hv.2 jj s0 q2
  have r2':=r2
  rw[bL h2] at r2
  obtain⟨u,e5,_⟩:=r2
  have x0:=of_decide_eq_true g0
  have key:=hf e W2 aO _ hk its s2 (fun v pR=>wpAny (MM c.w) c.A (inplaceOp op v0 v) (fun new G4=>wpAny (MM c.w) c.A (setItem av iv new) (fun _=>Q .next) E G4) E pR) E cB he fun W3 v3 s3v dQ s3 l3 r3 mT k3=>
   nJ k3 ((gt v0 XA).mono l3) r3 its s3 _ E mT he fun W4 v4 s4v xD s4 l4 r4 G2 k4=>by
    have ra:=(r1'.mono l3).mono l4
    rw[zH h1] at ra
    exact lO k4 ra ((r2'.mono l3).mono l4) r4 G2 fun aB s' cM fJ=>kk W4 .next .next aB s' (((l1.trans l2).trans l3).trans l4) rfl cM fJ
  rw[e2] at key⊢
  rw[e3,e5] at key⊢
  exact G5 R.Z.N hm x0 (zu f2) (by rw[q4 x0];exact H9) key
 |_=>exact False.elim h
end
structure Cal(c:Cx)(dp un:Nat)(cn:Str)(cs:Scope)(L a:Addr)(aJ:Value)(cl:List (Str×Addr))(outer:List Env):Prop where
 e1:c.dp=dp+1
 e2:c.un=un+3
 e3:c.outer=envX cn cs L a aJ cl::outer
 e4:c.A₀=ktrTop dp un c.gd cn cs L a aJ cl outer
 e5:c.cl=[]
def YR(c:Cx):Prop:=c.ry->c.turn=false/\∃dp un cn cs L a aJ cl outer hC mC,Cal c dp un cn cs L a aJ cl outer/\Fr hC L c.g0 mC/\∀E,c.ex E->∃eY,E=BE c.w c.A c.env eY/\yO c.base (envX cn cs L a aJ cl::outer) hC L mC c.nw c.dr c.os eY
structure q8(c:Cx)(o:Or):Prop where
 S:c8 c o
 F:FF c o
 be:o.lp=true->∀E,c.ex E->∃eY,E=BE c.w c.A c.env eY
 ry:o.ry->c.ry
 yr:YR c
 ca:o.ca=true->∃dp un cn cs L a aJ cl outer,Cal c dp un cn cs L a aJ cl outer
 wh:o.lp=true->∀W σ k test body pos,o.mJ test body σ k->Ex c (exec (.While test body [] pos) c.env) W σ fun sf aB=>sf=.next/\k aB
section
variable{c:Cx}{o:Or}{W:Wd}{σ:Sg}
theorem d8{f:WS}(hf:Yd c f):∀b W σ k,sR f b σ k->Ex c (execs b c.env) W σ k
 |[],W,σ,k,h=>fun its s Q E hs he kk=>fu (kk W .next .next σ s (.rfl W) rfl hs h)
 |t::r,W,σ,k,h=>fun its s Q E hs he kk=>by
  refine bI (hf t W σ _ h its s _ E hs he fun W1 f1 sf1 au s1 l1 r1 aV k1=>?_)
  cases sf1 with
  |next=>rw[show f1=.next from r1];exact bZ (d8 hf r W1 au k k1 its s1 Q E aV he fun W2 f2 sf2 aO s2 l2 r2 cB k2=>kk W2 f2 sf2 aO s2 (l1.trans l2) r2 cB k2)
  |ret v=>obtain⟨u,e,hu⟩:=r1;rw[e];exact je (kk W1 _ (.ret v) au s1 l1 ⟨u,rfl,hu⟩ aV k1)
  |brk=>rw[show f1=.brk from r1];exact JY (kk W1 _ .brk au s1 l1 rfl aV k1)
  |cont=>rw[show f1=.cont from r1];exact E7 (kk W1 _ .cont au s1 l1 rfl aV k1)
noncomputable def lpG(ih:Sg->K2->Prop)(k:K2):K2:=fun sf aO=>match sf with
 | .next=>ih aO k
 | .cont=>ih aO k
 | .brk=>k .next aO
 | .ret v=>k (.ret v) aO
theorem RS.fgB(F:FF c o){its bG:Led}{s:Shared}(h:RS c (bG++its) W σ s):RS c its W σ s:=
 let⟨agj,lf,led,hp,gn,tk,e,R⟩:=h
 ⟨agj,lf,led,hp,gn,tk,e,R.fgs (List.sublist_append_right _ _) (F.Io _ _)⟩
theorem frF(F:FF c o){pre bG its:Led}:FrK c pre bG its W σ:=fun _ _=>F.Io _ _
theorem xd(F:FF c o)(hk:c.cs.kind=.function){bd:Sg->K2->Prop}{body:List Stmt}(hb:∀W σ k,bd σ k->Ex c (execs body c.env) W σ k){I:Addr}{its:Led}{L:List SV}{target:Expr}{k:K2}{Q:Flow->Shared->Prop}{eY:Value->Shared->Prop}{nm:Bool}(zR:(nm||zJ target)=true)(he:c.ex (BE c.w c.A c.env eY)):
  ∀(r:List SV) (i:Nat),i+r.length=L.length->(∀j,r[j]?=L[i+j]?)->∀W σ s bG,JL bd (nC o) target r σ k->RS c (bG++its) W σ s->ItS c.w W I L nm i bG->(∀W' v b aB s',W.le W'->Iu W' b v->RS c its W' aB s'->k b aB->Q v s')->FL c.w c.A (BE c.w c.A c.env eY) target body c.env Q (.ref I) s:=by
 intro r
 induction r with
 |nil=>
  intro i hl hg W σ s bG h hs hit kk
  obtain⟨It,hI,hit⟩:=hit
  have hi:i=L.length:=hl
  rw[hi] at hit
  exact jh (hI.fin (pre:=[]) rfl (frF F) hit hs fun CH cM=>tQ (kk W .next .next σ _ (.rfl W) rfl cM h))
 |cons s0 r ih=>
  intro i hl hg W σ s bG h hs hit kk
  obtain⟨It,hI,hit⟩:=hit
  have h:CA (nC o) target s0 σ fun au=>bd au (lpG (JL bd (nC o) target r) k):=h
  refine jh (hI.nxt (pre:=[]) rfl (frF F) hit (by rw[show L[i]?=L[i+0]? from rfl,<-hg 0];rfl) hs fun v W0 b1 s0' l0 hv qv hn Fq=>?_)
  have run:∀W1 au s1 b1,W.le W1->RS c (b1++its) W1 au s1->It (i+1) b1 W1->bd au (lpG (JL bd (nC o) target r) k)->wpAny (MM c.w) c.A (execs body c.env) (rJ Q (FL c.w c.A (BE c.w c.A c.env eY) target body c.env Q (.ref I))) (BE c.w c.A c.env eY) s1:=fun W1 au s1 b1 l1 aV uN nG=>
   hb W1 au _ nG _ s1 _ _ aV he fun W2 f2 sf aO s2 l2 r2 cB k2=>by
    have again:JL bd (nC o) target r aO k->FL c.w c.A (BE c.w c.A c.env eY) target body c.env Q (.ref I) s2:=fun k2=>
     ih (i+1) (by rw[<-hl];simp;exact Nat.add_right_comm _ _ _) (fun j=>by have:=hg (j+1);rw[List.getElem?_cons_succ] at this;rw[this];congr 1;exact zQ) W2 aO s2 b1 k2 cB ⟨It,hI,hI.mono uN l2⟩ fun W' v b aB s' l'=>kk W' v b aB s' ((l1.trans l2).trans l')
    cases sf with
    |next=>rw[show f2=.next from r2];exact nW (again k2)
    |cont=>rw[show f2=.cont from r2];exact Br (again k2)
    |brk=>rw[show f2=.brk from r2];exact FU (kk W2 .next .next aO s2 (l1.trans l2) rfl (cB.fgB F) k2)
    |ret u=>obtain⟨w,e,hu⟩:=r2;rw[e];exact rL (kk W2 _ (.ret u) aO s2 (l1.trans l2) ⟨w,rfl,hu⟩ (cB.fgB F) k2)
  clear ih
  cases target with
  |Name x p=>
   have h:nC o x s0 σ fun au=>bd au (lpG (JL bd (nC o) (.Name x p) r) k):=h
   have uN:=hn (Bool.or_false nm▸(zR:(nm||false)=true))
   exact Bq (d7 F hk x s0 σ _ W0 v h hv _ _ _ _ rfl qv fun its' W' aB s' e l' cM fJ=>run W' aB s' b1 (l0.trans l') (e▸cM) (hI.mono uN l') fJ)
  |Tuple es k0 p=>
   refine ai h fun g h=>?_
   refine rK (Fq fun b2 s2 uN cB=>?_)
   exact iU (d7 F hk) g h hv _ _ _ _ rfl cB fun its' W' aB s' e l' cM fJ=>run W' aB s' b2 (l0.trans l') (e▸cM) (hI.mono uN l') fJ
  |_=>exact False.elim h
end
section
variable{c:Cx}{o:Or}{W:Wd}{σ:Sg}
theorem CR{e:Expr}{env:Env}(h:(!isStar e)=true):starEach [e] env=[(false,eval e env)]:=bh h
theorem IA{t:Value}(h:isInt t=true):t=.type "int":=by
 cases t with
 |type T=>rw[beq_iff_eq.mp (h:(T=="int")=true)]
 |_=>cases h
theorem fU{e:Expr}{x:Str}(h:eName e=some x):∃p,e=.Name x p:=by
 cases e with
 |Name y p=>exact⟨p,by rw[Option.some.inj h]⟩
 |_=>exact no h
theorem IB{e:Expr}{q:Expr×List Expr×List Keyword}(h:Ei e=some q):∃p,e=.Call q.1 q.2.1 q.2.2 p:=by
 cases e with
 |Call f es ks p=>exact⟨p,by rw[<-Option.some.inj h]⟩
 |_=>exact no h
theorem zT{e:Expr}{q:Const}(h:mV e=some q):∃k p,e=.Constant q k p:=by
 cases e with
 |Constant c k p=>exact⟨k,p,by rw[<-Option.some.inj h]⟩
 |_=>exact no h
theorem ID{e:Expr}{q:List Expr}(h:Ej e=some q):∃p,e=.JoinedStr q p:=by
 cases e with
 |JoinedStr l p=>exact⟨p,by rw[<-Option.some.inj h]⟩
 |_=>exact no h
theorem Ye{e:Expr}{q:Expr×Int×Option Expr}(h:Yb e=some q):∃p,e=.FormattedValue q.1 q.2.1 q.2.2 p:=by
 cases e with
 |FormattedValue v c f p=>exact⟨p,by rw[<-Option.some.inj h]⟩
 |_=>exact no h
theorem El{c:Const}{s:Str}(h:cStr c=some s):c=.str s:=by
 cases c with
 |str t=>rw[Option.some.inj h]
 |_=>exact no h
theorem zU{α:Type}{l:List α}{a:α}(h:one l=some a):l=[a]:=match l,h with
 |[b],h=>by rw[Option.some.inj h]
theorem Yg{α:Type}{l:List α}{a:α×α}(h:two l=some a):l=[a.1,a.2]:=match l,h with
 |[b,c],h=>by rw[<-Option.some.inj h]
theorem kh{e:Expr}{q:Str×Expr}(h:jG e=some q):∃p1 p2,e=.Call (.Name q.1 p1) [q.2] [] p2:=by
 refine ah h fun r h1 h=>?_
 obtain⟨p2,e1⟩:=IB h1
 cases hb:r.2.2.isEmpty with
 |false=>rw[hb] at h;exact no h
 |true=>
  rw[hb] at h
  obtain⟨f,h2,h⟩:=iD (show((eName r.1).bind fun f=>(one r.2.1).map fun a=>(f,a))=some q from h)
  obtain⟨a,h3,h⟩:=Option.map_eq_some_iff.mp h
  obtain⟨p1,e2⟩:=fU h2
  rw[e2,zU h3,List.isEmpty_iff.mp hb] at e1
  exact⟨p1,p2,by rw[e1,<-h]⟩
theorem xe(F:FF c o)(ok:mH c o.cd o.cu)(hP:o.P=c.w.params){e:Expr}(h:rzE o σ e){its:Led}{agj:Heap}{lf:List (Str×Value)}{led:Led}{hp:Heap}{gn:Array GenState}(R:RR c its W σ agj lf led hp gn):
  (!isStar e)=true/\∀(E:Value->Shared->Prop) tk,wpAny (MM c.w) c.A (eval e c.env) (fun _ aC=>∃aN,aC=⟨hp,gn,c.dr,aN,c.os⟩) E ⟨hp,gn,c.dr,tk,c.os⟩:=by
 unfold rzE at h
 cases hc:mV e with
 |some cc=>
  rw[hc] at h
  obtain⟨g,_⟩:=gM (show bF (cStr cc).isSome True from h)
  obtain⟨s,hs⟩:=Option.isSome_iff_exists.mp g
  obtain⟨k,p,e1⟩:=zT hc
  rw[e1,El hs]
  exact⟨rfl,fun E tk=>wpAny_Constant_str ⟨_,rfl⟩⟩
 |none=>
  rw[hc] at h
  refine aa h fun l h1 h=>?_
  refine aa h fun q h2 h=>?_
  refine aa h fun c1 h3 h=>?_
  refine aa h fun f h4 h=>?_
  refine ai h fun g h=>?_
  obtain⟨p,e1⟩:=ID h1
  refine ah h3 fun cc h5 h6=>?_
  obtain⟨k1,p1,e2⟩:=zT h5
  obtain⟨p2,e3⟩:=Ye h4
  have g1:=nb g
  have g2:=nb g1.1
  have xU:f.2.1= -1:=by simpa using g2.2
  rw[e1,Yg h2,e2,e3,El h6,xU,Option.isNone_iff_eq_none.mp g1.2]
  refine⟨rfl,fun E tk=>?_⟩
  refine UQ (Nat.le_of_ble_eq_true g2.1) ?_ fun v aN=>⟨_,rfl⟩
  unfold rzV at h
  cases hn:eName f.1 with
  |some x=>
   rw[hn] at h
   obtain⟨p3,e4⟩:=fU hn
   rw[e4]
   refine aa h fun v h1 h=>?_
   refine aa h fun q h2 h=>?_
   refine ai h fun g2 _=>?_
   refine nmX F ok hP h1 R fun u hu=>?_
   rw[bL h2] at hu
   obtain⟨t,e,hi⟩:=hu
   have g3:=nb g2
   exact⟨_,_,_,e,Sm.mono (hi.s (n0 g3.1)) (Nat.le_of_ble_eq_true g3.2),rfl⟩
  |none=>
   rw[hn] at h
   refine aa h fun r h1 h=>?_
   refine aa h fun x h2 h=>?_
   refine aa h fun t h3 h=>?_
   refine aa h fun t' h4 h=>?_
   refine ai h fun g2 h=>?_
   refine aa h fun v h5 h=>?_
   refine aa h fun b h6 _=>?_
   obtain⟨p3,p4,e4⟩:=kh h1
   obtain⟨p5,e5⟩:=fU h2
   rw[e4,e5]
   refine cC rfl (nmX F ok hP h3 R fun u hu=>?_)
   rw[zE h4] at hu
   rw[show u=t' from hu,IA g2]
   refine jf rfl rfl (bx rfl (nmX F ok hP h5 R fun u2 JB=>cT ?_))
   rw[rW h6] at JB
   rw[show u2=_ from JB]
   exact yY ⟨_,_,_,rfl,Sm.mono yZ (by decide),rfl⟩
theorem Yh(P:Params):nsIn (KK P) mainGlobals ("ValueError")=some none:=by kernel_rfl
theorem qC(S:q8 c o){e:Expr}{pos:Pos}{q:Str×Expr}{k:K2}(h1:jG e=some q)(g:(q.1=="ValueError"&&o.names.lookup q.1==some .globalImplicit)=true)(h2:rzE o σ q.2)(hy:o.ry):Ex c (exec (.Raise (some e) none pos) c.env) W σ k:=by
 intro its s Q E hs he kk
 obtain⟨agj,lf,led,hp,gn,tk,e1,R⟩:=hs
 obtain⟨p1,p2,e2⟩:=kh h1
 have g:=nb g
 obtain⟨ht,dp,un,cn,cs,L,a,aJ,cl,outer,hC,mC,C,FC,hE⟩:=S.yr (S.ry hy)
 obtain⟨eY,eE,exc⟩:=hE E he
 obtain⟨k1,k2⟩:=xe S.F S.S.ok S.S.P h2 R
 have hg:agj=c.g0:=by have:=R.H.2;rw[ht] at this;exact this
 have B:=R.H.1
 have X:=S.S.ok.X R.H
 have T:=S.S.ok.T R.H
 have Z:=R.Z
 have hx:c.env.kindOf ("ValueError")=some .globalImplicit:=by
  have:=beq_iff_eq.mp g.2
  rw[beq_iff_eq.mp g.1,S.F.names] at this
  rw[S.F.env]
  exact this
 have hk:=S.S.ok.hk
 have sub:∀p∈c.nw,p∈led:=fun p hp=>(R.jF p hp).1
 rw[hg] at B X T Z
 rw[C.e4,C.e3] at B
 have ve:=Yh c.w.params
 have hA:c.A=ktrTop (dp+1) (un+3) c.gd c.cn c.cs c.L c.a c.aJ [] (envX cn cs L a aJ cl::outer):=by
  unfold Cx.A
  rw[C.e1,C.e2,C.e3,C.e5]
 have hen:c.env=envX c.cn c.cs c.L c.a c.aJ []:=by rw[S.F.env,C.e5]
 have cU:=CR (env:=c.env) k1
 rw[e1,eE,e2,beq_iff_eq.mp g.1]
 generalize c.env=env at*
 rw[hA] at k2⊢
 subst hen
 exact B6 exc FC B Z X T R.G sub ve hx hk cU k2
noncomputable def Cx.ty(c:Cx)(ex:(Value->Shared->Prop)->Prop)(rz:Prop):Cx:={ c with ex:=ex,rz:=rz,ry:=False}
theorem RR.ty{c:Cx}{ex:(Value->Shared->Prop)->Prop}{rz:Prop}{its:Led}{W:Wd}{σ:Sg}{agj h:Heap}{lf:List (Str×Value)}{led:Led}{gn:Array GenState}(R:RR c its W σ agj lf led h gn):RR (c.ty ex rz) its W σ agj lf led h gn:=
 ⟨R.G,R.Z,R.H,R.lr,R.cr,R.ur,R.fr,R.tl,R.tn,R.ta,R.jF,R.d0,R.dl,R.d1,R.il,R.fF⟩
theorem RR.yt{c:Cx}{ex:(Value->Shared->Prop)->Prop}{rz:Prop}{its:Led}{W:Wd}{σ:Sg}{agj h:Heap}{lf:List (Str×Value)}{led:Led}{gn:Array GenState}(R:RR (c.ty ex rz) its W σ agj lf led h gn):RR c its W σ agj lf led h gn:=
 ⟨R.G,R.Z,R.H,R.lr,R.cr,R.ur,R.fr,R.tl,R.tn,R.ta,R.jF,R.d0,R.dl,R.d1,R.il,R.fF⟩
theorem RS.ty{c:Cx}{ex:(Value->Shared->Prop)->Prop}{rz:Prop}{its:Led}{W:Wd}{σ:Sg}{s:Shared}(h:RS c its W σ s):RS (c.ty ex rz) its W σ s:=let⟨agj,lf,led,h,gn,tk,e,R⟩:=h;⟨agj,lf,led,h,gn,tk,e,R.ty⟩
theorem RS.yt{c:Cx}{ex:(Value->Shared->Prop)->Prop}{rz:Prop}{its:Led}{W:Wd}{σ:Sg}{s:Shared}(h:RS (c.ty ex rz) its W σ s):RS c its W σ s:=let⟨agj,lf,led,h,gn,tk,e,R⟩:=h;⟨agj,lf,led,h,gn,tk,e,R.yt⟩
def Eb(c:Cx)(t:Sem Flow)(W:Wd)(σ:Sg)(k:K2):Prop:=
 ∀its s Q E,RS c its W σ s->c.ex E->(∀W' v b aB its' s',Iu W' b v->RS c its' W' aB s'->k b aB->Q v s')->wpAny (MM c.w) c.A t Q E s
theorem Ex.b{c:Cx}{t:Sem Flow}{W:Wd}{σ:Sg}{k:K2}(h:Ex c t W σ k):Eb c t W σ k:=fun its s Q E hs he kk=>h its s Q E hs he fun W' v b aB s' _ hr cM hk=>kk W' v b aB its s' hr cM hk
theorem IE{c:Const}(h:uO c=true):c=.none:=by
 cases c with
 |none=>rfl
 |_=>exact Bool.noConfusion h
theorem Yi{s:Stmt}{e:Expr}(h:CP s=some e):∃p,s=.Return (some e) p:=by
 cases s with
 |Return e' p=>exact⟨p,by rw[show e'=some e from h]⟩
 |_=>exact no h
theorem adX{hs:List ExceptHandler}(h:trH hs=true):∃np ck cp rp pos,hs=[.ExceptHandler (some (.Name ("ValueError") np)) none [.Return (some (.Constant .none ck cp)) rp] pos]:=by
 have h:∃b,((one hs).bind fun h=>((wF h).1.bind eName).bind fun x=>(one (wF h).2.2).bind fun s=>((CP s).bind mV).map fun c=>x=="ValueError"&&(wF h).2.1.isNone&&uO c)=some b/\b=true:=by
  unfold trH at h
  cases hb:((one hs).bind fun h=>((wF h).1.bind eName).bind fun x=>(one (wF h).2.2).bind fun s=>((CP s).bind mV).map fun c=>x=="ValueError"&&(wF h).2.1.isNone&&uO c) with
  |none=>rw[hb] at h;exact Bool.noConfusion h
  |some b=>rw[hb] at h;exact⟨b,rfl,h⟩
 obtain⟨b,h,hb⟩:=h
 refine ah h fun hd h1 h=>?_
 refine ah h fun x h2 h=>?_
 refine ah h fun s h3 h=>?_
 obtain⟨cc,h4,h⟩:=Option.map_eq_some_iff.mp h
 refine ah h2 fun t h5 h6=>?_
 refine ah h4 fun r h7 h8=>?_
 rw[<-h] at hb
 have g:=nb hb
 have g2:=nb g.1
 obtain⟨ty,nm,bd,pos⟩:=hd
 have h5:ty=some t:=h5
 have h3:=zU (show one bd=some s from h3)
 have gn:nm=none:=Option.isNone_iff_eq_none.mp g2.2
 obtain⟨np,e1⟩:=fU h6
 obtain⟨rp,e2⟩:=Yi h7
 obtain⟨ck,cp,e3⟩:=zT h8
 exact⟨np,ck,cp,rp,pos,by rw[zU h1,h5,h3,gn,e1,e2,e3,beq_iff_eq.mp g2.1,IE g.2]⟩
theorem xg{m n:Nat}(hST:∀c o,q8 c o->Yd c (ST m n o))(S:q8 c o)(ht:o.tn=true)(hca:o.ca=true)(hl:o.lp=true)(hx:o.names.lookup (Str.ofString "ValueError")=some .globalImplicit){body:List Stmt}{hs:List ExceptHandler}{pos:Pos}{k:K2}(hh:trH hs=true)
  (h:sR (ST m n { o with rz:=∀aB,k (.ret .none) aB,ry:=False,lp:=false,ca:=false}) body σ fun sf au=>match sf with
   | .ret v=>k (.ret v) au
   |_=>False):Eb c (exec (.Try body hs [] [] pos) c.env) W σ k:=by
 intro its s Q E hs he kk
 obtain⟨np,ck,cp,rp,hp,rfl⟩:=adX hh
 refine UY ?_
 obtain⟨dp,un,cn,cs,L,a,aJ,cl,outer,C⟩:=S.ca hca
 obtain⟨eY,rfl⟩:=S.be hl E he
 have F:=S.F
 have hx:c.env.kindOf ("ValueError")=some .globalImplicit:=by rw[F.names] at hx;rw[F.env];exact hx
 let TE:=HN c.w c.A c.env [.ExceptHandler (some (.Name ("ValueError") np)) none [.Return (some (.Constant .none ck cp)) rp] hp] Q (BE c.w c.A c.env eY)
 let rz:Prop:=∀aB,k (.ret .none) aB
 let c':=c.ty (fun E'=>E'=TE) rz
 let o':Or:={ o with rz:=rz,ry:=False,lp:=false,ca:=false}
 have F':FF c' o':=⟨F.env,F.ms,F.kg,F.names,F.fr⟩
 have Yj:mH c' o'.cd o'.cu:=⟨S.S.ok.XB,S.S.ok.TB,S.S.ok.hk,S.S.ok.hd,S.S.ok.hu⟩
 have By:c.env=envX c.cn c.cs c.L c.a c.aJ []:=by rw[F.env,C.e5]
 have hA:c.A=(ktrTop dp un c.gd cn cs L a aJ cl outer).deeper (envX c.cn c.cs c.L c.a c.aJ []):=by
  unfold Cx.A
  rw[C.e1,C.e2,C.e3,C.e5]
  rfl
 have hen:envX c.cn c.cs c.L c.a c.aJ c.cl=envX c.cn c.cs c.L c.a c.aJ []:=by rw[C.e5]
 have xr:XR c':=by
  intro E' hE' CS its W σ agj lf led h gn R
  have R:=R.yt
  obtain⟨B,hb⟩:=R.H
  rw[S.S.tn ht] at hb
  obtain⟨D,KT⟩:=hb
  have XB:=S.S.ok.XB
  have TB:=S.S.ok.TB
  have hk:=S.S.ok.hk
  have Z:=R.Z
  rw[show E'=TE from hE']
  show yO c.base (envX c.cn c.cs c.L c.a c.aJ c.cl::c.outer) agj c.L (c.ms lf) led c.dr c.os (HN c.w c.A c.env _ Q (BE c.w c.A c.env eY))
  rw[hen]
  have hx:=hx
  have hq:∀h' g' bB aN,KtsTurn (jb c.outer) c.g0 g'->Below c.A₀ c.base c.outer g'->KtsDicts (jb c.outer) g'->St g' c.L c.nw c.d h' (c.ms lf) led->AllBare bB->Q (.ret .none) ⟨h',bB,c.dr,aN,c.os⟩:=fun h' g' bB aN B5 B' D' Z' G'=>
   kk W (.ret .none) (.ret .none) σ its ⟨h',bB,c.dr,aN,c.os⟩ ⟨.none,rfl,rfl⟩ ⟨g',lf,led,h',bB,aN,rfl,⟨G',Z',⟨B',by rw[S.S.tn ht];exact⟨D',B5⟩⟩,R.lr,R.cr,R.ur,R.fr,R.tl,R.tn,R.ta,R.jF,R.d0,R.dl,R.d1,R.il,R.fF⟩⟩ (CS σ)
  rw[C.e4,C.e3] at B hq
  rw[C.e3] at D KT⊢
  rw[By] at hx
  rw[hA,By]
  exact yP (A:=ktrTop dp un c.gd cn cs L a aJ cl outer) B Z XB TB D KT (Yh _) hx hk (fun e=>PassesOwnAt.leaving) fun e h' g' bB aN B5 B' X' T' D' Z' G'=>bI (pB (xJ (je (hq h' g' bB aN B5 B' D' Z' G'))))
 have S':c8 c' o':=⟨Yj,S.S.P,S.S.tn,rfl,xr,S.S.tab,Xy F' Yj S.S.P,fun _=>F'⟩
 have K':q8 c' o':=⟨S',F',fun e=>Bool.noConfusion e,False.elim,False.elim,fun e=>Bool.noConfusion e,fun e=>Bool.noConfusion e⟩
 exact d8 (hST c' o' K') body W σ _ h its s _ _ hs.ty rfl fun W1 v sf au s1 l1 r1 aV nG=>by
  cases sf with
  |ret sv=>
   obtain⟨u,e,hu⟩:=r1
   rw[e]
   exact HO (kk W1 _ (.ret sv) au its s1 ⟨u,rfl,hu⟩ aV.yt nG)
  |_=>exact False.elim nG
end
section
variable{c:Cx}{o:Or}
theorem inter(F:FF c o)(hk:c.cs.kind=.function):interactive c.env=false:=by
 rw[F.env]
 show(c.cs.kind==.module&&c.cs.more.any fun(n,_)=>n==("interactive":Str))=false
 rw[hk]
 rfl
theorem qD{m:Nat}{f:Or->WS}(hf:∀c o,q8 c o->Yd c (f o))(S:q8 c o)(hm:∃j,m=j+1):Yd c (Ek m f o):=by
 obtain⟨j,hm⟩:=hm
 intro s W σ k h
 have Bv:=(bQ m).1 c o S.S
 have ht0:=(bQ m).2 c o S.S
 have hb:=fun b W σ k=>d8 (f:=f o) (hf c o S) b W σ k
 cases s with
 |Return e pos=>
  intro its s Q E hs he kk
  cases e with
  |none=>exact E8 (kk W (.ret .none) (.ret .none) σ s (.rfl W) ⟨.none,rfl,rfl⟩ hs h)
  |some e=>exact pB (Bv e W σ _ h its s _ E hs he fun W1 v sv au s1 l1 r1 aV k1=>kk W1 (.ret v) (.ret sv) au s1 l1 ⟨v,rfl,r1⟩ aV k1)
 |If t b1 b2 pos=>
  intro its s Q E hs he kk
  refine pC (ht0 t W σ _ h its s _ E hs he fun W1 v1 bl au s1 l1 r1 aV k1=>?_)
  have go:∀b,sR (f o) b au k->wpAny (MM c.w) c.A (execs b c.env) Q E s1:=fun b hk=>hb b W1 au k hk its s1 Q E aV he (eL l1 kk)
  refine lD (K:=fun b=>Jx _ _ _ _ _ _ _ b _) r1 k1 (fun k1=>?_) fun k1=>?_
  ·exact i_t (go b1 k1)
  ·exact i_f (go b2 k1)
 |Assign ts e pos=>
  match ts,h with
  |[t],h=>
   have h:Iw ((ET m).1 o) o t e σ k:=h
   rw[hm] at h
   exact sU S.S S.F (FE:=(ET (j+1)).1) (FT:=(ET (j+1)).2) (bQ (j+1)).1 (bQ (j+1)).2 rfl (bQ j).1 (bQ j).2 h
 |AugAssign t op e pos=>exact sV S.S S.F Bv h
 |Expr e pos=>
  refine ai h fun g h=>?_
  intro its s Q E hs he kk
  refine Ci (inter S.F S.S.ok.hk) (sS g) (Bv e W σ _ h its s _ E hs he fun W1 v sv au s1 l1 r1 aV k1=>?_)
  cases sv with
  |none=>rw[show v=.none from r1];exact zc (kk W1 .next .next au s1 l1 rfl aV k1)
  |_=>exact False.elim k1
 |For target iter body oe pos=>
  match oe,h with
  |[],h=>
   refine ai h fun g h=>?_
   have g1:=nb g
   have g2:=nb g1.1
   intro its s Q E hs he kk
   obtain⟨eY,rfl⟩:=S.be g2.1 E he
   exact DJ (zP g1.2) (iQ S.S Bv S.F.fr h hs he fun W1 I oI bG l nm au s1 l1 aV hI zR JK iE nG=>
    xd S.F S.S.ok.hk (hb body) zR he l 0 (Nat.zero_add _) (fun j=>by rw[Nat.zero_add]) W1 au s1 bG nG aV hI fun W2 v b aO s2 l2 r2 cB k2=>kk W2 v b aO s2 (l1.trans l2) r2 cB k2)
 |While test body oe pos=>
  match oe,h with
  |[],h=>
   refine ai h fun g h=>?_
   exact(S.wh g W σ _ test body pos h).imp fun b aB e=>by rw[e.1];exact e.2
 |Raise e fr pos=>
  match e,fr,h with
  |some e,none,h=>
   refine aa h fun q h1 h=>?_
   refine ai h fun g h=>?_
   exact qC S h1 g h.1 h.2
 |_=>exact False.elim h
theorem gR{j:Nat}:∀n c o,q8 c o->Yd c (ST (j+1) n o)
 |0,_,_,_=>fun _ _ _ _ h=>False.elim h
 |n+1,c,o,S=>qD (m:=j+1) (gR n) S ⟨j,rfl⟩
theorem Yk{s:Stmt}{p:List Stmt×List ExceptHandler}(h:CQ s=some p):∃pos,s=.Try p.1 p.2 [] [] pos:=by
 cases s with
 |Try body hs oe fb pos=>
  cases oe with
  |cons a l=>exact no h
  |nil=>
   cases fb with
   |cons a l=>exact no h
   |nil=>exact⟨pos,by rw[<-Option.some.inj (show some (body,hs)=some p from h)]⟩
 |_=>exact no h
theorem xh{j n:Nat}(S:q8 c o){b:List Stmt}{W:Wd}{σ:Sg}{k:K2}(h:wpF (j+1) n o b σ k):Eb c (execs b c.env) W σ k:=by
 have plain:sR (ST (j+1) n o) b σ k->Eb c (execs b c.env) W σ k:=fun h=>(d8 (gR n c o S) b W σ k h).b
 match b,h with
 |[],h=>exact plain h
 |a::b::r,h=>exact plain h
 |[s],h=>
  have h:(match CQ s with
   |some p=>Yc (j+1) n o p σ k
   |none=>sR (ST (j+1) n o) [s] σ k):=h
  cases e:CQ s with
  |none=>
   rw[e] at h
   exact plain h
  |some p=>
   rw[e] at h
   refine ai h fun g h=>?_
   obtain⟨pos,e⟩:=Yk e
   have g1:=nb g
   have g2:=nb g1.1
   have g3:=nb g2.1
   have g4:=nb g3.1
   have g5:=nb g4.1
   rw[e]
   intro its s Q E hs he kk
   refine bI (xg (gR n) S g5.2 g4.2 g2.2 (beq_iff_eq.mp g1.2) g5.1 h its s _ E hs he fun W' v b aB its' s' hr cM hk=>?_)
   have fin:=kk W' v b aB its' s' hr cM hk
   cases v with
   |next=>exact bZ (fu fin)
   |_=>exact fin
end
theorem Yl:∀{a0 a1:Nat},a0+(a1+1)<PySem.recursionLimit->a0+1+a1<PySem.recursionLimit:=fun h1=>by rw[Nat.add_right_comm];exact h1
theorem Ym:∀{a0 a1:Nat},a0+(a1+3)<PySem.cLine->a0+3+a1<PySem.cLine:=fun h1=>by rw[Nat.add_assoc,Nat.add_comm 3];exact h1
noncomputable def pk{α:Type}(f:Str->Bool):List (Str×α)->List (Str×α)->List (Str×α)
 |[],l=>l
 |(n,v)::r,l=>pk f r (bif f n then(n,v)::l else l)
noncomputable def cQ{α β:Type}(g:α->β)(l:List (Str×α)):List (Str×β):=l.map fun p=>(p.1,g p.2)
theorem jH{α β:Type}{f:Str->Bool}(g:α->β):∀(l a:List (Str×α)),pk f (cQ g l) (cQ g a)=cQ g (pk f l a)
 |[],_=>rfl
 |(n,v)::r,a=>by
  show pk f (cQ g r) (bif f n then(n,g v)::cQ g a else cQ g a)=cQ g (pk f r (bif f n then(n,v)::a else a))
  cases f n with
  |true=>exact jH g r ((n,v)::a)
  |false=>exact jH g r a
theorem gU{α β:Type}(g:α->β)(x:Str):∀l:List (Str×α),(cQ g l).lookup x=(l.lookup x).map g
 |[]=>rfl
 |(n,v)::r=>by
  show((n,g v)::cQ g r).lookup x=_
  rw[List.lookup_cons,List.lookup_cons,gU g x r]
  cases x==n<;>rfl
theorem zV{α:Type}{f:Str->Bool}{q:Str×α}:∀{l a:List (Str×α)},q∈pk f l a->(f q.1=true/\q∈l)\/q∈a
 |[],_,h=>.inr h
 |(n,v)::r,a,h=>by
  have h:q∈pk f r (bif f n then(n,v)::a else a):=h
  rcases zV h with⟨h1,h2⟩|h
  ·exact .inl ⟨h1,.tail _ h2⟩
  ·cases e:f n with
   |true=>
    rw[e] at h
    rcases List.mem_cons.mp (show q∈(n,v)::a from h) with rfl|h
    ·exact .inl ⟨e,.head _⟩
    ·exact .inr h
   |false=>rw[e] at h;exact .inr h
noncomputable def nK(names:List (Str×NameKind))(n:Str):Bool:=names.lookup n==some .local
theorem lQ{names:List (Str×NameKind)}:∀(binds l:List (Str×Value)),bindL (fun n=>names.lookup n) binds (dB l)=dB (pk (nK names) binds l)
 |[],_=>rfl
 |(n,v)::r,l=>by
  unfold bindL
  show _=dB (pk (nK names) r (bif nK names n then(n,v)::l else l))
  by_cases h:names.lookup n=some .local
  ·rw[if_pos h,jd,show nK names n=true from beq_iff_eq.mpr h];exact lQ r _
  ·rw[if_neg h,show nK names n=false from beq_false_of_ne h];exact lQ r _
theorem lR{names:List (Str×NameKind)}:∀(binds l:List (Str×Value)),bindC (fun n=>names.lookup n) binds (dB l)=dB (pk (fun n=> !nK names n) binds l)
 |[],_=>rfl
 |(n,v)::r,l=>by
  unfold bindC
  show _=dB (pk (fun n=> !nK names n) r (bif !nK names n then(n,v)::l else l))
  by_cases h:names.lookup n=some .local
  ·rw[if_pos h,show nK names n=true from beq_iff_eq.mpr h];exact lR r _
  ·rw[if_neg h,show nK names n=false from beq_false_of_ne h,jd];exact lR r _
theorem lS{cm:Str->Option Value}{cs:List (Str×Addr)}{cells:Led}(C:CellsAre cm cs cells):(∀x a,cs.lookup x=some a->∃o,(a,o)∈cells/\o.data=.cell (cm x))/\cells.map (·.1)=cs.map (·.2):=by
 induction C with
 |nil=>exact⟨fun x a h=>no h,rfl⟩
 |@cons n c o cs cells h C ih=>
  refine⟨fun x a e=>?_,by rw[List.map_cons,List.map_cons,ih.2]⟩
  rw[List.lookup_cons] at e
  cases hx:x==n with
  |true=>rw[hx] at e;rw[beq_iff_eq.mp hx,<-Option.some.inj e];exact⟨o,.head _,h⟩
  |false=>
   rw[hx] at e
   obtain⟨o',a1,a2⟩:=ih.1 x a e
   exact⟨o',.tail _ a1,a2⟩
theorem jI:∀(names:List (Str×NameKind)) (n d:Nat) (acc:List (Str×Addr)),acc.Pairwise (fun p q=>@LT.lt Nat _ q.2 p.2)->(∀p∈acc,@LT.lt Nat _ p.2 n/\@LE.le Nat _ d p.2)->@LE.le Nat _ d n->(cellsFrom n names acc).Pairwise (fun p q=>@LT.lt Nat _ q.2 p.2)/\∀p∈cellsFrom n names acc,@LE.le Nat _ d p.2
 |[],n,d,acc,h,h2,_=>⟨h,fun p hp=>(h2 p hp).2⟩
 |(x,k)::r,n,d,acc,h,h2,h3=>by
  have go:∀b,(∀z,cellsFrom n ((x,k)::r) acc=z->(if b=true then cellsFrom (n+1) r ((x,n)::acc) else cellsFrom n r acc)=z)->(cellsFrom n ((x,k)::r) acc).Pairwise (fun p q=>@LT.lt Nat _ q.2 p.2)/\∀p∈cellsFrom n ((x,k)::r) acc,@LE.le Nat _ d p.2:=fun b e=>by
   rw[<-e _ rfl]
   cases b with
   |true=>exact jI r (n+1) d ((x,n)::acc) (List.pairwise_cons.mpr ⟨fun p hp=>(h2 p hp).1,h⟩) (fun p hp=>by
     rcases List.mem_cons.mp hp with rfl|hp
     ·exact⟨Nat.lt_succ_self _,h3⟩
     ·exact⟨Nat.lt_succ_of_lt (h2 p hp).1,(h2 p hp).2⟩) (Nat.le_succ_of_le h3)
   |false=>exact jI r n d acc h h2 h3
  exact go (k==.cell) fun z e=>e
theorem uQ{x:Str}{α:Type}:∀{l:List (Str×α)},x∈l.map (·.1)->(l.lookup x).isSome=true
 |(y,a)::l,h=>by
  rw[List.lookup_cons]
  cases e:x==y with
  |true=>rfl
  |false=>
   rcases List.mem_cons.mp h with h|h
   ·rw[show x=y from h,beq_self_eq_true] at e;cases e
   ·exact uQ h
 |[],h=>nomatch h
noncomputable def lec(d c:IC):Bool:=(c.n==0||(!(d.n==0)&&Nat.ble d.n c.n))&&((!c.nz||d.nz)&&((!c.nn||d.nn)&&(!c.md||d.md)))
theorem imp_or{a b:Bool}(h:(!a||b)=true)(k:a=true):b=true:=by rw[k] at h;exact h
theorem Yn{d c:IC}{x:Int}(h:lec d c=true)(k:bT x d):bT x c:=by
 have h1:=nb h
 have h2:=nb h1.2
 have h3:=nb h2.2
 refine⟨fun e=>?_,fun e=>k.z (imp_or h2.1 e),fun e=>k.p (imp_or h3.1 e),fun e=>k.m (imp_or h3.2 e)⟩
 rcases (Bool.or_eq_true _ _).mp h1.1 with q|q
 ·exact absurd (beq_iff_eq.mp q) e
 ·exact Sm.mono (k.s (n0 (nb q).1)) (Nat.le_of_ble_eq_true (nb q).2)
noncomputable def wI(c:IC)(s:SV):Option Int:=(dw s).bind fun p=>bif lec p.2 c then some p.1 else none
noncomputable def wB(s:SV):Option Bool:=(D4 s).map (·.1)
noncomputable def wT(s:SV):Option (SV×SV):=(pe s).bind cJ
noncomputable def wP(c:IC)(s:SV):Option (Int×Int):=(wT s).bind fun p=>(wI c p.1).bind fun x=>(wI c p.2).map fun y=>(x,y)
noncomputable def tupI(c:IC)(v:Int×Int):SV:=.tup (.cons (.int v.1 c) (.cons (.int v.2 c) .nil))
theorem iF{c:IC}{s:SV}{x:Int}(h:wI c s=some x):Wk s (.int x c)/\jE s=true:=by
 refine ah h fun p h1 h=>?_
 obtain⟨h2,h⟩:=eN h
 rw[bL h1]
 exact⟨.int h fun k=>by rw[<-h];exact Yn h2 k,rfl⟩
theorem wB_{s:SV}{b:Bool}(h:wB s=some b):Wk s (.bool b false):=by
 obtain⟨p,h1,h⟩:=Option.map_eq_some_iff.mp h
 rw[rW h1]
 exact .bool h
theorem fX{s a:SV}(h:cN s=some a):s=.cons a .nil:=by
 refine ah h fun p h1 h=>?_
 obtain⟨u,h2,h⟩:=Option.map_eq_some_iff.mp h
 rw[mU h1,zg h2,h]
theorem bY{s:SV}{a:SV×SV}(h:cJ s=some a):s=.cons a.1 (.cons a.2 .nil):=by
 refine ah h fun p h1 h=>?_
 obtain⟨u,h2,h⟩:=Option.map_eq_some_iff.mp h
 rw[mU h1,fX h2,<-h]
theorem dU{s:SV}{a:SV×SV×SV}(h:eX s=some a):s=.cons a.1 (.cons a.2.1 (.cons a.2.2 .nil)):=by
 refine ah h fun p h1 h=>?_
 obtain⟨u,h2,h⟩:=Option.map_eq_some_iff.mp h
 rw[mU h1,bY h2,<-h]
theorem Em{c:IC}{s:SV}{v:Int×Int}(h:wP c s=some v):Wk s (tupI c v):=by
 refine ah h fun p h1 h=>?_
 refine ah h fun x h2 h=>?_
 obtain⟨y,h3,h⟩:=Option.map_eq_some_iff.mp h
 refine ah h1 fun q h4 h5=>?_
 rw[gK h4,bY h5,<-h]
 exact .tup (.cons (iF h2).1 (.cons (iF h3).1 .rfl))
noncomputable def fit(t:SV):SV->Option SV:=SV.rec (motive:=fun _=>SV->Option SV) (fun _ c s=>(wI c s).map fun x=>.int x c) (fun _ _ s=>(wB s).map fun b=>.bool b false) some (fun _ ih s=>(pe s).bind fun r=>(ih r).map .tup) (fun _ ih s=>(om s).bind fun r=>(ih r).map .rl)
 some (fun _ _ ih1 ih2 s=>(D5 s).bind fun p=>(ih1 p.1).bind fun x=>(ih2 p.2).map (.cons x)) (fun _ _=>some) (fun _ _=>some) (fun _=>some) (fun _=>some) t
theorem Yo(t:SV):∀s r,fit t s=some r->Wk s r/\(jE s=true->jE r=true):=by
 have same:∀s r:SV,some s=some r->Wk s r/\(jE s=true->jE r=true):=fun s r e=>by rw[Option.some.inj e];exact⟨.rfl,id⟩
 induction t with
 |int a c=>
  intro s r h
  obtain⟨x,h1,h⟩:=Option.map_eq_some_iff.mp h
  rw[<-h]
  exact⟨(iF h1).1,fun _=>rfl⟩
 |bool a c=>
  intro s r h
  obtain⟨x,h1,h⟩:=Option.map_eq_some_iff.mp h
  rw[<-h]
  exact⟨wB_ h1,fun _=>rfl⟩
 |tup t ih=>
  intro s r h
  refine ah h fun x h1 h=>?_
  obtain⟨y,h2,h⟩:=Option.map_eq_some_iff.mp h
  rw[<-h,gK h1]
  exact⟨.tup (ih x y h2).1,(ih x y h2).2⟩
 |rl t ih=>
  intro s r h
  refine ah h fun x h1 h=>?_
  obtain⟨y,h2,h⟩:=Option.map_eq_some_iff.mp h
  rw[<-h,ir h1]
  exact⟨.rl (ih x y h2).1,(ih x y h2).2⟩
 |cons a b wO uE=>
  intro s r h
  refine ah h fun p h1 h=>?_
  refine ah h fun x h2 h=>?_
  obtain⟨y,h3,h⟩:=Option.map_eq_some_iff.mp h
  rw[<-h,mU h1]
  exact⟨.cons (wO _ _ h2).1 (uE _ _ h3).1,fun e=>by have e:=nb e;exact(Bool.and_eq_true _ _).mpr ⟨(wO _ _ h2).2 e.1,(uE _ _ h3).2 e.2⟩⟩
 |_=>exact same
def Gd(s:SV):Prop:=SV.rec (motive:=fun _=>Prop) (fun a c=>bT a c) (fun _ _=>True) True (fun _ h=>h) (fun _ h=>h) True (fun _ _ h t=>h/\t) (fun q n=>Qf q/\0<=n/\n<q) (fun q v=>Qf q/\bP q v) (fun _=>True) (fun _=>True) s
theorem gd_{W:Wd}(s:SV):(∀v,VR W s v->Gd s)/\∀vs,VL W s vs->Gd s:=by
 induction s with
 |int a c=>exact⟨fun v h=>h.elim fun t k=>k.2,fun vs h=>False.elim h⟩
 |tup s ih=>exact⟨fun v h=>h.elim fun x k=>k.elim fun vs k=>k.elim fun n k=>ih.2 vs k.2.2,fun vs h=>False.elim h⟩
 |rl s ih=>exact⟨fun v h=>h.elim fun x k=>k.elim fun vs k=>k.elim fun n k=>ih.2 vs k.2.2,fun vs h=>False.elim h⟩
 |cons a b wO uE=>exact⟨fun v h=>False.elim h,fun vs h=>h.elim fun v k=>k.elim fun r k=>⟨wO.1 v k.2.1,uE.2 r k.2.2⟩⟩
 |fq q n=>exact⟨fun v h=>h.elim fun x k=>⟨k.2.2,k.2.1.lo,k.2.1.hi⟩,fun vs h=>False.elim h⟩
 |aU q v=>exact⟨fun v h=>h.elim fun x k=>⟨k.2.2,k.2.1.inq⟩,fun vs h=>False.elim h⟩
 |_=>exact⟨fun _ _=>trivial,fun _ _=>trivial⟩
set_option genSizeOf false
set_option genInjectivity false
structure Fd where
 name:Str
 qual:Str
 params:Arguments
 body:List Stmt
 scope:Scope
 dV:Value
 kV:Value
 doc:Value
 pm:Value
 an:Option Addr
 bu:Value
 ct:Value
noncomputable def Fd.fn(F:Fd):FuncData:=fnOf F.name F.qual F.params F.body F.scope F.dV F.kV F.doc F.pm F.an F.bu F.ct
noncomputable def bodyOf(b:FuncBody):Option (List Stmt):=match b with
 | .stmts l=>some l
 |_=>none
noncomputable def fdOf(d:FuncData):Fd:=⟨d.name,d.qualname,d.params,(bodyOf d.body).getD [],d.scope,d.defaults,d.kwdefaults,d.doc,d.pyModule,d.annotations,d.code,d.closureTuple⟩
noncomputable def fnD(o:Obj):Option FuncData:=match o.data with
 | .func d=>some d
 |_=>none
noncomputable def sW(P:Params)(f:Addr):Option FuncData:=((KK P).lookup f).bind fnD
noncomputable def En(P:Params)(ns:List Str)(d:FuncData):Bool:=
 d.globals==mainGlobals&&(d.closure.isEmpty&&(d.builtins==builtinsNs&&((bodyOf d.body).isSome&&(codeIn (KK P) d.code d.qualname&&(!d.scope.isCoroutine&&(!d.scope.isGenerator&&(d.scope.kind==.function&&(decide ((cellsFrom 0 d.scope.names []).map (·.1)).Nodup&&ns.all fun x=>d.scope.names.lookup x==some .local||d.scope.names.lookup x==some .cell))))))))
noncomputable def uR(P:Params)(f:Addr)(ns:List Str):Bool:=match sW P f with
 |some d=>En P ns d
 |none=>false
structure CT(P:Params)(f:Addr)(ns:List Str)(d:FuncData):Prop where
 ho:∃oc od nR,(KK P).lookup f=some ⟨oc,od,.func (fdOf d).fn,nR⟩
 hcd:codeIn (KK P) (fdOf d).bu (fdOf d).qual=true
 jy:d.scope.isCoroutine=false
 fy:d.scope.isGenerator=false
 mD:d.scope.kind=.function
 xC:((cellsFrom 0 d.scope.names []).map (·.1)).Nodup
 pQ:∀x∈ns,(d.scope.names.lookup x==some .local||d.scope.names.lookup x==some .cell)=true
theorem IF{P:Params}{f:Addr}{ns:List Str}(h:uR P f ns=true):∃d,sW P f=some d/\CT P f ns d:=by
 unfold uR at h
 cases hd:sW P f with
 |none=>rw[hd] at h;cases h
 |some d=>
  rw[hd] at h
  have h1:=nb (show En P ns d=true from h)
  have h2:=nb h1.2
  have h3:=nb h2.2
  have h4:=nb h3.2
  have h5:=nb h4.2
  have h6:=nb h5.2
  have h7:=nb h6.2
  have h8:=nb h7.2
  have h9:=nb h8.2
  refine⟨d,rfl,?_,h5.1,by simpa using h6.1,by simpa using h7.1,beq_iff_eq.mp h8.1,of_decide_eq_true h9.1,fun x hx=>List.all_eq_true.mp h9.2 x hx⟩
  obtain⟨⟨oc,od,dt,nR⟩,e1,e2⟩:=iD hd
  refine⟨oc,od,nR,?_⟩
  rw[e1]
  cases dt with
  |func d'=>
   have e2:d'=d:=Option.some.inj e2
   obtain⟨l,hl⟩:=Option.isSome_iff_exists.mp h4.1
   obtain⟨nm,ql,pr,bd,sc,gl,cl,dv,kv,dc,pm,an,cd,ct,bn⟩:=d
   have g1:gl=mainGlobals:=beq_iff_eq.mp h1.1
   have g2:cl=[]:=List.isEmpty_iff.mp h2.1
   have g3:bn=builtinsNs:=beq_iff_eq.mp h3.1
   cases bd with
   |stmts b=>rw[e2,g1,g2,g3];rfl
   |_=>exact no hl
  |_=>exact no e2
section
variable{c:Cx}{its:Led}{W:Wd}{σ:Sg}{agj h:Heap}{lf:List (Str×Value)}{led:Led}{gn:Array GenState}{tk:Nat}{F:Fd}{f:Addr}{bR:List Value}{binds:List (Str×Value)}{Q E:Value->Shared->Prop}
structure Ent(c:Cx)(agj:Heap)(led:Led)(F:Fd)(f:Addr)(lf:List (Str×Value))(binds:List (Str×Value))(g:Heap)(L':Addr)(aq:Heap)(cells:Led):Prop where
 FG:Fr agj c.L g (c.ms lf)
 B:Below c.A c.base (envX c.cn c.cs c.L c.a c.aJ c.cl::c.outer) g
 Z:St g L' led (L'+1) aq (dB (pk (nK F.scope.names) binds [])) (cells++led)
 C:CellsAre (dB (pk (fun n=> !nK F.scope.names n) binds [])) (cellsFrom (L'+1) F.scope.names []) cells
 lo:∀p∈cells,Ge (L'+1) p.1
 lt:∀p∈led,p.1<L'
 hL:@LT.lt Nat _ c.L L'
noncomputable def Cx.A1(c:Cx)(F:Fd)(f L':Addr):Around:=ktrTop (c.dp+1) (c.un+3) c.gd F.qual F.scope L' f F.bu (cellsFrom (L'+1) F.scope.names []) (envX c.cn c.cs c.L c.a c.aJ c.cl::c.outer)
noncomputable def Fd.env(F:Fd)(f L':Addr):Env:=envX F.qual F.scope L' f F.bu (cellsFrom (L'+1) F.scope.names [])
theorem zW{g L' aq}{cells:Led}{o7:Obj}(Z:St agj c.L c.nw c.d h (c.ms lf) led)(h7:gu o7)(FG:Fr agj c.L g (c.ms lf))(F':Fr g L' aq (bindL (fun n=>F.scope.names.lookup n) binds fun _=>none))(N':News g L' aq (cells++(led++[((277:Nat),o7)])))
  (Y:CellsAre (bindC (fun n=>F.scope.names.lookup n) binds fun _=>none) (cellsFrom (L'+1) F.scope.names []) cells) (B':Below c.A c.base (envX c.cn c.cs c.L c.a c.aJ c.cl::c.outer) g) (lt:∀p∈led++[((277:Nat),o7)],p.1<L'):Ent c agj led F f lf binds g L' aq cells:=by
 rw[nV,lQ] at F'
 rw[nV,lR] at Y
 obtain⟨s1,s2⟩:=jI F.scope.names (L'+1) (L'+1) [] .nil (fun p hp=>nomatch hp) (Nat.le_refl _)
 have s3:=(lS Y).2
 have mR:∀p∈cells,Ge (L'+1) p.1:=fun p hp=>by
  have:=List.mem_map_of_mem (f:=(·.1)) hp
  rw[s3] at this
  obtain⟨q,hq,e⟩:=List.mem_map.mp this
  show @LE.le Nat _ _ p.1
  rw[<-e]
  exact s2 q hq
 have l7:=BJ lt
 have lt':∀p∈led,p.1<L':=fun p hp=>lt p (aA hp)
 refine⟨FG,B',⟨F',⟨o7,h7,by rw[List.append_assoc];exact N'⟩,List.pairwise_append.mpr ⟨?_,Z.S,fun p hp q hq=>Nat.lt_of_lt_of_le (Nat.lt_succ_of_lt (lt' q hq)) (mR p hp)⟩,fun p hp=>?_,fun p hp=>?_,Nat.le_refl _⟩,Y,mR,lt',tL FG F'⟩
 ·have e:(cells.map (·.1)).Pairwise fun x y=>@LT.lt Nat _ y x:=by
   rw[s3]
   exact List.pairwise_map.mpr s1
  exact List.pairwise_map.mp e
 ·exact(List.mem_append.mp hp).elim (fun k=>Nat.lt_of_lt_of_le (Nat.lt_succ_of_lt l7) (mR p k)) (Z.lo p)
 ·exact(List.mem_append.mp hp).elim (fun k=>.inr (mR p k)) .inl
theorem adY{ns:List Str}{d:FuncData}{cd cu:Nat}(ok:mH c (cd+1) (cu+3))(R:RR c its W σ agj lf led h gn)(D:CT c.w.params f ns d)(hF:fdOf d=F)(hb:BindsTo ⟨h,gn,c.dr,tk,c.os⟩ F.fn ⟨bR,[]⟩ binds)(hn:∀x∈binds,x.1∈ns)
  (k:∀g L' aq tk cells,Ent c agj led F f lf binds g L' aq cells->wpAny (MM c.w) (c.A1 F f L') (execs F.body (F.env f L')) (BQ agj c.L (c.ms lf) g Q E) (BE c.w (c.A1 F f L') (F.env f L') E) ⟨aq,gn,c.dr,tk,c.os⟩):
  wpAny (MM c.w) c.A (call (.ref f) bR) Q E ⟨h,gn,c.dr,tk,c.os⟩:=by
 subst hF
 refine R.Z.elim fun o7 h7 N7=>?_
 obtain⟨oc,od,nR,ho⟩:=D.ho
 have X:=ok.X R.H
 refine wpAny_call (codeAny_mono (callX_cells (A:=c.A) (s:=⟨h,gn,c.dr,tk,c.os⟩) (R:=Back Q E) R.H.1 R.Z.F N7 (ok.T R.H).nolimit rfl rfl ok.hk ((X.keeps R.Z.F.keep) _ _ ho) rfl (codeRec_of (X.keeps R.Z.F.keep) D.hcd) (Nat.lt_of_le_of_lt (Nat.le_add_right _ _) ok.hd) hb (kindsX (List.all_eq_true.mpr fun x hx=>D.pQ _ (hn x hx))) D.xC (fun g L' aq tk cells FG F' N' Y B' st lt=>?_) D.jy D.fy D.mD) fun r s' z=>z)
 exact k g L' aq tk cells (zW R.Z h7 FG F' N' Y B' lt)
theorem adZ{ns:List Str}{d:FuncData}{cd cu:Nat}(ok:mH c (cd+1) (cu+3))(R:RR c its W σ agj lf led h gn)(DG:KtsDicts (jb c.outer) agj)(D:CT c.w.params f ns d)(hF:fdOf d=F)(hb:BindsTo ⟨h,gn,c.dr,tk,c.os⟩ F.fn ⟨bR,[]⟩ binds)(hn:∀x∈binds,x.1∈ns)
  (k:∀g L' aq tk cells,Ent c agj led F f lf binds g L' aq cells->KtsDicts (jb (envX c.cn c.cs c.L c.a c.aJ c.cl::c.outer)) g->wpAny (MM c.w) (c.A1 F f L') (execs F.body (F.env f L')) (BQS c.A₀ c.base c.outer (jb (envX c.cn c.cs c.L c.a c.aJ c.cl::c.outer)) agj c.L (c.ms lf) g Q E) (BE c.w (c.A1 F f L') (F.env f L') E) ⟨aq,gn,c.dr,tk,c.os⟩):
  wpAny (MM c.w) c.A (call (.ref f) bR) Q E ⟨h,gn,c.dr,tk,c.os⟩:=by
 subst hF
 refine R.Z.elim fun o7 h7 N7=>?_
 obtain⟨oc,od,nR,ho⟩:=D.ho
 have X:=ok.X R.H
 refine wpAny_call (codeAny_mono (qo (A:=c.A) (s:=⟨h,gn,c.dr,tk,c.os⟩) (R:=Back Q E) R.H.1 R.Z.F N7 (ok.T R.H).nolimit rfl rfl ok.hk DG ((X.keeps R.Z.F.keep) _ _ ho) rfl (codeRec_of (X.keeps R.Z.F.keep) D.hcd) (Nat.lt_of_le_of_lt (Nat.le_add_right _ _) ok.hd) hb (kindsX (List.all_eq_true.mpr fun x hx=>D.pQ _ (hn x hx))) D.xC (fun g L' aq tk cells FG F' N' Y B' st lt D'=>?_) D.jy D.fy D.mD) fun r s' z=>z)
 exact k g L' aq tk cells (zW R.Z h7 FG F' N' Y B' lt) D'
end
noncomputable def sX(names:List (Str×NameKind)):Bool:=(cellsFrom 0 names []).isEmpty
noncomputable def IG(P:Params)(names:List (Str×NameKind))(tab:List (Addr×fZ))(cd cu:Nat)(tn:Bool)(rz:Prop)(mJ:Expr->List Stmt->Sg->(Sg->Prop)->Prop):Or:=⟨P,names,tab,cd,cu,tn,true,true,sX names,False,(sX names&& !tn)=true/\rz,mJ⟩
noncomputable def JM(names:List (Str×NameKind))(bt:List (Str×SV)):Sg:=⟨pk (nK names) bt [],pk (fun n=> !nK names n) bt [],((cellsFrom 0 names []).map (·.1)).find? fun x=>((pk (fun n=> !nK names n) bt []).lookup x).isNone,[]⟩
noncomputable def II(rt:SV)(kp:SV->Prop):K2:=fun sf σ=>match sf with
 | .ret r=>af (zw σ r) fun p=>af (fit rt p.1) kp
 | .next=>kp .none
 |_=>False
noncomputable def JN(ns:List Str)(bN:List (Str×Value))(args:SV):List (Str×SV):=ns.zip (aX args)++cQ zv bN
def nL(m n:Nat)(P:Params)(f:Addr)(ns:List Str)(rt:SV)(bN:List (Str×Value))(tab:List (Addr×fZ))(cd cu:Nat)(tn:Bool)(mJ:Expr->List Stmt->Sg->(Sg->Prop)->Prop)(args:SV)(kp:SV->Prop)(rz:Prop):Prop:=
 af (sW P f) fun d=>bF ((aX args).length==ns.length) (wpF m n (IG P d.scope.names tab cd cu tn rz mJ) (fdOf d).body (JM d.scope.names (JN ns bN args)) (II rt kp))
noncomputable def Cx.cl'(c:Cx)(F:Fd)(f:Addr)(g:Heap)(L':Addr)(led D0:Led)(tn:Bool)(E:Value->Shared->Prop)(ry:Prop):Cx:=
 ⟨c.w,c.p,c.loose,c.aY,c.mg,c.mb,c.dp+1,c.un+3,c.gd,F.qual,F.scope,f,F.bu,cellsFrom (L'+1) F.scope.names [],envX c.cn c.cs c.L c.a c.aJ c.cl::c.outer,c.A,c.base,g,L',led,L'+1,c.dr,c.os,D0,tn,F.env f L',cellsFrom (L'+1) F.scope.names [],dB,fun _ _=>True,fun E'=>E'=BE c.w (c.A1 F f L') (F.env f L') E,False,ry⟩
noncomputable def isSet(p:Addr×Obj):Bool:=match p.2.data with
 | .cell (some _)=>true
 |_=>false
section
variable{c:Cx}{its:Led}{W:Wd}{σ:Sg}{agj h:Heap}{lf:List (Str×Value)}{led:Led}{gn:Array GenState}{F:Fd}{f:Addr}
theorem lT(names:List (Str×NameKind))(n:Nat):(cellsFrom 0 names []).map (·.1)=(cellsFrom n names []).map (·.1):=cellsFrom_names names 0 n [] [] rfl
theorem Yp{names:List (Str×NameKind)}(h:sX names=true)(n:Nat):cellsFrom n names []=[]:=by
 have e:=lT names n
 rw[List.isEmpty_iff.mp h] at e
 exact List.map_eq_nil_iff.mp e.symm
theorem RR.start{E:Value->Shared->Prop}{tb:List (Str×(SV×Value))}{g aq:Heap}{L':Addr}{cells:Led}{tn:Bool}{ry:Prop}(R:RR c its W σ agj lf led h gn)(N:Ent c agj led F f lf (cQ (·.2) tb) g L' aq cells)
  (hk:∀t∈tb,VR ⟨[],W.D⟩ t.2.1 t.2.2) (hn:∀t∈tb,(F.scope.names.lookup t.1==some .local||F.scope.names.lookup t.1==some .cell)=true) (hD:tn=true->KtsDicts (jb (envX c.cn c.cs c.L c.a c.aJ c.cl::c.outer)) g):
  RR (c.cl' F f g L' led W.D tn E ry) [] ⟨[],cells.filter isSet++W.D⟩ (JM F.scope.names (cQ (·.1) tb)) g (pk (nK F.scope.names) (cQ (·.2) tb) []) (cells++led) aq gn:=by
 have hW:Wd.le ⟨[],W.D⟩ ⟨[],cells.filter isSet++W.D⟩:=⟨⟨[],rfl⟩,fun p hp=>List.mem_append_right _ hp⟩
 have look:∀(f:Str->Bool) x s,(pk f (cQ (·.1) tb) []).lookup x=some s->∃v,(pk f (cQ (·.2) tb) []).lookup x=some v/\VR ⟨[],cells.filter isSet++W.D⟩ s v/\f x=true/\∃t∈tb,t.1=x:=fun f x s e=>by
  rw[show([]:List (Str×SV))=cQ (·.1) ([]:List (Str×(SV×Value))) from rfl,jH,gU] at e
  rw[show([]:List (Str×Value))=cQ (·.2) ([]:List (Str×(SV×Value))) from rfl,jH,gU]
  obtain⟨t,e1,e2⟩:=Option.map_eq_some_iff.mp e
  rcases zV (lK e1) with⟨h1,h2⟩|h1
  ·exact⟨t.2,by rw[e1];rfl,by rw[<-e2];exact(hk _ h2).mono hW,h1,_,h2,rfl⟩
  ·cases h1
 obtain⟨c1,c2⟩:=lS N.C
 refine⟨R.G,N.Z,⟨N.B,?_⟩,fun x s e=>?_,fun x s e=>?_,fun x e=>?_,trivial,rfl,.nil,fun i x e h=>(by cases i<;>cases h),fun p hp=>⟨List.mem_append_right _ hp,Nat.lt_succ_of_lt (N.lt p hp)⟩,fun p hp=>List.mem_append_right _ hp,fun p hp=>?_,fun p hp=>?_,fun p hp=>(nomatch hp),.nil⟩
 ·cases tn with
  |true=>exact⟨hD rfl,.refl⟩
  |false=>exact rfl
 ·obtain⟨v,a,b,_⟩:=look _ x s e
  exact⟨v,a,b⟩
 ·obtain⟨v,a,b,h1,t,h2,h3⟩:=look _ x s e
  have hx:=hn t h2
  rw[h3] at hx
  have h1:nK F.scope.names x=false:=by simpa using h1
  have hx:F.scope.names.lookup x=some .cell:=by
   rcases (Bool.or_eq_true _ _).mp hx with q|q
   ·rw[show nK F.scope.names x=true from q] at h1;cases h1
   ·exact beq_iff_eq.mp q
  obtain⟨ad,e1⟩:=Option.isSome_iff_exists.mp (cellsFrom_some F.scope.names (L'+1) [] (.inl hx))
  obtain⟨o,o1,o2⟩:=c1 x ad e1
  have o2:o.data=.cell (some v):=by rw[o2];exact congrArg _ a
  exact⟨ad,o,v,e1,List.mem_append_left _ (List.mem_filter.mpr ⟨o1,by unfold isSet;rw[o2]⟩),o2,b⟩
 ·have e1:=List.mem_of_find?_eq_some e
  have e2:=List.find?_some e
  rw[lT _ (L'+1)] at e1
  obtain⟨ad,e3⟩:=Option.isSome_iff_exists.mp (uQ e1)
  obtain⟨o,o1,o2⟩:=c1 x ad e3
  have US:(pk (fun n=> !nK F.scope.names n) (cQ (·.2) tb) []).lookup x=none:=by
   rw[show([]:List (Str×SV))=cQ (·.1) ([]:List (Str×(SV×Value))) from rfl,jH,gU] at e2
   rw[show([]:List (Str×Value))=cQ (·.2) ([]:List (Str×(SV×Value))) from rfl,jH,gU]
   cases q:(pk (fun n=> !nK F.scope.names n) tb []).lookup x with
   |none=>rfl
   |some t=>rw[q] at e2;cases e2
  have o2:o.data=.cell none:=by rw[o2];exact congrArg _ US
  refine⟨ad,o,e3,List.mem_append_left _ o1,o2,N.lo _ o1,fun q hq mO=>?_,fun q hq=>(nomatch hq)⟩
  rcases List.mem_append.mp hq with hq|hq
  ·obtain⟨q1,q2⟩:=List.mem_filter.mp hq
   have hs:=N.Z.S.app.1
   have:q.2=o:=by
    have a:=(N.Z.N _ (List.mem_append_left _ q1)).1
    have b:=(N.Z.N _ (List.mem_append_left led o1)).1
    rw[mO] at a
    exact Option.some.inj (a.symm.trans b)
   unfold isSet at q2
   rw[this,o2] at q2
   cases q2
  ·exact absurd mO (Nat.ne_of_lt (Nat.lt_of_lt_of_le (Nat.lt_succ_of_lt (N.lt _ (R.dl q hq))) (N.lo _ o1)))
 ·exact(List.mem_append.mp hp).elim (fun k=>List.mem_append_left _ (List.mem_filter.mp k).1) fun k=>List.mem_append_right _ (R.dl p k)
 ·exact(List.mem_append.mp hp).elim (fun k=>.inr (N.lo p (List.mem_filter.mp k).1)) .inl
end
section
variable{c:Cx}{its:Led}{W:Wd}{σ:Sg}{agj h:Heap}{lf:List (Str×Value)}{led:Led}{gn:Array GenState}{f:Addr}
theorem IJ{ρ:List Addr}{s:SV}{vs:List Value}(c:jE s=true)(h:VL W s vs):VL ⟨ρ,W.D⟩ s vs:=(uF (ρ:=W.ρ) s c).2 vs h
theorem IK{ρ:List Addr}{s:SV}{v:Value}(c:jE s=true)(h:VR W s v):VR ⟨ρ,W.D⟩ s v:=(uF (ρ:=W.ρ) s c).1 v h
noncomputable def CU(ns:List Str)(bN:List (Str×Value))(args:SV)(bR:List Value):List (Str×(SV×Value)):=ns.zip ((aX args).zip bR)++bN.map fun p=>(p.1,(zv p.2,p.2))
theorem lU{α β γ:Type}(g:β->γ):∀(ns:List Str) (l:List β),cQ g (ns.zip l)=ns.zip (l.map g)
 |[],l=>by cases l<;>rfl
 |n::ns,[]=>rfl
 |n::ns,b::l=>congrArg (((n,g b):Str×γ)::·) (lU (α:=α) g ns l)
theorem Yq{ns:List Str}{bN:List (Str×Value)}{args:SV}{bR:List Value}(h:(aX args).length=bR.length):cQ (·.1) (CU ns bN args bR)=JN ns bN args:=by
 unfold CU JN
 rw[show ∀a b:List (Str×(SV×Value)),cQ (·.1) (a++b)=cQ (·.1) a++cQ (·.1) b from fun a b=>List.map_append,lU (α:=Unit),List.map_fst_zip (Nat.le_of_eq h)]
 congr 1
 exact List.map_map
theorem Yr{ns:List Str}{bN:List (Str×Value)}{args:SV}{bR:List Value}(h:(aX args).length=bR.length):cQ (·.2) (CU ns bN args bR)=ns.zip bR++bN:=by
 unfold CU
 rw[show ∀a b:List (Str×(SV×Value)),cQ (·.2) (a++b)=cQ (·.2) a++cQ (·.2) b from fun a b=>List.map_append,lU (α:=Unit),List.map_snd_zip (Nat.le_of_eq h.symm)]
 congr 1
 exact List.map_map.trans (List.map_id _)
theorem Ys{ns:List Str}{bN:List (Str×Value)}{args:SV}{bR:List Value}(h:VA W (aX args) bR):∀t∈CU ns bN args bR,VR W t.2.1 t.2.2:=fun t ht=>by
 rcases List.mem_append.mp ht with ht|ht
 ·have ht:=(List.of_mem_zip (a:=t.1) (b:=t.2) ht).2
  obtain⟨i,hi,e⟩:=List.mem_iff_getElem.mp ht
  rw[List.getElem_zip] at e
  have mG:i<(aX args).length:=by rw[List.length_zip] at hi;exact Nat.lt_of_lt_of_le hi (Nat.min_le_left _ _)
  obtain⟨v,a,b⟩:=h.2 i _ (List.getElem?_eq_getElem mG)
  have e1:t.2.1=(aX args)[i]:=by rw[<-e]
  have e2:t.2.2=v:=by rw[<-e];rw[List.getElem?_eq_getElem (h.1▸mG)] at a;exact Option.some.inj a
  rw[e1,e2]
  exact b
 ·obtain⟨p,_,e⟩:=List.mem_map.mp ht
  rw[<-e]
  exact oz W p.2
theorem zX{ns:List Str}{bN:List (Str×Value)}{args:SV}{bR:List Value}:∀t∈CU ns bN args bR,t.1∈ns++bN.map (·.1):=fun t ht=>by
 rcases List.mem_append.mp ht with ht|ht
 ·exact List.mem_append_left _ (List.of_mem_zip (a:=t.1) (b:=t.2) ht).1
 ·obtain⟨p,hp,e⟩:=List.mem_map.mp ht
  exact List.mem_append_right _ (List.mem_map.mpr ⟨p,hp,by rw[<-e]⟩)
def qE(f:Addr)(tab:List (Addr×fZ))(cd cu:Nat)(tn:Bool)(mJ:Params->Expr->List Stmt->Sg->(Sg->Prop)->Prop):Prop:=
 ∀P d rz c,sW P f=some d->c8 c (IG P d.scope.names tab cd cu tn rz (mJ P))->FF c (IG P d.scope.names tab cd cu tn rz (mJ P))->(∀E,c.ex E->∃eY,E=BE c.w c.A c.env eY)->∀W σ k test body pos,mJ P test body σ k->Ex c (exec (.While test body [] pos) c.env) W σ fun sf aB=>sf=.next/\k aB
theorem bJ{tab:List (Addr×fZ)}{cd cu:Nat}{tn:Bool}:qE f tab cd cu tn fun _ _ _ _ _=>False:=fun _ _ _ _ _ _ _ _ _ _ _ _ _ _ h=>False.elim h
theorem qF{Φ:Or->List Stmt->Sg->K2->Prop}(hΦ:∀(c:Cx) (o:Or) b W σ k,q8 c o->Φ o b σ k->Eb c (execs b c.env) W σ k){cd cu:Nat}{rt:SV}{tn:Bool}{tab:List (Addr×fZ)}{mJ:Params->Expr->List Stmt->Sg->(Sg->Prop)->Prop}{tb:List (Str×(SV×Value))}{ns:List Str}{d:FuncData}{g aq:Heap}{L':Addr}{tk:Nat}{cells:Led}{E:Value->Shared->Prop}{Qf:Flow->Shared->Prop}{kp:SV->Prop}
  (ht:bX tab) (hw:qE f tab cd cu tn mJ) (ok:mH c (cd+1) (cu+3)) (xr:XR c) (R:RR c its W σ agj lf led h gn) (he:c.ex E) (hd:sW c.w.params f=some d) (D:CT c.w.params f ns d) (N:Ent c agj led (fdOf d) f lf (cQ (·.2) tb) g L' aq cells)
  (hk:∀t∈tb,VR ⟨[],W.D⟩ t.2.1 t.2.2) (hn:∀t∈tb,t.1∈ns) (hD:tn=true->KtsDicts (jb (envX c.cn c.cs c.L c.a c.aJ c.cl::c.outer)) g)
  (hp:Φ (IG c.w.params d.scope.names tab cd cu tn c.rz (mJ c.w.params)) (fdOf d).body (JM d.scope.names (cQ (·.1) tb)) (II rt kp))
  (hq:∀s,Qf (.ret .none) s->Qf .next s)
  (fin:∀ry W3 r u dQ zY bH CV jW h3 A8 IL,RR (c.cl' (fdOf d) f g L' led W.D tn E ry) zY W3 dQ bH CV jW h3 A8->VR W3 r u->jE r=true->kp r->Qf (.ret u) ⟨h3,A8,c.dr,IL,c.os⟩):
  wpAny (MM c.w) (c.A1 (fdOf d) f L') (execs (fdOf d).body ((fdOf d).env f L')) Qf (BE c.w (c.A1 (fdOf d) f L') ((fdOf d).env f L') E) ⟨aq,gn,c.dr,tk,c.os⟩:=by
 let ry:Prop:=(sX d.scope.names&& !tn)=true/\c.rz
 let c':=c.cl' (fdOf d) f g L' led W.D tn E ry
 let o:=IG c.w.params d.scope.names tab cd cu tn c.rz (mJ c.w.params)
 have F':FF c' o:=⟨rfl,rfl,rfl,rfl,rfl⟩
 have Yj:mH c' o.cd o.cu:=⟨ok.XB,ok.TB,D.mD,by have:=ok.hd;show c.dp+1+cd<_;exact Yl this,by have:=ok.hu;show c.un+3+cu<_;exact Ym this⟩
 have S':c8 c' o:=⟨Yj,rfl,id,rfl,fun E' _ CS=>False.elim CS,ht,Xy F' Yj rfl,fun _=>F'⟩
 have cal:sX d.scope.names=true->Cal c' c.dp c.un c.cn c.cs c.L c.a c.aJ c.cl c.outer:=fun hn=>⟨rfl,rfl,rfl,rfl,Yp hn (L'+1)⟩
 have K':q8 c' o:=⟨S',F',fun _ E' e=>⟨E,e⟩,id,fun hy=>⟨show tn=false by have:=(nb hy.1).2;simpa using this,c.dp,c.un,c.cn,c.cs,c.L,c.a,c.aJ,c.cl,c.outer,agj,c.ms lf,cal (nb hy.1).1,N.FG,fun E' e=>⟨E,e,xr E he hy.2 its W σ agj lf led h gn R⟩⟩,
  fun hn=>⟨c.dp,c.un,c.cn,c.cs,c.L,c.a,c.aJ,c.cl,c.outer,cal hn⟩,fun _=>hw _ d _ c' hd S' F' fun E' e=>⟨E,e⟩⟩
 have R1:=R.start (E:=E) (tn:=tn) (ry:=ry) N hk (fun t ht=>D.pQ _ (hn t ht)) hD
 refine hΦ c' o _ _ _ _ K' hp [] _ Qf _ ⟨_,_,_,_,_,_,rfl,R1⟩ rfl fun W' v b aB its' s' hr cM fJ=>?_
 obtain⟨bH,CV,jW,h3,A8,IL,e,R3⟩:=cM
 rw[e]
 cases b with
 |next=>rw[show v=.next from hr];exact hq _ (fin ry W' .none .none aB its' bH CV jW h3 A8 IL R3 rfl rfl fJ)
 |ret sr=>
  obtain⟨u,e2,hu⟩:=hr
  refine aa fJ fun p h1 fJ=>?_
  refine aa fJ fun r' h2 fJ=>?_
  obtain⟨W3,l,v3,R4,c3⟩:=R3.zw hu h1
  obtain⟨f1,f2⟩:=Yo rt p.1 r' h2
  rw[e2]
  exact fin ry W3 r' u p.2 its' bH CV jW h3 A8 IL R4 ((f1 W3).1 u v3) (f2 c3) fJ
 |_=>exact False.elim fJ
noncomputable def bnd(P:Params)(f:Addr)(S:Setting)(bR:List Value):Option (List (Str×Value)):=(sW P f).bind fun d=>peek (KK P) S (bindArgs (fdOf d).fn ⟨bR,[]⟩)
def bdP(Φ:Or->List Stmt->Sg->K2->Prop)(P:Params)(f:Addr)(ns:List Str)(rt:SV)(bN:List (Str×Value))(tab:List (Addr×fZ))(cd cu:Nat)(tn:Bool)(mJ:Expr->List Stmt->Sg->(Sg->Prop)->Prop)(args:SV)(kp:SV->Prop)(rz:Prop):Prop:=
 af (sW P f) fun d=>bF ((aX args).length==ns.length) (Φ (IG P d.scope.names tab cd cu tn rz mJ) (fdOf d).body (JM d.scope.names (JN ns bN args)) (II rt kp))
theorem CW{Φ:Or->List Stmt->Sg->K2->Prop}(hΦ:∀(c:Cx) (o:Or) b W σ k,q8 c o->Φ o b σ k->Eb c (execs b c.env) W σ k){cd cu:Nat}{rt:SV}{tn:Bool}{tab:List (Addr×fZ)}{mJ:Params->Expr->List Stmt->Sg->(Sg->Prop)->Prop}{ns:List Str}{bN:List (Str×Value)}{con:SV->(SV->Prop)->Prop->Prop}
  (ht:bX tab) (hw:qE f tab cd cu tn mJ) (chk:∀P,uR P f (ns++bN.map (·.1))=true)
  (hb:∀P S bR,bR.length=ns.length->bnd P f S bR=some (ns.zip bR++bN))
  (hc:∀P args kp rz,Gd args->con args kp rz->∃a',Wk args a'/\jE a'=true/\bdP Φ P f ns rt bN tab cd cu tn (mJ P) a' kp rz):ao f ⟨cd+1,cu+3,tn,con⟩:=by
 intro c W σ args bR kp ok htn xr CX hv b9 its s Q E hs he kk
 obtain⟨agj,lf,led,h,gn,tk,rfl,R⟩:=hs
 obtain⟨zZ,hwk,CX,hp⟩:=hc c.w.params args kp c.rz ((gd_ args).2 bR hv) b9
 replace hv:=(hwk W).2 bR hv
 clear hwk b9
 refine aa hp fun d hd hp=>?_
 refine ai hp fun gl hp=>?_
 obtain⟨d',hd',D⟩:=IF (chk c.w.params)
 have e0:d'=d:=Option.some.inj (hd'.symm.trans hd)
 rw[e0] at D
 have va:=(IJ (ρ:=[]) CX hv).aX
 have hlen:=va.1
 have hb1:BindsTo ⟨h,gn,c.dr,tk,c.os⟩ (fdOf d).fn ⟨bR,[]⟩ (ns.zip bR++bN):=kp_binds ((ok.X R.H).keeps R.Z.F.keep) fun S=>by
  have e:=hb c.w.params S bR (by rw[<-hlen];exact beq_iff_eq.mp gl)
  unfold bnd at e
  rw[hd] at e
  exact e
 rw[<-Yr (ns:=ns) (bN:=bN) hlen] at hb1
 rw[<-Yq (ns:=ns) (bN:=bN) hlen] at hp
 have hk:=Ys (ns:=ns) (bN:=bN) va
 have hn:∀x∈cQ (·.2) (CU ns bN zZ bR),x.1∈ns++bN.map (·.1):=fun x hx=>by
  obtain⟨t,ht,e⟩:=List.mem_map.mp hx
  rw[<-e]
  exact zX t ht
 have fP:cj led/\(∀p∈led,@LT.lt Nat _ 277 p.1)/\Split led c.nw c.d/\@LE.le Nat _ c.d (c.L+1):=⟨R.Z.S,R.Z.lo,R.Z.P,R.Z.D⟩
 have sub:∀{g L' tn ry zY W3 dQ bH CV jW h3 A8},RR (c.cl' (fdOf d) f g L' led W.D tn E ry) zY W3 dQ bH CV jW h3 A8->(∀p∈led,p∈jW)/\∀tl,(∀p∈jW,Ge (L'+1) p.1->p∈tl)->∀p∈W3.D,p∈tl++W.D:=fun R3=>
  ⟨fun p hp=>(R3.jF p hp).1,fun tl k p hp=>(R3.d1 p hp).elim (fun q=>List.mem_append_right _ q) fun q=>List.mem_append_left _ (k p (R3.dl p hp) q)⟩
 have give:∀{W3:Wd} {r:SV} {u:Value} {tl:Led} {di h' bB aN},VR W3 r u->jE r=true->kp r->(∀p∈W3.D,p∈tl++W.D)->St di c.L c.nw c.d h' (c.ms lf) (tl++led)->HB c di->AllBare bB->Q u ⟨h',bB,c.dr,aN,c.os⟩:=fun {W3 r u tl di h' bB aN} hv JO Yt Gf Z' H' G'=>
  kk ⟨W.ρ,tl++W.D⟩ u r σ _ ⟨⟨[],by simp⟩,fun p hp=>List.mem_append_right _ hp⟩ ((IK (ρ:=W.ρ) JO hv).mono ⟨⟨[],by simp⟩,Gf⟩) ⟨di,lf,_,h',bB,aN,rfl,R.grow Z' H' G'⟩ ⟨rfl,JO,Yt⟩
 cases tn with
 |false=>
  refine adY ok R D rfl hb1 hn fun g L' aq tk1 cells N=>?_
  refine qF hΦ (tb:=CU ns bN zZ bR) ht hw ok xr R he hd D N hk zX (fun e=>Bool.noConfusion e) hp (fun s q=>q) fun ry W3 r u dQ zY bH CV jW h3 A8 IL R3 hv JO Yt=>?_
  obtain⟨s1,s2⟩:=sub R3
  have Z3:=R3.Z
  rw[show bH=g from R3.H.2] at Z3
  exact z_end (P:=fun tl r'=>r'=u/\∀p∈W3.D,p∈tl++W.D) (fun r' tl h' bB aN Z' G' hP=>by rw[hP.1];exact give hv JO Yt hP.2 Z' R.H G') fP Z3 R3.G N.lt N.hL s1 fun tl _ k=>⟨rfl,s2 tl k⟩
 |true=>
  have htu:=htn rfl
  have hh:=R.H.2
  rw[htu] at hh
  refine adZ ok R hh.1 D rfl hb1 hn fun g L' aq tk1 cells N DG=>?_
  refine qF hΦ (tb:=CU ns bN zZ bR) ht hw ok xr R he hd D N hk zX (fun _=>DG) hp (fun s q=>q) fun ry W3 r u dQ zY bH CV jW h3 A8 IL R3 hv JO Yt=>?_
  obtain⟨s1,s2⟩:=sub R3
  exact Hf (P:=fun tl r'=>r'=u/\∀p∈W3.D,p∈tl++W.D) (fun r' tl h' bB aN di B5 B' D' Z' G' hP=>by rw[hP.1];exact give hv JO Yt hP.2 Z' ⟨B',by rw[htu];exact⟨D',hh.2.trans B5⟩⟩ G') R3.H.2.2 fP R3.Z R3.G N.lt N.hL s1 fun tl _ k=>⟨rfl,s2 tl k⟩
theorem aG{m n cd cu:Nat}{rt:SV}{tn:Bool}{tab:List (Addr×fZ)}{mJ:Params->Expr->List Stmt->Sg->(Sg->Prop)->Prop}{ns:List Str}{bN:List (Str×Value)}{con:SV->(SV->Prop)->Prop->Prop}
  (ht:bX tab) (hw:qE f tab cd cu tn mJ) (chk:∀P,uR P f (ns++bN.map (·.1))=true)
  (hb:∀P S bR,bR.length=ns.length->bnd P f S bR=some (ns.zip bR++bN))
  (hc:∀P args kp rz,Gd args->con args kp rz->∃a',Wk args a'/\jE a'=true/\nL (m+1) n P f ns rt bN tab cd cu tn (mJ P) a' kp rz):ao f ⟨cd+1,cu+3,tn,con⟩:=
 CW (Φ:=wpF (m+1) n) (fun c o b W σ k S h=>xh S h) ht hw chk hb hc
end
theorem len0{p:List Value->Prop}(h:p [])(l:List Value)(e:l.length=0):p l:=by rw[List.length_eq_zero_iff.mp e];exact h
theorem CY{n:Nat}{p:List Value->Prop}(h:∀a l,l.length=n->p (a::l))(l:List Value)(e:l.length=n+1):p l:=by
 cases l with
 |nil=>exact Nat.noConfusion e
 |cons a l=>exact h a l (Nat.succ.inj e)
theorem fY{p:List Value->Prop}(h:∀a,p [a]):∀l:List Value,l.length=1->p l:=CY fun a=>len0 (p:=fun l=>p (a::l)) (h a)
theorem dK{p:List Value->Prop}(h:∀a b,p [a,b]):∀l:List Value,l.length=2->p l:=CY fun a=>fY (p:=fun l=>p (a::l)) (h a)
theorem mS{p:List Value->Prop}(h:∀a b c,p [a,b,c]):∀l:List Value,l.length=3->p l:=CY fun a=>dK (p:=fun l=>p (a::l)) (h a)
theorem ad0{p:List Value->Prop}(h:∀a b c d,p [a,b,c,d]):∀l:List Value,l.length=4->p l:=CY fun a=>mS (p:=fun l=>p (a::l)) (h a)
abbrev nw:Expr->List Stmt->Sg->(Sg->Prop)->Prop:=fun _ _ _ _=>False
noncomputable def uS:IC:=⟨0,false,true,false,false⟩
noncomputable def Eo:IC:=⟨810,false,false,false,false⟩
theorem ao.two{f:Addr}{C D:fZ}(h:ao f C)(k:ao f D)(e1:D.cd=C.cd)(e2:D.cu=C.cu)(e3:D.tn=C.tn):ao f ⟨C.cd,C.cu,C.tn,fun args kp rz=>match cN args with
  |some _=>C.con args kp rz
  |none=>D.con args kp rz⟩:=by
 intro c W σ args bR kp ok ht xr CX hv b9
 have b9:(match cN args with
  |some _=>C.con args kp c.rz
  |none=>D.con args kp c.rz):=b9
 cases e:cN args with
 |some a=>rw[e] at b9;exact h c W σ args bR kp ok ht xr CX hv b9
 |none=>rw[e] at b9;exact k c W σ args bR kp (by rw[e1,e2];exact ok) (by rw[e3];exact ht) xr CX hv b9
theorem get3{c:IC}{args:SV}{k:Int×Int->Int×Int->Int->Prop}(h:af (eX args) fun a=>af (wP c a.1) fun v=>af (wP c a.2.1) fun w=>af (wI f9 a.2.2) fun p=>k v w p):∃v w p,Wk args (.cons (tupI c v) (.cons (tupI c w) (.cons (.int p f9) .nil)))/\k v w p:=by
 refine aa h fun a h1 h=>?_
 refine aa h fun v h2 h=>?_
 refine aa h fun w h3 h=>?_
 refine aa h fun p h4 h=>?_
 rw[dU h1]
 exact⟨v,w,p,.cons (Em h2) (.cons (Em h3) (.cons (iF h4).1 .rfl)),h⟩
theorem IM{args:SV}{k:Int×Int->Int->Prop}(h:af (cJ args) fun a=>af (wP fH a.1) fun v=>af (wI f9 a.2) fun p=>k v p):∃v p,Wk args (.cons (tupI fH v) (.cons (.int p f9) .nil))/\k v p:=by
 refine aa h fun a h1 h=>?_
 refine aa h fun v h2 h=>?_
 refine aa h fun p h4 h=>?_
 rw[bY h1]
 exact⟨v,p,.cons (Em h2) (.cons (iF h4).1 .rfl),h⟩
theorem CZ{args:SV}{c:IC}{k:Int->Prop}(h:af (cN args) fun a=>af (wI c a) fun p=>k p):∃p,Wk args (.cons (.int p c) .nil)/\k p:=by
 refine aa h fun a h1 h=>?_
 refine aa h fun p h4 h=>?_
 rw[fX h1]
 exact⟨p,.cons (iF h4).1 .rfl,h⟩
def jt(args:SV)(kp:SV->Prop)(_:Prop):Prop:=af (eX args) fun a=>af (wP Eo a.1) fun v=>af (wP Eo a.2.1) fun w=>af (wI f9 a.2.2) fun p=>∀r,r=aF p v w->kp (lF r)
theorem oG:ao 434 ⟨1,3,false,jt⟩:=
 aG (m:=7) (n:=2) (rt:=.none) (ns:=["here","there","p"]) (bN:=[]) .nil bJ (fun P=>by kernel_rfl) (fun P S=>mS fun a b c=>by kernel_rfl) fun P args kp rz _ h=>
  let⟨v,w,p,e,h⟩:=get3 h
  ⟨_,e,rfl,Eq.mp (by kernel_rfl) (h _ rfl)⟩
def uT(args:SV)(kp:SV->Prop)(_:Prop):Prop:=af (eX args) fun a=>af (wP fH a.1) fun v=>af (wP fH a.2.1) fun w=>af (wI f9 a.2.2) fun p=>∀r,r=cG p v w->kp (lF r)
theorem Yu:ao 441 ⟨1,3,false,uT⟩:=
 aG (m:=7) (n:=2) (rt:=.none) (ns:=["here","there","p"]) (bN:=[]) .nil bJ (fun P=>by kernel_rfl) (fun P S=>mS fun a b c=>by kernel_rfl) fun P args kp rz _ h=>
  let⟨v,w,p,e,h⟩:=get3 h
  ⟨_,e,rfl,Eq.mp (by kernel_rfl) (h _ rfl)⟩
def uU(args:SV)(kp:SV->Prop)(_:Prop):Prop:=af (cJ args) fun a=>af (wP fH a.1) fun v=>af (wI f9 a.2) fun p=>∀r,r=cz p v->kp (lF r)
theorem Yv:ao 448 ⟨2,6,false,uU⟩:=
 aG (m:=7) (n:=2) (rt:=.none) (ns:=["pair","p"]) (bN:=[]) (.cons oG (fun P=>by kernel_rfl) .nil) bJ (fun P=>by kernel_rfl) (fun P S=>dK fun a b=>by kernel_rfl) fun P args kp rz _ h=>
  let⟨v,p,e,h⟩:=IM h
  ⟨_,e,rfl,Eq.mp (by kernel_rfl) (show ∀r,r=aF p v v->∀r',r'=aF p v r->kp (lF r') from fun r e r' e'=>h r' (by rw[e',e];rfl))⟩
def uV(args:SV)(kp:SV->Prop)(_:Prop):Prop:=af (cN args) fun a=>af (fh a) fun x=>kp (lF x.2)
theorem Yw:ao 476 ⟨1,3,false,uV⟩:=
 aG (m:=7) (n:=2) (rt:=.none) (ns:=["element"]) (bN:=[]) .nil bJ (fun P=>by kernel_rfl) (fun P S=>fY fun a=>by kernel_rfl) fun P args kp rz _ h=>by
  refine aa h fun a h1 h=>?_
  refine aa h fun x h2 h=>?_
  rw[fX h1,dZ h2]
  exact⟨.cons (.aU x.1 x.2) .nil,.rfl,rfl,Eq.mp (by kernel_rfl) h⟩
def uW(args:SV)(kp:SV->Prop)(_:Prop):Prop:=af (cJ args) fun a=>af (wP fH a.1) fun v=>af (wI f9 a.2) fun p=>kp (.bool (gz p v) false)
theorem Yx:ao 469 ⟨1,13,false,uW⟩:=
 aG (m:=7) (n:=2) (rt:=.none) (ns:=["pair","p"]) (bN:=[]) .nil bJ (fun P=>by kernel_rfl) (fun P S=>dK fun a b=>by kernel_rfl) fun P args kp rz _ h=>
  let⟨v,p,e,h⟩:=IM h
  ⟨_,e,rfl,Eq.mp (by kernel_rfl) h⟩
noncomputable def JP:IC:=⟨6,false,true,false,false⟩
def z3(args:SV)(kp:SV->Prop)(_:Prop):Prop:=af (cN args) fun a=>af (wI uS a) fun n=>kp (.int (jo n) JP)
theorem ad1:ao 490 ⟨1,3,false,z3⟩:=
 aG (m:=7) (n:=2) (rt:=.int 0 JP) (ns:=["number"]) (bN:=[]) .nil bJ (fun P=>by kernel_rfl) (fun P S=>fY fun a=>by kernel_rfl) fun P args kp rz _ h=>
  let⟨n,e,h⟩:=CZ h
  ⟨_,e,rfl,Eq.mp (by kernel_rfl) (show(decide (n.fmod 8<6)=true->kp (.int (4+n.fmod 2) JP))/\(decide (n.fmod 8<6)=false->kp (.int ((n.fdiv 8).fmod 8) JP)) from
   ⟨fun q=>by rw[jo,if_pos (of_decide_eq_true q)] at h;exact h,fun q=>by rw[jo,if_neg (of_decide_eq_false q)] at h;exact h⟩)⟩
def z4(args:SV)(kp:SV->Prop)(_:Prop):Prop:=af (cJ args) fun a=>af (wB a.1) fun x=>af (wB a.2) fun y=>kp (.bool (x==y) false)
theorem IP:ao 511 ⟨1,3,false,z4⟩:=
 aG (m:=7) (n:=2) (rt:=.none) (ns:=["found","due"]) (bN:=[]) .nil bJ (fun P=>by kernel_rfl) (fun P S=>dK fun a b=>by kernel_rfl) fun P args kp rz _ h=>by
  refine aa h fun a h1 h=>?_
  refine aa h fun x h2 h=>?_
  refine aa h fun y h3 h=>?_
  rw[bY h1]
  exact⟨.cons (.bool x false) (.cons (.bool y false) .nil),.cons (wB_ h2) (.cons (wB_ h3) .rfl),rfl,Eq.mp (by kernel_rfl) (show(y=true->kp (.bool (x==true) false))/\(y=false->kp (.bool (x==false) false)) from⟨fun e=>e▸h,fun e=>e▸h⟩)⟩
def oH(args:SV)(kp:SV->Prop)(_:Prop):Prop:=af (cJ args) fun a=>af (dw a.1) fun v=>af (wI f9 a.2) fun q=>kp (.fq q (v.1.fmod q))
theorem Ev.old{c:Cx}{its:Led}{W:Wd}{σ:Sg}{agj:Heap}{lf:List (Str×Value)}{led h gn}(R:RR c its W σ agj lf led h gn){r:SV}{k:SV->Prop}(hk:k r)(hc:jE r=true){Q:Value->Shared->Prop}(kk:∀W' v b aB s',W.le W'->VR W' b v->RS c its W' aB s'->(aB=σ/\jE b=true/\k b)->Q v s'){P:Led->Value->Prop}(hP:∀tl v,P tl v->VR ⟨W.ρ,tl++W.D⟩ r v):yx agj c.L c.nw c.d (c.ms lf) led c.dr c.os Q P:=fun v tl h' bB aN Z' G' p=>
 kk ⟨W.ρ,tl++W.D⟩ v r σ _ ⟨⟨[],by simp⟩,fun p hp=>List.mem_append_right _ hp⟩ (hP tl v p) ⟨agj,lf,_,h',bB,aN,rfl,R.grow Z' R.H G'⟩ ⟨rfl,hc,hk⟩
theorem Ep:ao 264 ⟨5,50,false,oH⟩:=by
 intro c W σ args bR kp ok _ _ _ hv b9 its s Q E hs _ kk
 refine aa b9 fun a h1 b9=>?_
 refine aa b9 fun v h2 b9=>?_
 refine aa b9 fun q h3 b9=>?_
 obtain⟨x,y,e,k1,k2⟩:=nB h1 hv
 rw[bL h2] at k1
 obtain⟨t,e1,_⟩:=k1
 obtain⟨u,e2,hq⟩:=((iF h3).1 W).1 _ k2
 have hQ:Qf q:=hq.m rfl
 have h1:=hQ.one
 obtain⟨agj,lf,led,h,gn,tk,rfl,R⟩:=hs
 rw[e,e1,e2]
 exact Ck R.H.1 R.Z (ok.X R.H) (ok.T R.H) ok.hk R.G ok.hd ok.hu (by exact jc h1) (Ev.old R b9 rfl kk fun tl r ⟨x,e3,⟨ha,hb⟩⟩=>
  ⟨x,e3,⟨⟨List.mem_append_left _ ha,List.mem_append_left _ hb⟩,Int.fmod_nonneg_of_pos _ (by exact jc h1),Int.fmod_lt_of_pos _ (by exact jc h1)⟩,hQ⟩)
noncomputable def xj(s:SV):Option (Int×Int):=(cJ s).bind fun a=>(dw a.1).bind fun x=>(dw a.2).map fun y=>(x.1,y.1)
noncomputable def xm(s:SV):Option (Int×Int):=match pe s with
 |some r=>xj r
 |none=>(om s).bind xj
def uX(args:SV)(kp:SV->Prop)(_:Prop):Prop:=af (eX args) fun a=>af (xm a.1) fun v=>af (wT a.2.1) fun m=>af (dw m.1) fun x=>af (dw m.2) fun y=>bF (x.1==1&&y.1==0) (af (wI f9 a.2.2) fun q=>kp (.aU q (v.1.fmod q,v.2.fmod q)))
theorem Er{W:Wd}{s:SV}{v:Int×Int}{vs:List Value}(h:xj s=some v)(hv:VL W s vs):∃t u,vs=[.int v.1 t,.int v.2 u]:=by
 refine ah h fun a h1 h=>?_
 refine ah h fun x h2 h=>?_
 obtain⟨y,h3,h⟩:=Option.map_eq_some_iff.mp h
 obtain⟨v1,v2,e,k1,k2⟩:=nB h1 hv
 rw[bL h2] at k1
 rw[bL h3] at k2
 obtain⟨t,e1,_⟩:=k1
 obtain⟨u,e2,_⟩:=k2
 rw[<-h]
 exact⟨t,u,by rw[e,e1,e2]⟩
theorem Yy{W:Wd}{s:SV}{v:Int×Int}{x:Value}(h:xm s=some v)(hv:VR W s x):∃a o t u,x=.ref a/\(a,o)∈W.D/\jR o [.int v.1 t,.int v.2 u]:=by
 unfold xm at h
 cases ht:pe s with
 |some r=>
  rw[ht] at h
  rw[gK ht] at hv
  obtain⟨a,vs,n,e,hm,hv⟩:=hv
  obtain⟨t,u,e2⟩:=Er h hv
  exact⟨a,_,t,u,e,hm,n,.inr (by rw[e2])⟩
 |none=>
  rw[ht] at h
  obtain⟨r,hr,h⟩:=iD (show(om s).bind xj=some v from h)
  rw[ir hr] at hv
  obtain⟨a,vs,n,e,hm,hv⟩:=hv
  obtain⟨t,u,e2⟩:=Er h hv
  exact⟨a,_,t,u,e,hm,n,.inl (by rw[e2])⟩
theorem Yz:ao 418 ⟨5,50,false,uX⟩:=by
 intro c W σ args bR kp ok _ _ _ hv b9 its s Q E hs _ kk
 refine aa b9 fun a h1 b9=>?_
 refine aa b9 fun v h2 b9=>?_
 refine aa b9 fun m h3 b9=>?_
 refine aa b9 fun x h4 b9=>?_
 refine aa b9 fun y h5 b9=>?_
 refine ai b9 fun g b9=>?_
 refine aa b9 fun q h6 b9=>?_
 obtain⟨v1,v2,v3,e,k1,k2,k3⟩:=zF h1 hv
 obtain⟨a1,o1,t1,u1,e1,m1,s1⟩:=Yy h2 k1
 refine ah h3 fun r h7 h8=>?_
 rw[gK h7] at k2
 obtain⟨a2,vs,n,e2,m2,XA⟩:=k2
 obtain⟨w1,w2,e4,k4,k5⟩:=nB h8 XA
 rw[bL h4] at k4
 rw[bL h5] at k5
 obtain⟨t4,e5,_⟩:=k4
 obtain⟨t5,e6,_⟩:=k5
 obtain⟨u,e3,hq⟩:=((iF h6).1 W).1 _ k3
 have hQ:Qf q:=hq.m rfl
 have h1:=hQ.one
 rw[e4,e5,e6,beq_iff_eq.mp (nb g).1,beq_iff_eq.mp (nb g).2] at m2
 obtain⟨agj,lf,led,h,gn,tk,rfl,R⟩:=hs
 rw[e,e1,e2,e3]
 exact Ce R.H.1 R.Z (ok.X R.H) (ok.T R.H) ok.hk R.G ok.hd ok.hu (R.dl _ m1) s1 ⟨R.dl _ m2⟩ (by exact jc h1) (Ev.old R b9 rfl kk fun tl r ⟨x,e7,hx⟩=>
  ⟨x,e7,⟨kY.aU hx (fun p hp=>List.mem_append_left _ hp) ⟨List.mem_append_right _ m2⟩,eV (by exact jc h1) _ _⟩,hQ⟩)
noncomputable abbrev ad2:List (Addr×fZ):=[(418,⟨5,50,false,uX⟩),(264,⟨5,50,false,oH⟩)]
theorem oJ:bX ad2:=.cons Yz (fun P=>by kernel_rfl) (.cons Ep (fun P=>by kernel_rfl) .nil)
def lV(args:SV)(kp:SV->Prop)(_:Prop):Prop:=af (cJ args) fun a=>af (wP fH a.1) fun v=>af (wI f9 a.2) fun p=>kp (.aU p (aD p v))
theorem z5:ao 455 ⟨6,53,false,lV⟩:=
 aG (m:=11) (n:=2) (rt:=.none) (ns:=["pair","p"]) (bN:=[]) oJ bJ (fun P=>by kernel_rfl) (fun P S=>dK fun a b=>by kernel_rfl) fun P args kp rz _ h=>
  let⟨v,p,e,h⟩:=IM h
  ⟨_,e,rfl,Eq.mp (by kernel_rfl) h⟩
def ju(args:SV)(kp:SV->Prop)(_:Prop):Prop:=af (cJ args) fun a=>af (jU a.1) fun x=>af (dw a.2) fun v=>kp (.fq x.1 (v.1.fmod x.1))
theorem sY:ao 247 ⟨6,53,false,ju⟩:=
 aG (m:=11) (n:=2) (rt:=.none) (ns:=["self","val"]) (bN:=[]) oJ bJ (fun P=>by kernel_rfl) (fun P S=>dK fun a b=>by kernel_rfl) fun P args kp rz _ h=>by
  refine aa h fun a h1 h=>?_
  refine aa h fun x h2 h=>?_
  refine aa h fun v h3 h=>?_
  rw[bY h1,lG h2,bL h3]
  exact⟨.cons (.fq x.1 x.2) (.cons (.int v.1 v.2) .nil),.rfl,rfl,Eq.mp (by kernel_rfl) h⟩
def C0(f:Int->Int)(args:SV)(kp:SV->Prop)(_:Prop):Prop:=af (cN args) fun a=>af (jU a) fun x=>kp (.fq x.1 (f x.1))
theorem Es{args:SV}{k:Int×Int->Prop}(G:Gd args)(h:af (cN args) fun a=>af (jU a) k):∃x,args=.cons (.fq x.1 x.2) .nil/\Qf x.1/\k x:=by
 refine aa h fun a h1 h=>?_
 refine aa h fun x h2 h=>?_
 have e:args=.cons (.fq x.1 x.2) .nil:=by rw[fX h1,lG h2]
 rw[e] at G
 exact⟨x,e,G.1.1,h⟩
theorem uY{args:SV}{k:Int×(Int×Int)->Prop}(G:Gd args)(h:af (cN args) fun a=>af (fh a) k):∃x,args=.cons (.aU x.1 x.2) .nil/\Qf x.1/\k x:=by
 refine aa h fun a h1 h=>?_
 refine aa h fun x h2 h=>?_
 have e:args=.cons (.aU x.1 x.2) .nil:=by rw[fX h1,dZ h2]
 rw[e] at G
 exact⟨x,e,G.1.1,h⟩
noncomputable abbrev ad3:List (Addr×fZ):=[(247,⟨6,53,false,ju⟩)]
theorem uZ:bX ad3:=.cons sY (fun P=>by kernel_rfl) .nil
theorem YA{q:Int}(h:Qf q):(1:Int).fmod q=1:=Int.fmod_eq_of_lt (by decide) h.one
theorem fm0{q:Int}:(0:Int).fmod q=0:=Int.zero_fmod q
theorem YB:ao 254 ⟨7,56,false,C0 fun _=>1⟩:=
 aG (m:=11) (n:=2) (rt:=.none) (ns:=["self"]) (bN:=[]) uZ bJ (fun P=>by kernel_rfl) (fun P S=>fY fun a=>by kernel_rfl) fun P args kp rz G h=>
  let⟨x,e,hq,h⟩:=Es G h
  ⟨_,.rfl,e▸rfl,e▸Eq.mp (by kernel_rfl) (show kp (.fq x.1 ((1:Int).fmod x.1)) by rw[YA hq];exact h)⟩
theorem IQ:ao 261 ⟨7,56,false,C0 fun _=>0⟩:=
 aG (m:=11) (n:=2) (rt:=.none) (ns:=["self"]) (bN:=[]) uZ bJ (fun P=>by kernel_rfl) (fun P S=>fY fun a=>by kernel_rfl) fun P args kp rz G h=>
  let⟨x,e,hq,h⟩:=Es G h
  ⟨_,.rfl,e▸rfl,e▸Eq.mp (by kernel_rfl) (show kp (.fq x.1 ((0:Int).fmod x.1)) by rw[fm0];exact h)⟩
theorem Eu{s:SV}{v:Int×Int}(h:xj s=some v):∃c d,s=.cons (.int v.1 c) (.cons (.int v.2 d) .nil):=by
 refine ah h fun a h1 h=>?_
 refine ah h fun x h2 h=>?_
 obtain⟨y,h3,h⟩:=Option.map_eq_some_iff.mp h
 rw[bY h1,bL h2,bL h3,<-h]
 exact⟨_,_,rfl⟩
theorem YC{s:SV}{v:Int×Int}(h:xm s=some v):∃c d,s=.tup (.cons (.int v.1 c) (.cons (.int v.2 d) .nil))\/s=.rl (.cons (.int v.1 c) (.cons (.int v.2 d) .nil)):=by
 unfold xm at h
 cases ht:pe s with
 |some r=>
  rw[ht] at h
  obtain⟨c,d,e⟩:=Eu h
  exact⟨c,d,.inl (by rw[gK ht,e])⟩
 |none=>
  rw[ht] at h
  obtain⟨r,hr,h⟩:=iD (show(om s).bind xj=some v from h)
  obtain⟨c,d,e⟩:=Eu h
  exact⟨c,d,.inr (by rw[ir hr,e])⟩
def fK(args:SV)(kp:SV->Prop)(_:Prop):Prop:=af (cJ args) fun a=>af (fh a.1) fun x=>af (xm a.2) fun v=>kp (.aU x.1 (aD x.1 v))
theorem lX:ao 407 ⟨6,53,false,fK⟩:=
 aG (m:=11) (n:=2) (rt:=.none) (ns:=["self","coeffs"]) (bN:=[]) oJ bJ (fun P=>by kernel_rfl) (fun P S=>dK fun a b=>by kernel_rfl) fun P args kp rz _ h=>by
  refine aa h fun a h1 h=>?_
  refine aa h fun x h2 h=>?_
  refine aa h fun v h3 h=>?_
  refine⟨args,.rfl,?_⟩
  obtain⟨c,d,e|e⟩:=YC h3
  ·rw[bY h1,dZ h2,e]
   exact⟨rfl,Eq.mp (by kernel_rfl) h⟩
  ·rw[bY h1,dZ h2,e]
   exact⟨rfl,Eq.mp (by kernel_rfl) h⟩
def C1(f:Int->Int×Int->Int×Int)(args:SV)(kp:SV->Prop)(_:Prop):Prop:=af (cN args) fun a=>af (fh a) fun x=>kp (.aU x.1 (f x.1 x.2))
noncomputable abbrev Ew:List (Addr×fZ):=[(407,⟨6,53,false,fK⟩)]
theorem fL:bX Ew:=.cons lX (fun P=>by kernel_rfl) .nil
theorem YD:ao 379 ⟨7,56,false,C1 fun _ _=>(1,0)⟩:=
 aG (m:=11) (n:=2) (rt:=.none) (ns:=["self"]) (bN:=[]) fL bJ (fun P=>by kernel_rfl) (fun P S=>fY fun a=>by kernel_rfl) fun P args kp rz G h=>
  let⟨x,e,hq,h⟩:=uY G h
  ⟨_,.rfl,e▸rfl,e▸Eq.mp (by kernel_rfl) (show kp (.aU x.1 ((1:Int).fmod x.1,(0:Int).fmod x.1)) by rw[YA hq,fm0];exact h)⟩
theorem IS:ao 386 ⟨7,56,false,C1 fun _ _=>(0,0)⟩:=
 aG (m:=11) (n:=2) (rt:=.none) (ns:=["self"]) (bN:=[]) fL bJ (fun P=>by kernel_rfl) (fun P S=>fY fun a=>by kernel_rfl) fun P args kp rz G h=>
  let⟨x,e,hq,h⟩:=uY G h
  ⟨_,.rfl,e▸rfl,e▸Eq.mp (by kernel_rfl) (show kp (.aU x.1 ((0:Int).fmod x.1,(0:Int).fmod x.1)) by rw[fm0];exact h)⟩
theorem ao.out{f:Addr}{C:fZ}(h:ao f C):ao f ⟨C.cd,C.cu,C.tn,fun args kp rz=>C.con args (fun r=>∃r',Wk r r'/\jE r'=true/\kp r') rz⟩:=fun c W σ args bR kp ok ht xr CX hv b9 its s Q E hs he kk=>
 h c W σ args bR _ ok ht xr CX hv b9 its s Q E hs he fun W' v b aB s' l hr cM hk=>by
  obtain⟨e,_,r',w,c',hk⟩:=hk
  exact kk W' v r' aB s' l ((w W').1 v hr) cM ⟨e,c',hk⟩
theorem ao.imp{f:Addr}{C:fZ}(h:ao f C){con:SV->(SV->Prop)->Prop->Prop}(k:∀args kp rz,Gd args->con args kp rz->C.con args kp rz):ao f ⟨C.cd,C.cu,C.tn,con⟩:=fun c W σ args bR kp ok ht xr CX hv b9=>
 h c W σ args bR kp ok ht xr CX hv (k args kp c.rz ((gd_ args).2 bR hv) b9)
noncomputable def oK(c:Int->IC)(l:List Int):SV:=iN (l.map fun p=>.int p (c p))
def jJ(args:SV)(kp:SV->Prop)(_:Prop):Prop:=af (JA args) fun _=>kp (.rl (oK (fun _=>f9) aK))
theorem u6{c d:Int->IC}:∀{l:List Int},(∀p∈l,bT p (c p)->bT p (d p))->Wk (oK c l) (oK d l)
 |[],_=>.rfl
 |p::l,h=>.cons (.int rfl (h p (.head _))) (u6 fun q hq=>h q (.tail _ hq))
theorem u9(hQ:∀p∈aK,Qf p):ao 427 ⟨1,3,false,jJ⟩:=
 (aG (m:=11) (n:=2) (rt:=.none) (ns:=[]) (bN:=[]) (con:=fun args kp _=>af (JA args) fun _=>kp (.rl (oK dF aK))) .nil bJ (fun P=>by kernel_rfl) (fun P S=>len0 (by kernel_rfl)) fun P args kp rz _ h=>by
  refine aa h fun u h1 h=>?_
  rw[zg h1]
  exact⟨.nil,.rfl,rfl,Eq.mp (by kernel_rfl) h⟩).out.imp fun args kp rz _ h=>by
   refine aa h fun u h1 h=>?_
   rw[zg h1]
   exact⟨_,.rl (u6 fun p hp _=>su (hQ p hp)),rfl,h⟩
def vc(args:SV)(kp:SV->Prop)(_:Prop):Prop:=af (eX args) fun a=>af (wI uS a.1) fun n=>af (wI f9 a.2.1) fun p=>af (dw a.2.2) fun b=>bF (b.1==381||b.1==384) (kp (.int (cZ n p b.1.toNat) Eo))
theorem YE:ao 483 ⟨1,3,false,vc⟩:=
 aG (m:=11) (n:=2) (rt:=.int 0 Eo) (ns:=["number","p","bits"]) (bN:=[]) .nil bJ (fun P=>by kernel_rfl) (fun P S=>mS fun a b c=>by kernel_rfl) fun P args kp rz _ h=>by
  refine aa h fun a h1 h=>?_
  refine aa h fun n h2 h=>?_
  refine aa h fun p h3 h=>?_
  refine aa h fun b h4 h=>?_
  refine ai h fun g h=>?_
  have r0:0<=n.fmod 8/\n.fmod 8<8:=⟨Int.fmod_nonneg_of_pos _ (by decide),Int.fmod_lt_of_pos _ (by decide)⟩
  rw[dU h1,bL h4]
  rcases (Bool.or_eq_true _ _).mp g with e|e
  ·rw[beq_iff_eq.mp e] at h
   exact⟨.cons (.int n uS) (.cons (.int p f9) (.cons (.int 381 (dF 381)) .nil)),.cons (iF h2).1 (.cons (iF h3).1 (.cons (.int (beq_iff_eq.mp e) fun _=>b8 _) .rfl)),rfl,Eq.mp (by kernel_rfl) (show(0<=n.fmod 8/\n.fmod 8<8)/\kp (.int (cZ n p 381) Eo) from⟨r0,h⟩)⟩
  ·rw[beq_iff_eq.mp e] at h
   exact⟨.cons (.int n uS) (.cons (.int p f9) (.cons (.int 384 (dF 384)) .nil)),.cons (iF h2).1 (.cons (iF h3).1 (.cons (.int (beq_iff_eq.mp e) fun _=>b8 _) .rfl)),rfl,Eq.mp (by kernel_rfl) (show(0<=n.fmod 8/\n.fmod 8<8)/\kp (.int (cZ n p 384) Eo) from⟨r0,h⟩)⟩
noncomputable def fj:IC:=⟨0,false,false,false,false⟩
noncomputable def YF(z:Int):SV:=.tup (.cons (.bool (cR z 383) false) (.cons (.bool (cR z 382) false) (.cons (.bool (cR z 381) false) .nil)))
def qG(args:SV)(kp:SV->Prop)(_:Prop):Prop:=af (cN args) fun a=>af (wI fj a) fun z=>kp (YF z)
theorem z6:ao 49 ⟨1,3,false,qG⟩:=
 aG (m:=11) (n:=5) (rt:=.none) (ns:=["z"]) (bN:=[]) .nil bJ (fun P=>by kernel_rfl) (fun P S=>fY fun a=>by kernel_rfl) fun P args kp rz _ h=>
  let⟨n,e,h⟩:=CZ h
  ⟨_,e,rfl,Eq.mp (by kernel_rfl) h⟩
def vg(args:SV)(kp:SV->Prop)(_:Prop):Prop:=af (cN args) fun a=>af (wI fj a) fun z=>kp (.bool (z.fmod (2 ^ 381)==0) false)
def vh(args:SV)(kp:SV->Prop)(_:Prop):Prop:=af (cJ args) fun a=>af (wI fj a.1) fun z=>af (wI fj a.2) fun y=>kp (.bool (z.fmod (2 ^ 381)==0&&y==0) false)
def z7(args:SV)(kp:SV->Prop)(rz:Prop):Prop:=match cN args with
 |some _=>vg args kp rz
 |none=>vh args kp rz
theorem brB{b c:Bool}{kp:SV->Prop}(h:kp (.bool (b&&c) false)):(b=true->kp (.bool c false))/\(b=false->kp (.bool b false)):=by
 cases b with
 |true=>exact⟨fun _=>h,fun e=>Bool.noConfusion e⟩
 |false=>exact⟨fun e=>Bool.noConfusion e,fun _=>h⟩
theorem YG:ao 57 ⟨1,13,false,z7⟩:=by
 have k1:ao 57 ⟨1,13,false,vg⟩:=aG (m:=11) (n:=5) (rt:=.bool false false) (ns:=["z1"]) (bN:=[("z2",.none)]) .nil bJ (fun P=>by kernel_rfl) (fun P S=>fY fun a=>by kernel_rfl) fun P args kp rz _ h=>
  let⟨n,e,h⟩:=CZ h
  ⟨_,e,rfl,Eq.mp (by kernel_rfl) (brB (kp:=kp) (b:=n.fmod (2 ^ 381)==0) (c:=true) (by rw[Bool.and_true];exact h))⟩
 have k2:ao 57 ⟨1,13,false,vh⟩:=aG (m:=11) (n:=5) (rt:=.bool false false) (ns:=["z1","z2"]) (bN:=[]) .nil bJ (fun P=>by kernel_rfl) (fun P S=>dK fun a b=>by kernel_rfl) fun P args kp rz _ h=>by
  refine aa h fun a h1 h=>?_
  refine aa h fun z h2 h=>?_
  refine aa h fun y h3 h=>?_
  rw[bY h1]
  exact⟨.cons (.int z fj) (.cons (.int y fj) .nil),.cons (iF h2).1 (.cons (iF h3).1 .rfl),rfl,Eq.mp (by kernel_rfl) (brB (kp:=kp) (b:=z.fmod (2 ^ 381)==0) (c:=y==0) h)⟩
 exact k1.two k2 rfl rfl rfl
theorem nt{b:Bool}(h:(!b)=true):b=false:=by cases b with
 |true=>exact Bool.noConfusion h
 |false=>rfl
theorem nf{b:Bool}(h:(!b)=false):b=true:=by cases b with
 |true=>rfl
 |false=>exact Bool.noConfusion h
noncomputable def flB(t k:Int):Bool:=(t.fdiv k).fmod 2==1
noncomputable def A9(t x y:Int):Bool:=(cR (x+t*2 ^ 381) 383==flB t 4)&&(cR (x+t*2 ^ 381) 382==flB t 2)&&(cR (x+t*2 ^ 381) 381==flB t 1)&&(((x+t*2 ^ 381).fmod (2 ^ 381)==0)==(x==0))&&(((x+t*2 ^ 381).fmod (2 ^ 381)==0&&y==0)==(x==0&&y==0))
theorem brF{m1 m2 m3 u v z y:Bool}{kp:SV->Prop}(h:kp (.bool (m1&&m2&&m3&&u&&((z&&y)==(v&&y))) false)):
  ((!m1)=true->((!m2)=true->((!m3)=true->kp (.bool false false))/\((!m3)=false->kp (.bool false false)))/\((!m2)=false->((!m3)=true->kp (.bool false false))/\((!m3)=false->kp (.bool false false))))/\
  ((!m1)=false->((!m2)=true->((!m3)=true->kp (.bool false false))/\((!m3)=false->kp (.bool false false)))/\((!m2)=false->((!m3)=true->kp (.bool false false))/\((!m3)=false->
   (u=true->(v=true->kp (.bool ((z&&y)==y) false))/\(v=false->kp (.bool ((z&&y)==v) false)))/\(u=false->kp (.bool u false))))):=by
 have k0:(m1&&m2&&m3)=false->kp (.bool false false):=fun e=>by rw[e] at h;exact h
 have a1:m1=false->kp (.bool false false):=fun e=>k0 (by rw[e];rfl)
 have a2:m2=false->kp (.bool false false):=fun e=>k0 (by rw[e,Bool.and_false];rfl)
 have a3:m3=false->kp (.bool false false):=fun e=>k0 (by rw[e,Bool.and_false])
 refine⟨fun e1=>⟨fun _=>⟨fun _=>a1 (nt e1),fun _=>a1 (nt e1)⟩,fun _=>⟨fun _=>a1 (nt e1),fun _=>a1 (nt e1)⟩⟩,fun e1=>⟨fun e2=>⟨fun _=>a2 (nt e2),fun _=>a2 (nt e2)⟩,fun e2=>⟨fun e3=>a3 (nt e3),fun e3=>?_⟩⟩⟩
 rw[nf e1,nf e2,nf e3] at h
 refine⟨fun e4=>⟨fun e5=>?_,fun e5=>?_⟩,fun e4=>?_⟩
 ·rw[e4,e5] at h;exact h
 ·rw[e4,e5] at h;rw[e5];exact h
 ·rw[e4] at h;rw[e4];exact h
def Ey(args:SV)(kp:SV->Prop)(_:Prop):Prop:=af (eX args) fun a=>af (wI JP a.1) fun t=>af (wI Eo a.2.1) fun x=>af (wI fj a.2.2) fun y=>kp (.bool (A9 t x y) false)
theorem cFR:ao 516 ⟨2,20,false,Ey⟩:=
 aG (m:=19) (n:=5) (rt:=.bool false false) (ns:=["top","x1","x2"]) (bN:=[]) (.cons z6 (fun P=>by kernel_rfl) (.cons YG (fun P=>by kernel_rfl) (.cons IP (fun P=>by kernel_rfl) .nil))) bJ (fun P=>by kernel_rfl) (fun P S=>mS fun a b c=>by kernel_rfl) fun P args kp rz _ h=>by
  refine aa h fun a h1 h=>?_
  refine aa h fun t h2 h=>?_
  refine aa h fun x h3 h=>?_
  refine aa h fun y h4 h=>?_
  rw[dU h1]
  unfold A9 at h
  have h:=brF (kp:=kp) h
  exact⟨.cons (.int t JP) (.cons (.int x Eo) (.cons (.int y fj) .nil)),.cons (iF h2).1 (.cons (iF h3).1 (.cons (iF h4).1 .rfl)),rfl,
   Eq.mp (by kernel_rfl) h⟩
noncomputable def vj(p:Int):SV:=.rl (iN ((aM p).map fun v=>.aU p v))
theorem IT{p:Int}{kp:SV->Prop}(h:kp (vj p)):∀r,r=aF p (1,0) (fE p,fE p)->∀s,s=aF p r (fE p,fE p)->∀t,t=aF p s (fE p,fE p)->∀u,u=aF p t (fE p,fE p)->∀v,v=aF p u (fE p,fE p)->∀w,w=aF p v (fE p,fE p)->∀x,x=aF p w (fE p,fE p)->∀y,y=aF p x (fE p,fE p)->
   kp (.rl (.cons (.aU p (aD p (1,0))) (.cons (.aU p (aD p r)) (.cons (.aU p (aD p s)) (.cons (.aU p (aD p t)) (.cons (.aU p (aD p u)) (.cons (.aU p (aD p v)) (.cons (.aU p (aD p w)) (.cons (.aU p (aD p x)) .nil))))))))):=fun r e1 s e2 t e3 u e4 v e5 w e6 x e7 y _=>by
 have f1:r=o9 p 1:=e1
 have f2:s=o9 p 2:=by rw[e2,f1];rfl
 have f3:t=o9 p 3:=by rw[e3,f2];rfl
 have f4:u=o9 p 4:=by rw[e4,f3];rfl
 have f5:v=o9 p 5:=by rw[e5,f4];rfl
 have f6:w=o9 p 6:=by rw[e6,f5];rfl
 have f7:x=o9 p 7:=by rw[e7,f6];rfl
 rw[f1,f2,f3,f4,f5,f6,f7]
 exact h
theorem YH{A B:Prop}(h:A)(e:A=B):B:=e▸h
theorem YI(P:Params)(p:Int)(kp:SV->Prop)(rz:Prop):(∀r,r=aF p (1,0) (fE p,fE p)->∀s,s=aF p r (fE p,fE p)->∀t,t=aF p s (fE p,fE p)->∀u,u=aF p t (fE p,fE p)->∀v,v=aF p u (fE p,fE p)->∀w,w=aF p v (fE p,fE p)->∀x,x=aF p w (fE p,fE p)->∀y,y=aF p x (fE p,fE p)->
   kp (.rl (.cons (.aU p (aD p (1,0))) (.cons (.aU p (aD p r)) (.cons (.aU p (aD p s)) (.cons (.aU p (aD p t)) (.cons (.aU p (aD p u)) (.cons (.aU p (aD p v)) (.cons (.aU p (aD p w)) (.cons (.aU p (aD p x)) .nil))))))))))=nL (19+1) 5 P 462 ["p"] .none [] [(455,⟨6,53,false,lV⟩),(434,⟨1,3,false,jt⟩)] 6 53 false nw (.cons (.int p f9) .nil) kp rz:=by kernel_rfl
def qH(args:SV)(kp:SV->Prop)(_:Prop):Prop:=af (cN args) fun a=>af (wI f9 a) fun p=>kp (vj p)
theorem IU:ao 462 ⟨7,56,false,qH⟩:=
 aG (m:=19) (n:=5) (rt:=.none) (ns:=["p"]) (bN:=[]) (.cons z5 (fun P=>by kernel_rfl) (.cons oG (fun P=>by kernel_rfl) .nil)) bJ (fun P=>by kernel_rfl) (fun P S=>fY fun a=>by kernel_rfl) fun P args kp rz _ h=>by
  obtain⟨p,e,h⟩:=CZ h
  have h:=IT (p:=p) (kp:=kp) h
  refine⟨.cons (.int p f9) .nil,e,rfl,?_⟩
  rw[<-YI P p kp rz]
  exact h
noncomputable def IV(s:Stmt):Option (Expr×List Stmt):=match s with
 | .While t b [] _=>some (t,b)
 |_=>none
def lY(P:Params)(f:Addr)(t:Expr)(b:List Stmt):Prop:=af (sW P f) fun d=>(fdOf d).body.findSome? IV=some (t,b)
def inLoop(P:Params)(f:Addr)(k:FuncData->Expr×List Stmt->Prop):Prop:=af (sW P f) fun d=>af ((fdOf d).body.findSome? IV) (k d)
theorem vm{P:Params}{f:Addr}{X:Prop}(h:(((sW P f).bind fun d=>(fdOf d).body.findSome? IV).isSome)=true)(x:X):inLoop P f fun _ tb=>lY P f tb.1 tb.2/\X:=by
 unfold inLoop lY
 cases e:sW P f with
 |none=>rw[e] at h;cases h
 |some d=>
  rw[e] at h
  have h:((fdOf d).body.findSome? IV).isSome=true:=h
  obtain⟨tb,h⟩:=Option.isSome_iff_exists.mp h
  show af ((fdOf d).body.findSome? IV) fun tb=>(fdOf d).body.findSome? IV=some (tb.1,tb.2)/\X
  rw[h]
  exact⟨rfl,x⟩
def JQ(l l':List (Str×SV)):Prop:=∀x s,l'.lookup x=some s->∃t,l.lookup x=some t/\Wk t s
theorem JQ.nil{l:List (Str×SV)}:JQ l []:=fun _ _ h=>no h
theorem JQ.cons{l l':List (Str×SV)}{x:Str}{s t:SV}(h:l.lookup x=some t)(w:Wk t s)(r:JQ l l'):JQ l ((x,s)::l'):=fun y u hy=>by
 rcases bC hy with⟨rfl,rfl⟩|hy
 ·exact⟨t,h,w⟩
 ·exact r y u hy
structure z8(σ aB:Sg):Prop where
 l:JQ σ.l aB.l
 c:aB.c=σ.c
 u:aB.u=σ.u
 T:aB.T=σ.T
theorem RS.wk{c:Cx}{its:Led}{W:Wd}{σ aB:Sg}{s:Shared}(h:RS c its W σ s)(k:z8 σ aB):RS c its W aB s:=
 let⟨agj,lf,led,hp,gn,tk,e,R⟩:=h
 ⟨agj,lf,led,hp,gn,tk,e,R.wk k.l k.c k.u (fun i e he=>⟨e,by rw[<-k.T];exact he,rfl,.rfl⟩) (by rw[k.T])⟩
noncomputable def Ba(P:Params)(names:List (Str×NameKind))(tab:List (Addr×fZ))(cd cu:Nat)(tn:Bool):Or:=⟨P,names,tab,cd,cu,tn,true,true,false,False,False,nw⟩
noncomputable def YJ(J:Sg->Prop):K2:=fun sf σ=>match sf with
 | .next=>J σ
 | .cont=>J σ
 |_=>False
def Ez(m n:Nat)(o:Or)(t:Expr)(b:List Stmt)(J k:Sg->Prop)(σ:Sg):Prop:=(ET m).2 o t σ fun x l au=>br x l (sR (ST m n o) b au (YJ J)) (k au)
def whO(m n:Nat)(P:Params)(f:Addr)(tab:List (Addr×fZ))(cd cu:Nat)(tn:Bool)(J k:Sg->Prop)(σ:Sg):Prop:=inLoop P f fun d tb=>Ez m n (Ba P d.scope.names tab cd cu tn) tb.1 tb.2 J k σ
section
variable{c:Cx}{o:Or}{W:Wd}{σ:Sg}
theorem z8.rfl{σ:Sg}:z8 σ σ:=⟨fun _ s h=>⟨s,h,.rfl⟩,Eq.refl _,Eq.refl _,Eq.refl _⟩
theorem jN(S:q8 c o){m n:Nat}{test:Expr}{body:List Stmt}{pos:Pos}{k:Sg->Prop}(hlp:o.lp=true)(V J:Nat->Sg->Prop)(hJ:∀i σ,J i σ->∃j aB,j<i/\z8 σ aB/\V j aB)
  (turn:∀i σ,V i σ->∃Bd:Sg->Prop,(∀au,Bd au->sR (ST (m+1) n o) body au (YJ (J i)))/\(ET (m+1)).2 o test σ fun x l au=>br x l (Bd au) (k au)) {i0:Nat} {CK:Sg} (h0:V i0 CK) (hw:z8 σ CK):Ex c (exec (.While test body [] pos) c.env) W σ fun sf aB=>sf=.next/\k aB:=by
 intro its s Q E hs he kk
 obtain⟨eY,rfl⟩:=S.be hlp E he
 refine wpAny_While (codeAny_whileLoop (fun i s'=>∃aB W',V i aB/\W.le W'/\RS c its W' aB s') ?_ i0 ⟨CK,W,h0,.rfl W,hs.wk hw⟩)
 rintro i s' ⟨aB,W',hx,hl,cM⟩
 have hE:PassesOwn (MM c.w) c.A c.env (BE c.w c.A c.env eY):=PassesOwn.leaving
 have key:wpAny (MM c.w) c.A (isTrue test c.env (eval test c.env)) (fun b bw=>match b with
  |true=>wpAny (MM c.w) c.A (execs body c.env) (fun f dJ=>(f=.next\/f=.cont)/\∃j,j<i/\∃dQ W2,V j dQ/\W.le W2/\RS c its W2 dQ dJ) (BE c.w c.A c.env eY) bw
  |false=>Q .next bw) (BE c.w c.A c.env eY) s':=by
  obtain⟨Bd,hB,ht⟩:=turn i aB hx
  refine(bQ (m+1)).2 c o S.S test W' aB _ ht its s' _ _ cM he fun W1 b bl au s1 l1 rb aV k1=>?_
  rw[show b=bl.1 from rb]
  rcases kc k1 with⟨e,k1⟩|⟨e,k1⟩
  ·rw[e]
   refine d8 (gR n c o S) body W1 au _ (hB au k1) its s1 _ _ aV he fun W2 f2 sf aO s2 l2 r2 cB k2=>?_
   have fin:J i aO->∃j,j<i/\∃dQ W2,V j dQ/\W.le W2/\RS c its W2 dQ s2:=fun k2=>
    let⟨j,dQ,h1,h2,h3⟩:=hJ i aO k2
    ⟨j,h1,dQ,W2,h3,(hl.trans l1).trans l2,cB.wk h2⟩
   cases sf with
   |next=>exact⟨.inl r2,fin k2⟩
   |cont=>exact⟨.inr r2,fin k2⟩
   |_=>exact False.elim k2
  ·rw[e]
   exact kk W1 .next .next au s1 (hl.trans l1) rfl aV ⟨rfl,k1⟩
 refine wpAny_mono key (fun b bw bE=>?_) hE
 cases b with
 |false=>
  simp only[Bool.false_eq_true,if_false]
  exact wpAny_execs_nil bE
 |true=>
  simp only[if_true]
  refine wpAny_mono bE (fun f dJ bH=>?_) hE
  obtain⟨e,h⟩:=bH
  rcases e with rfl|rfl<;>exact h
end
def YK{X:Type}(f:Addr)(I:X->Sg)(A:X->Prop)(B:X->X->Prop)(P:Params)(test:Expr)(body:List Stmt)(σ:Sg)(k:Sg->Prop):Prop:=lY P f test body/\∃x0,z8 σ (I x0)/\A x0/\∀x,B x0 x->k (I x)
theorem EA{X:Type}{f:Addr}{tab:List (Addr×fZ)}{cd cu:Nat}{tn:Bool}{I:X->Sg}{A:X->Prop}{B:X->X->Prop}(m n:Nat)(V:X->X->Prop)(μ:X->Nat)(h0:∀x,A x->V x x)
  (turn:∀P x0 x (k J:Sg->Prop),V x0 x->(B x0 x->k (I x))->(∀y σ,V x0 y->μ y<μ x->z8 σ (I y)->J σ)->whO (m+1) n P f tab cd cu tn J k (I x)):qE f tab cd cu tn (YK f I A B):=by
 intro P d rz c hd S F be W σ k test body pos h
 obtain⟨hl,x0,hw,ha,hk⟩:=h
 have hl:(fdOf d).body.findSome? IV=some (test,body):=by
  refine aa hl fun d' e hl=>?_
  rw[hd] at e
  rw[Option.some.inj e]
  exact hl
 have F2:FF (c.ty c.ex False) (Ba P d.scope.names tab cd cu tn):=⟨F.env,F.ms,F.kg,F.names,F.fr⟩
 have ok:mH (c.ty c.ex False) cd cu:=⟨S.ok.XB,S.ok.TB,S.ok.hk,S.ok.hd,S.ok.hu⟩
 have S2:c8 (c.ty c.ex False) (Ba P d.scope.names tab cd cu tn):=⟨ok,S.P,S.tn,rfl,fun _ _ e=>False.elim e,S.tab,Xy F2 ok S.P,fun _=>F2⟩
 have K:q8 (c.ty c.ex False) (Ba P d.scope.names tab cd cu tn):=⟨S2,F2,(fun _=>be),id,(fun e=>False.elim e),(fun e=>Bool.noConfusion e),(fun _ _ _ _ _ _ _ e=>False.elim e)⟩
 have:=jN (c:=c.ty c.ex False) (W:=W) (σ:=σ) (pos:=pos) (m:=m) (n:=n) (test:=test) (body:=body) (k:=k) K rfl (fun i σ=>∃x,i=μ x/\V x0 x/\σ=I x) (fun i σ=>∃y,V x0 y/\μ y<i/\z8 σ (I y))
  (fun i σ ⟨y,h1,h2,h3⟩=>⟨μ y,I y,h2,h3,y,rfl,h1,rfl⟩) (fun i σ ⟨x,h1,h2,h3⟩=>by
  rw[h1,h3]
  have q:=turn P x0 x k (fun aO=>∃y,V x0 y/\μ y<μ x/\z8 aO (I y)) h2 (hk x) fun y σ h1 h2 h3=>⟨y,h1,h2,h3⟩
  refine aa q fun d' e q=>?_
  rw[hd] at e
  rw[<-Option.some.inj e] at q
  refine aa q fun tb e q=>?_
  rw[hl] at e
  rw[<-Option.some.inj e] at q
  exact⟨_,fun _ h=>h,q⟩) ⟨x0,rfl,h0 x0 ha,rfl⟩ hw
 intro its s Q E hs he kk
 exact this its s Q E hs.ty he fun W' v b aB s' l r cM=>kk W' v b aB s' l r cM.yt
def unO(m n:Nat)(o:Or)(test:Expr)(body:List Stmt)(k:Sg->Prop)(N:Nat):Sg->Prop:=Nat.rec (motive:=fun _=>Sg->Prop) (fun σ=>(ET m).2 o test σ fun x l au=>br x l False (k au)) (fun _ ih σ=>Ez m n o test body ih k σ) N
def whU(m n N:Nat)(f:Addr)(tab:List (Addr×fZ))(cd cu:Nat)(tn:Bool)(P:Params)(test:Expr)(body:List Stmt)(σ:Sg)(k:Sg->Prop):Prop:=af (sW P f) fun d=>unO m n (Ba P d.scope.names tab cd cu tn) test body k N σ
theorem EB{m n N:Nat}{f:Addr}{tab:List (Addr×fZ)}{cd cu:Nat}{tn:Bool}:qE f tab cd cu tn (whU (m+1) n N f tab cd cu tn):=by
 intro P d rz c hd S F be W σ k test body pos h
 refine aa h fun d' e h=>?_
 rw[hd] at e
 rw[<-Option.some.inj e] at h
 have F2:FF (c.ty c.ex False) (Ba P d.scope.names tab cd cu tn):=⟨F.env,F.ms,F.kg,F.names,F.fr⟩
 have ok:mH (c.ty c.ex False) cd cu:=⟨S.ok.XB,S.ok.TB,S.ok.hk,S.ok.hd,S.ok.hu⟩
 have S2:c8 (c.ty c.ex False) (Ba P d.scope.names tab cd cu tn):=⟨ok,S.P,S.tn,rfl,fun _ _ e=>False.elim e,S.tab,Xy F2 ok S.P,fun _=>F2⟩
 have K:q8 (c.ty c.ex False) (Ba P d.scope.names tab cd cu tn):=⟨S2,F2,(fun _=>be),id,(fun e=>False.elim e),(fun e=>Bool.noConfusion e),(fun _ _ _ _ _ _ _ e=>False.elim e)⟩
 have:=jN (c:=c.ty c.ex False) (W:=W) (σ:=σ) (pos:=pos) (m:=m) (n:=n) (test:=test) (body:=body) (k:=k) K rfl (unO (m+1) n (Ba P d.scope.names tab cd cu tn) test body k) (fun i=>match i with
  |0=>fun _=>False
  |i+1=>unO (m+1) n (Ba P d.scope.names tab cd cu tn) test body k i) (fun i σ h=>by
   cases i with
   |zero=>exact False.elim h
   |succ i=>exact⟨i,σ,Nat.lt_succ_self i,.rfl,h⟩) (fun i σ h=>by
   cases i with
   |zero=>exact⟨_,fun _ e=>False.elim e,h⟩
   |succ i=>exact⟨_,fun _ h=>h,h⟩) h .rfl
 intro its s Q E hs he kk
 exact this its s Q E hs.ty he fun W' v b aB s' l r cM=>kk W' v b aB s' l r cM.yt
theorem lZ{q:Int}(a b:Int):aD q (a.fmod q,b.fmod q)=(a.fmod q,b.fmod q):=Prod.ext (fmod_fmod a q) (fmod_fmod b q)
def vn(f:Int->Int×Int->Int×Int->Int×Int)(args:SV)(kp:SV->Prop)(_:Prop):Prop:=af (cJ args) fun a=>af (fh a.1) fun x=>af (fh a.2) fun y=>kp (.aU x.1 (f x.1 x.2 y.2))
theorem vo{args:SV}{k:Int×Int×Int->Int×Int×Int->Prop}(h:af (cJ args) fun a=>af (fh a.1) fun x=>af (fh a.2) (k x)):∃x y,args=.cons (.aU x.1 x.2) (.cons (.aU y.1 y.2) .nil)/\k x y:=by
 refine aa h fun a h1 h=>?_
 refine aa h fun x h2 h=>?_
 refine aa h fun y h3 h=>?_
 exact⟨x,y,by rw[bY h1,dZ h2,dZ h3],h⟩
theorem ad4:ao 292 ⟨7,66,false,vn cG⟩:=
 aG (m:=19) (n:=5) (rt:=.none) (ns:=["self","other"]) (bN:=[]) fL bJ (fun P=>by kernel_rfl) (fun P S=>dK fun a b=>by kernel_rfl) fun P args kp rz _ h=>by
  obtain⟨x,y,e,h⟩:=vo h
  exact⟨.cons (.aU x.1 x.2) (.cons (.aU y.1 y.2) .nil),e▸.rfl,rfl,Eq.mp (by kernel_rfl) (show kp (.aU x.1 (aD x.1 (cG x.1 x.2 y.2))) from(lZ (q:=x.1) (x.2.1+y.2.1) (x.2.2+y.2.2)).symm▸h)⟩
theorem ad5:ao 297 ⟨7,66,false,vn qs⟩:=
 aG (m:=19) (n:=5) (rt:=.none) (ns:=["self","other"]) (bN:=[]) fL bJ (fun P=>by kernel_rfl) (fun P S=>dK fun a b=>by kernel_rfl) fun P args kp rz _ h=>by
  obtain⟨x,y,e,h⟩:=vo h
  exact⟨.cons (.aU x.1 x.2) (.cons (.aU y.1 y.2) .nil),e▸.rfl,rfl,Eq.mp (by kernel_rfl) (show kp (.aU x.1 (aD x.1 (qs x.1 x.2 y.2))) from(lZ (q:=x.1) (x.2.1-y.2.1) (x.2.2-y.2.2)).symm▸h)⟩
def oM(args:SV)(kp:SV->Prop)(_:Prop):Prop:=af (cJ args) fun a=>af (fh a.1) fun x=>match fh a.2 with
 |some y=>kp (.aU x.1 (aF x.1 x.2 y.2))
 |none=>af (wI ⟨64,false,false,false,false⟩ a.2) fun i=>kp (.aU x.1 (n8 x.1 x.2 i))
theorem ad6(q a b c d:Int):aD q ((0+a*c-(0+b*d)*1).fmod q,(0+a*d+b*c).fmod q)=aF q (a,b) (c,d):=by
 rw[lZ,Int.zero_add,Int.zero_add,Int.zero_add,Int.mul_one]
 rfl
theorem ad7(P:Params)(x y:Int×Int×Int)(kp:SV->Prop)(rz:Prop):kp (.aU x.1 (aD x.1 ((0+x.2.1*y.2.1-(0+x.2.2*y.2.2)*1).fmod x.1,(0+x.2.1*y.2.2+x.2.2*y.2.1).fmod x.1)))=nL (19+1) 5 P 309 ["self","other"] .none [] Ew 6 63 false nw (.cons (.aU x.1 x.2) (.cons (.aU y.1 y.2) .nil)) kp rz:=by kernel_rfl
theorem IW:ao 309 ⟨7,66,false,oM⟩:=
 aG (m:=19) (n:=5) (rt:=.none) (ns:=["self","other"]) (bN:=[]) fL bJ (fun P=>by kernel_rfl) (fun P S=>dK fun a b=>by kernel_rfl) fun P args kp rz _ h=>by
  refine aa h fun a h1 h=>?_
  refine aa h fun x h2 h=>?_
  cases h3:fh a.2 with
  |some y=>
   rw[h3] at h
   refine⟨.cons (.aU x.1 x.2) (.cons (.aU y.1 y.2) .nil),by rw[bY h1,dZ h2,dZ h3];exact .rfl,rfl,?_⟩
   rw[<-ad7 P x y kp rz,ad6]
   exact h
  |none=>
   rw[h3] at h
   refine aa h fun i h4 h=>?_
   refine⟨.cons (.aU x.1 x.2) (.cons (.int i ⟨64,false,false,false,false⟩) .nil),by rw[bY h1,dZ h2];exact .cons .rfl (.cons (iF h4).1 .rfl),rfl,Eq.mp (by kernel_rfl) (show kp (.aU x.1 (aD x.1 (n8 x.1 x.2 i))) from(lZ (q:=x.1) (x.2.1*i) (x.2.2*i)).symm▸h)⟩
def Aa(args:SV)(kp:SV->Prop)(_:Prop):Prop:=af (cJ args) fun a=>af (fh a.1) fun x=>af (fh a.2) fun y=>kp (.bool (x.2.1==y.2.1&&x.2.2==y.2.2) false)
theorem ad8{a b:Bool}{kp:SV->Prop}(h:kp (.bool (a&&b) false)):((!a)=true->kp (.bool false false))/\((!a)=false->((!b)=true->kp (.bool false false))/\((!b)=false->kp (.bool true false))):=by
 refine⟨fun e=>?_,fun e=>⟨fun e'=>?_,fun e'=>?_⟩⟩
 ·rw[nt e] at h;exact h
 ·rw[nt e',Bool.and_false] at h;exact h
 ·rw[nf e,nf e'] at h;exact h
theorem ad9:ao 352 ⟨1,13,false,Aa⟩:=
 aG (m:=19) (n:=5) (rt:=.bool false false) (ns:=["self","other"]) (bN:=[]) .nil bJ (fun P=>by kernel_rfl) (fun P S=>dK fun a b=>by kernel_rfl) fun P args kp rz _ h=>by
  obtain⟨x,y,e,h⟩:=vo h
  exact⟨.cons (.aU x.1 x.2) (.cons (.aU y.1 y.2) .nil),e▸.rfl,rfl,Eq.mp (by kernel_rfl) (ad8 (kp:=kp) h)⟩
def vp(args:SV)(kp:SV->Prop)(_:Prop):Prop:=af (cN args) fun a=>af (fh a) fun x=>kp (.aU x.1 (bW x.1 x.2))
theorem YL:ao 364 ⟨7,66,false,vp⟩:=
 aG (m:=19) (n:=5) (rt:=.none) (ns:=["self"]) (bN:=[]) fL bJ (fun P=>by kernel_rfl) (fun P S=>fY fun a=>by kernel_rfl) fun P args kp rz G h=>by
  obtain⟨x,e,hq,h⟩:=uY G h
  exact⟨.cons (.aU x.1 x.2) .nil,e▸.rfl,rfl,Eq.mp (by kernel_rfl) h⟩
noncomputable def qI:IC:=⟨400,false,false,false,false⟩
noncomputable def q9:IC:=⟨400,true,true,false,false⟩
noncomputable def Ab(x:Int×Int×Int×Int×Int×Int):Sg:=⟨[("n",.int x.1 f9),("lm",.int x.2.2.1 qI),("low",.int x.2.2.2.1 q9),("hm",.int x.2.2.2.2.1 qI),("high",.int x.2.2.2.2.2 q9)],[],none,[]⟩
structure C2(x:Int×Int×Int×Int×Int×Int):Prop where
 q:Qf x.1
 I:fm x.1 (x.2.1.fmod x.1) x.2.2.1 x.2.2.2.1 x.2.2.2.2.1 x.2.2.2.2.2
abbrev IX(x y:Int×Int×Int×Int×Int×Int):Prop:=y.1=x.1/\y.2.2.1.fmod x.1=iv x.1 x.2.1
theorem aea(P:Params)(x:Int×Int×Int×Int×Int×Int)(J k:Sg->Prop):((decide (1<x.2.2.2.1)=true->J ⟨[("n",.int x.1 f9),("lm",.int (x.2.2.2.2.1-x.2.2.1*x.2.2.2.2.2.fdiv x.2.2.2.1) ⟨1201,false,false,false,false⟩),("low",.int (x.2.2.2.2.2-x.2.2.2.1*x.2.2.2.2.2.fdiv x.2.2.2.1) ⟨1201,false,false,false,false⟩),("hm",.int x.2.2.1 qI),("high",.int x.2.2.2.1 q9),("r",.int (x.2.2.2.2.2.fdiv x.2.2.2.1) ⟨400,false,true,false,false⟩),("new",.int (x.2.2.2.2.2-x.2.2.2.1*x.2.2.2.2.2.fdiv x.2.2.2.1) ⟨1201,false,false,false,false⟩),("nm",.int (x.2.2.2.2.1-x.2.2.1*x.2.2.2.2.2.fdiv x.2.2.2.1) ⟨1201,false,false,false,false⟩)],[],none,[]⟩)/\(decide (1<x.2.2.2.1)=false->k (Ab x)))=whO (19+1) 5 P 99 [] 0 10 false J k (Ab x):=by kernel_rfl
theorem qJ{q x:Int}(h:Sm 400 q)(k:x.natAbs<=q.natAbs):Sm 400 x:=by unfold Sm at *;exact Nat.lt_of_le_of_lt k h
theorem fm.ic{q a lm low hm high:Int}(I:fm q a lm low hm high)(hs:Sm 400 q):bT lm qI/\bT low q9/\bT hm qI/\bT high q9:=by
 have s:=I.small
 have h1:=I.l1
 have h2:=I.l2
 have h3:=I.l3
 have f:=fun e:false=true=>(Bool.noConfusion e:False)
 exact⟨⟨fun _=>qJ hs s.1,fun e=>(f e).elim,fun e=>(f e).elim,fun e=>(f e).elim⟩,⟨fun _=>qJ hs (by exact Int.ofNat_le.mp (by rw[Int.natAbs_of_nonneg (Int.le_of_lt h1),Int.natAbs_of_nonneg (Int.le_of_lt (Int.le_trans h1 (Int.le_trans (Int.le_of_lt h2) h3)))];exact Int.le_trans (Int.le_of_lt h2) h3)),fun _=>by exact Int.ne_of_gt h1,fun _=>by exact Int.le_of_lt h1,fun e=>(f e).elim⟩,⟨fun _=>qJ hs s.2,fun e=>(f e).elim,fun e=>(f e).elim,fun e=>(f e).elim⟩,⟨fun _=>qJ hs (by exact Int.ofNat_le.mp (by rw[Int.natAbs_of_nonneg (Int.le_of_lt (Int.le_trans h1 (Int.le_of_lt h2))),Int.natAbs_of_nonneg (Int.le_of_lt (Int.le_trans h1 (Int.le_trans (Int.le_of_lt h2) h3)))];exact h3)),fun _=>by exact Int.ne_of_gt (Int.lt_trans h1 h2),fun _=>by exact Int.le_of_lt (Int.lt_trans h1 h2),fun e=>(f e).elim⟩⟩
theorem aeb:qE 99 [] 0 10 false (YK 99 Ab C2 IX):=
 EA 19 5 (fun x y=>C2 y/\y.1=x.1/\y.2.1=x.2.1) (fun x=>x.2.2.2.1.toNat) (fun x h=>⟨h,rfl,rfl⟩) fun P x0 x k J ⟨⟨hq,I⟩,e1,e2⟩ hk hJ=>by
  rw[<-aea P x J k]
  refine⟨fun hw=>?_,fun hw=>hk ⟨e1,?_⟩⟩
  ·have hw:1<x.2.2.2.1:=of_decide_eq_true hw
   have e3:x.2.2.2.2.2.fdiv x.2.2.2.1=x.2.2.2.2.2/x.2.2.2.1:=Int.fdiv_eq_ediv_of_nonneg _ (by exact A3 hw)
   have I':=I.step hw
   rw[<-e3] at I'
   obtain⟨c1,c2,c3,c4⟩:=fm.ic I' hq.sm
   refine hJ (x.1,x.2.1,x.2.2.2.2.1-x.2.2.1*x.2.2.2.2.2.fdiv x.2.2.2.1,x.2.2.2.2.2-x.2.2.2.1*x.2.2.2.2.2.fdiv x.2.2.2.1,x.2.2.1,x.2.2.2.1) _ ⟨⟨hq,I'⟩,e1,e2⟩ (by have:=I'.l1;have:=I'.l2;show(x.2.2.2.2.2-x.2.2.2.1*x.2.2.2.2.2.fdiv x.2.2.2.1).toNat<x.2.2.2.1.toNat;exact(Int.toNat_lt_toNat (Int.lt_trans (by decide) hw)).mpr this) ⟨.cons rfl .rfl (.cons rfl (.int rfl fun _=>c1) (.cons rfl (.int rfl fun _=>c2) (.cons rfl .rfl (.cons rfl .rfl .nil)))),rfl,rfl,rfl⟩
  ·rw[<-e1,<-e2]
   exact DZ hq.one (I.last hq.one (of_decide_eq_false hw))
theorem aec(P:Params)(v q:Int)(kp:SV->Prop)(rz:Prop):(((v.fmod q==0)=true->kp (.int 0 fH))/\((v.fmod q==0)=false->inLoop P 99 fun _ tb=>lY P 99 tb.1 tb.2/\∃x0,z8 ⟨[("n",.int q f9),("a",.int (v.fmod q) ⟨400,false,true,false,false⟩),("lm",.int 1 (dF 1)),("hm",.int 0 (dF 0)),("high",.int q f9),("low",.int ((v.fmod q).fmod q) ⟨400,false,true,false,false⟩)],[],none,[]⟩ (Ab x0)/\C2 x0/\∀x,IX x0 x->kp (.int (x.2.2.1.fmod x.1) fH)))=nL (19+1) 5 P 99 ["a","n"] (.int 0 fH) [] [] 0 10 false (YK 99 Ab C2 IX P) (.cons (.int v fj) (.cons (.int q f9) .nil)) kp rz:=by kernel_rfl
def sZ(args:SV)(kp:SV->Prop)(_:Prop):Prop:=af (cJ args) fun a=>af (wI fj a.1) fun v=>af (wI f9 a.2) fun q=>kp (.int (iv q v) fH)
theorem YM{c:IC}{s:SV}{x:Int}(h:wI c s=some x)(G:Gd s):bT x c:=by
 refine ah h fun p h1 h=>?_
 obtain⟨h2,h⟩:=eN h
 rw[bL h1] at G
 rw[<-h]
 exact Yn h2 G
theorem IY:ao 99 ⟨1,13,false,sZ⟩:=
 aG (m:=19) (n:=5) (rt:=.int 0 fH) (ns:=["a","n"]) (bN:=[]) .nil aeb (fun P=>by kernel_rfl) (fun P S=>dK fun a b=>by kernel_rfl) fun P args kp rz G h=>by
  refine aa h fun a h1 h=>?_
  refine aa h fun v h2 h=>?_
  refine aa h fun q h3 h=>?_
  rw[bY h1] at G⊢
  have hq:Qf q:=(YM h3 G.2.1).m rfl
  have h0:=hq.one
  refine⟨.cons (.int v fj) (.cons (.int q f9) .nil),.cons (iF h2).1 (.cons (iF h3).1 .rfl),rfl,?_⟩
  rw[<-aec P v q kp rz]
  have Gn:v.fmod q≠0->0<v.fmod q:=fun h=>by have:=Int.fmod_nonneg_of_pos v (show 0<q by exact jc h0);exact HU h this
  have H9:=Int.fmod_lt_of_pos v (show 0<q by exact jc h0)
  refine⟨fun hz=>?_,fun hz=>?_⟩
  ·rw[<-DZ h0 (kB h0 (by simpa using hz))] at h
   exact h
  ·have hz:=Gn (by simpa using hz)
   have I:=fm.start hz H9 (hq.Cf _ hz H9)
   obtain⟨c1,c2,c3,c4⟩:=fm.ic I hq.sm
   exact vm (by kernel_rfl) ⟨(q,v,1,v.fmod q,0,q),⟨.cons rfl .rfl (.cons rfl (.int rfl fun _=>c1) (.cons rfl (.int (fmod_fmod v q) fun _=>c2) (.cons rfl (.int rfl fun _=>c3) (.cons rfl (.int rfl fun _=>c4) .nil)))),rfl,rfl,rfl⟩,⟨hq,I⟩,fun x hx=>by
    rw[hx.1]
    have e:=hx.2
    dsimp only at e
    rw[e]
    exact h⟩
noncomputable def vq:IC:=⟨2,false,true,false,true⟩
def C3(p:Int×IC)(A B:Prop):Prop:=match p.2.nz with
 |true=>B
 |false=>br (p.1==0) p.2.lit A B
def Ac(args:SV)(kp:SV->Prop)(_:Prop):Prop:=af (cN args) fun a=>af (om a) fun r=>af (eX r) fun t=>af (dw t.1) fun _=>af (dw t.2.1) fun y=>af (dw t.2.2) fun z=>C3 z (C3 y (kp (.int 0 vq)) (kp (.int 1 vq))) (kp (.int 2 vq))
theorem br2{b l:Bool}{p q:Prop}(h:br b l p q):(b=true->p)/\(b=false->q):=by
 rcases kc h with⟨e,h⟩|⟨e,h⟩<;>rw[e]
 ·exact⟨fun _=>h,fun e=>Bool.noConfusion e⟩
 ·exact⟨fun e=>Bool.noConfusion e,fun _=>h⟩
theorem YN{p:Int×IC}{A B:Prop}(k:bT p.1 p.2)(h:C3 p A B):((p.1==0)=true->A)/\((p.1==0)=false->B):=by
 unfold C3 at h
 cases e:p.2.nz with
 |true=>rw[e] at h;exact⟨fun e2=>absurd (beq_iff_eq.mp e2) (k.z e),fun _=>h⟩
 |false=>rw[e] at h;exact br2 h
theorem mh{s:SV}{p:Int×IC}(h:dw s=some p):Wk s (.int p.1 fj):=by
 rw[bL h]
 exact .int rfl fun k=>⟨fun e=>absurd rfl e,fun e=>Bool.noConfusion e,fun e=>Bool.noConfusion e,fun e=>Bool.noConfusion e⟩
theorem aed(P:Params)(x y z:Int)(kp:SV->Prop)(rz:Prop):(((z==0)=true->((y==0)=true->(((x==0)=true->kp (.int 0 vq))/\((x==0)=false->kp (.int 0 vq))))/\((y==0)=false->kp (.int 1 vq)))/\((z==0)=false->kp (.int 2 vq)))=nL (19+1) 5 P 106 ["p"] (.int 0 vq) [] [] 0 10 false (whU (19+1) 5 2 106 [] 0 10 false P) (.cons (.rl (.cons (.int x fj) (.cons (.int y fj) (.cons (.int z fj) .nil)))) .nil) kp rz:=by kernel_rfl
theorem YO:ao 106 ⟨1,13,false,Ac⟩:=
 aG (m:=19) (n:=5) (rt:=.int 0 vq) (ns:=["p"]) (bN:=[]) .nil (EB (m:=19) (n:=5) (N:=2)) (fun P=>by kernel_rfl) (fun P S=>fY fun a=>by kernel_rfl) fun P args kp rz G h=>by
  refine aa h fun a h1 h=>?_
  refine aa h fun r h2 h=>?_
  refine aa h fun t h3 h=>?_
  refine aa h fun x h4 h=>?_
  refine aa h fun y h5 h=>?_
  refine aa h fun z h6 h=>?_
  rw[fX h1,ir h2,dU h3]
  refine⟨.cons (.rl (.cons (.int x.1 fj) (.cons (.int y.1 fj) (.cons (.int z.1 fj) .nil)))) .nil,.cons (.rl (.cons (mh h4) (.cons (mh h5) (.cons (mh h6) .rfl)))) .rfl,rfl,?_⟩
  rw[<-aed P x.1 y.1 z.1 kp rz]
  rw[fX h1,ir h2,dU h3,bL h4,bL h5,bL h6] at G
  have h:=YN G.1.2.2.1 h
  refine⟨fun e=>?_,h.2⟩
  have h:=YN G.1.2.1 (h.1 e)
  exact⟨fun e=>⟨fun _=>h.1 e,fun _=>h.1 e⟩,h.2⟩
noncomputable abbrev C4:List (Addr×fZ):=[(309,⟨7,66,false,oM⟩),(407,⟨6,53,false,fK⟩)]
theorem C5:bX C4:=.cons IW (fun P=>by kernel_rfl) (.cons lX (fun P=>by kernel_rfl) .nil)
noncomputable def C6:List (SV×Bool):=[(.cons (.int 1 (dF 1)) .nil,false),(.cons (.int 0 (dF 0)) .nil,false),(.cons (.int 0 (dF 0)) .nil,false),(.cons (.int 1 (dF 1)) (.cons (.int 0 (dF 0)) .nil),true)]
noncomputable def Ad(x:Int×Nat×(Int×Int)×(Int×Int)):Sg:=⟨[("other",.int (x.2.1:Int) fj),("o",.aU x.1 x.2.2.1),("t",.aU x.1 x.2.2.2)],[],none,C6⟩
abbrev IZ(x y:Int×Nat×(Int×Int)×(Int×Int)):Prop:=y.1=x.1/\y.2.2.1=dN x.1 x.2.1 x.2.2.1 x.2.2.2
theorem aee(P:Params)(x:Int×Nat×(Int×Int)×(Int×Int))(J k:Sg->Prop):((decide (0<(x.2.1:Int))=true->((Builtin.bitAnd (x.2.1:Int) 1 !=0)=true->J ⟨[("other",.int ((x.2.1:Int).fdiv (2 ^ Int.toNat 1)) fj),("o",.aU x.1 (aF x.1 x.2.2.1 x.2.2.2)),("t",.aU x.1 (aF x.1 x.2.2.2 x.2.2.2))],[],none,C6⟩)/\
  ((Builtin.bitAnd (x.2.1:Int) 1 !=0)=false->J ⟨[("other",.int ((x.2.1:Int).fdiv (2 ^ Int.toNat 1)) fj),("o",.aU x.1 x.2.2.1),("t",.aU x.1 (aF x.1 x.2.2.2 x.2.2.2))],[],none,C6⟩))/\(decide (0<(x.2.1:Int))=false->k (Ad x)))=whO (19+1) 5 P 328 C4 7 76 false J k (Ad x):=by kernel_rfl
theorem vt(n:Nat):(n:Int).fdiv (2 ^ Int.toNat 1)=((n/2:Nat):Int):=by
 rw[Int.fdiv_eq_ediv_of_nonneg _ (by decide)]
 rfl
theorem aef:qE 328 C4 7 76 false (YK 328 Ad (fun _=>True) IZ):=
 EA 19 5 (fun x y=>y.1=x.1/\dN x.1 y.2.1 y.2.2.1 y.2.2.2=dN x.1 x.2.1 x.2.2.1 x.2.2.2) (fun x=>x.2.1) (fun x _=>⟨rfl,rfl⟩) fun P x0 x k J ⟨e1,e2⟩ hk hJ=>by
  rw[<-aee P x J k]
  refine⟨fun hw=>?_,fun hw=>hk ⟨e1,?_⟩⟩
  ·have h0:x.2.1≠0:=by have:=of_decide_eq_true hw;exact Nat.ne_of_gt (Int.ofNat_le.mp this)
   rw[UL]
   rw[j9,if_neg h0] at e2
   refine⟨fun hb=>?_,fun hb=>?_⟩
   ·rw[if_pos (of_decide_eq_true hb),<-e1] at e2
    exact hJ (x.1,x.2.1/2,aF x.1 x.2.2.1 x.2.2.2,aF x.1 x.2.2.2 x.2.2.2) _ ⟨e1,e1▸e2⟩ (Nat.div_lt_self (Nat.pos_of_ne_zero h0) (by decide)) ⟨.cons rfl (.int (vt _) fun k=>vt _▸k) (.cons rfl .rfl (.cons rfl .rfl .nil)),rfl,rfl,rfl⟩
   ·rw[if_neg (of_decide_eq_false hb),<-e1] at e2
    exact hJ (x.1,x.2.1/2,x.2.2.1,aF x.1 x.2.2.2 x.2.2.2) _ ⟨e1,e1▸e2⟩ (Nat.div_lt_self (Nat.pos_of_ne_zero h0) (by decide)) ⟨.cons rfl (.int (vt _) fun k=>vt _▸k) (.cons rfl .rfl (.cons rfl .rfl .nil)),rfl,rfl,rfl⟩
  ·rw[<-e2,show x.2.1=0 by have:=of_decide_eq_false hw;exact Nat.le_antisymm (Int.ofNat_le.mp (Int.not_lt.mp this)) (Nat.zero_le _),j9,if_pos rfl]
def Ae(args:SV)(kp:SV->Prop)(_:Prop):Prop:=af (cJ args) fun a=>af (fh a.1) fun x=>af (dw a.2) fun e=>0<=e.1/\kp (.aU x.1 (dN x.1 e.1.toNat (1,0) x.2))
theorem aeg(P:Params)(q e:Int)(v:Int×Int)(kp:SV->Prop)(rz:Prop):(inLoop P 328 fun _ tb=>lY P 328 tb.1 tb.2/\∃x0,z8 ⟨[("other",.int e fj),("self",.aU q v),("o",.aU q (aD q (1,0))),("t",.aU q v)],[],none,C6⟩ (Ad x0)/\True/\∀x,IZ x0 x->kp (.aU x.1 x.2.2.1))=nL (19+1) 5 P 328 ["self","other"] .none [] C4 7 76 false (YK 328 Ad (fun _=>True) IZ P) (.cons (.aU q v) (.cons (.int e fj) .nil)) kp rz:=by kernel_rfl
theorem YQ{q:Int}(h:Qf q):aD q (1,0)=(1,0):=Prod.ext (YA h) (fm0 (q:=q))
theorem aeh:ao 328 ⟨8,79,false,Ae⟩:=
 aG (m:=19) (n:=5) (rt:=.none) (ns:=["self","other"]) (bN:=[]) C5 aef (fun P=>by kernel_rfl) (fun P S=>dK fun a b=>by kernel_rfl) fun P args kp rz G h=>by
  refine aa h fun a h1 h=>?_
  refine aa h fun x h2 h=>?_
  obtain⟨e,h3,h0,h⟩:=aH h
  rw[bY h1,dZ h2] at G⊢
  have hq:Qf x.1:=G.1.1
  refine⟨.cons (.aU x.1 x.2) (.cons (.int e.1 fj) .nil),.cons .rfl (.cons (mh h3) .rfl),rfl,?_⟩
  rw[<-aeg P x.1 e.1 x.2 kp rz]
  exact vm (by kernel_rfl) ⟨(x.1,e.1.toNat,(1,0),x.2),⟨.cons rfl (.int (Int.toNat_of_nonneg h0).symm fun k=>(Int.toNat_of_nonneg h0).symm▸k) (.cons (by rw[YQ hq];rfl) .rfl (.cons rfl .rfl .nil)),rfl,rfl,rfl⟩,trivial,fun y hy=>by
   rw[hy.1,hy.2]
   exact h⟩
noncomputable abbrev aei:List (Addr×fZ):=[(99,⟨1,13,false,sZ⟩),(247,⟨6,53,false,ju⟩)]
theorem C7:bX aei:=.cons IY (fun P=>by kernel_rfl) (.cons sY (fun P=>by kernel_rfl) .nil)
def vz(args:SV)(kp:SV->Prop)(_:Prop):Prop:=af (cJ args) fun a=>af (jU a.1) fun x=>af (jU a.2) fun y=>kp (.fq x.1 ((x.2*iv x.1 y.2).fmod x.1))
theorem EC{args:SV}{k:Int×Int->Int×Int->Prop}(h:af (cJ args) fun a=>af (jU a.1) fun x=>af (jU a.2) (k x)):∃x y,args=.cons (.fq x.1 x.2) (.cons (.fq y.1 y.2) .nil)/\k x y:=by
 refine aa h fun a h1 h=>?_
 refine aa h fun x h2 h=>?_
 refine aa h fun y h3 h=>?_
 exact⟨x,y,by rw[bY h1,lG h2,lG h3],h⟩
theorem YS:ao 176 ⟨7,66,false,vz⟩:=
 aG (m:=19) (n:=5) (rt:=.none) (ns:=["self","other"]) (bN:=[]) C7 bJ (fun P=>by kernel_rfl) (fun P S=>dK fun a b=>by kernel_rfl) fun P args kp rz _ h=>by
  obtain⟨x,y,e,h⟩:=EC h
  exact⟨.cons (.fq x.1 x.2) (.cons (.fq y.1 y.2) .nil),e▸.rfl,rfl,Eq.mp (by kernel_rfl) (show kp (.fq x.1 (((x.2*iv x.1 y.2).fmod x.1).fmod x.1)) by rw[fmod_fmod];exact h)⟩
def Af(args:SV)(kp:SV->Prop)(_:Prop):Prop:=af (cJ args) fun a=>af (jU a.1) fun x=>af (jU a.2) fun y=>kp (.bool (x.2==y.2) false)
theorem aej:ao 197 ⟨1,13,false,Af⟩:=
 aG (m:=19) (n:=5) (rt:=.none) (ns:=["self","other"]) (bN:=[]) .nil bJ (fun P=>by kernel_rfl) (fun P S=>dK fun a b=>by kernel_rfl) fun P args kp rz _ h=>by
  obtain⟨x,y,e,h⟩:=EC h
  exact⟨.cons (.fq x.1 x.2) (.cons (.fq y.1 y.2) .nil),e▸.rfl,rfl,Eq.mp (by kernel_rfl) h⟩
inductive L8{α:Type}(es:List α):Prop
 |mk(a0 a1 a2 a3 a4 a5 a6 a7:α)(e:es=[a0,a1,a2,a3,a4,a5,a6,a7])
theorem l8_{α:Type}:∀{es:List α},es.length=8->L8 es
 |[a0,a1,a2,a3,a4,a5,a6,a7],_=>⟨a0,a1,a2,a3,a4,a5,a6,a7,rfl⟩
theorem Ag:∀{a0:Int},¬a0=0->0<=a0->0<a0:=fun h1 h2=>(Int.lt_iff_le_and_ne.mpr (And.intro h2 (Ne.symm h1)))
theorem YT:∀{a0:Int},0<=a0->0<=a0-1+8:=fun h1=>by rw[Int.sub_eq_add_neg,Int.add_assoc];exact Int.add_nonneg h1 (by decide)
theorem fm.ex{q v:Int}(hq:1<q):∀(n:Nat) lm low hm high,low.toNat<=n->fm q (v.fmod q) lm low hm high->∃u,fk q v u
 |0,lm,low,hm,high,h,I=>by have:=I.l1;omega
 |n+1,lm,low,hm,high,h,I=>by
  by_cases hl:1<low
  ·have I':=I.step hl
   exact fm.ex hq n _ _ _ _ (by have:=I'.l1;have:=I'.l2;omega) I'
  ·exact⟨_,I.last hq hl⟩
theorem vA{q:Int}(h:Qf q)(v:Int):fk q v (iv q v):=by
 have hq:=h.one
 by_cases hz:v.fmod q=0
 ·exact yT (kB hq hz)
 ·have h0:=Int.fmod_nonneg_of_pos v (show 0<q by exact jc hq)
  have h1:=Int.fmod_lt_of_pos v (show 0<q by exact jc hq)
  obtain⟨u,hu⟩:=fm.ex hq _ _ _ _ _ (Nat.le_refl _) (fm.start (by exact Ag hz h0) h1 (h.Cf _ (by exact Ag hz h0) h1))
  exact yT hu
def vB(args:SV)(kp:SV->Prop)(_:Prop):Prop:=af (cJ args) fun a=>af (wI q9 a.1) fun v=>af (wI f9 a.2) fun q=>v<q/\kp (.int (iv q v) q9)
theorem I0{q v:Int}(hq:Qf q)(h0:0<v)(h1:v<q):bT (iv q v) q9:=by
 have k:=HE hq.one ⟨_,vA hq v⟩ h0 h1
 exact⟨fun _=>qJ hq.sm (by exact Int.ofNat_le.mp (by rw[Int.natAbs_of_nonneg (Int.le_of_lt k.1),Int.natAbs_of_nonneg (Int.le_of_lt (Int.lt_trans k.1 k.2))];exact Int.le_of_lt k.2)),fun _=>by exact Int.ne_of_gt k.1,fun _=>by exact Int.le_of_lt k.1,fun e=>Bool.noConfusion e⟩
theorem I1{c:IC}{s:SV}{x:Int}(h:wI c s=some x):wI fj s=some x:=by
 refine ah h fun p h1 h=>?_
 obtain⟨_,h⟩:=eN h
 unfold wI
 rw[h1]
 show(bif lec p.2 fj then some p.1 else none)=some x
 rw[show lec p.2 fj=true from rfl,<-h]
 rfl
theorem YU:ao 99 ⟨1,13,false,vB⟩:=IY.out.imp fun args kp rz G h=>by
 refine aa h fun a h1 h=>?_
 refine aa h fun v h2 h=>?_
 obtain⟨q,h3,cO,h⟩:=aH h
 rw[bY h1] at G⊢
 have hq:Qf q:=(YM h3 G.2.1).m rfl
 have c:=YM h2 G.1
 have h0:0<v:=by have:=c.z rfl;have:=c.p rfl;omega
 show af (wI fj a.1) fun v=>af (wI f9 a.2) fun q=>∃r',Wk (.int (iv q v) fH) r'/\jE r'=true/\kp r'
 rw[I1 h2,h3]
 exact⟨_,.int rfl fun _=>I0 hq h0 cO,rfl,h⟩
def vC(args:SV)(kp:SV->Prop)(_:Prop):Prop:=af (cN args) fun a=>af (om a) fun r=>af (eX r) fun t=>af (dw t.1) fun _=>af (dw t.2.1) fun y=>af (dw t.2.2) fun z=>z.1=0/\C3 y (kp (.int 0 vq)) (kp (.int 1 vq))
theorem YV:ao 106 ⟨1,13,false,vC⟩:=YO.imp fun args kp rz G h=>by
 refine aa h fun a h1 h=>?_
 refine aa h fun r h2 h=>?_
 refine aa h fun t h3 h=>?_
 refine aa h fun x h4 h=>?_
 refine aa h fun y h5 h=>?_
 obtain⟨z,h6,h0,h⟩:=aH h
 rw[fX h1,ir h2,dU h3,bL h4,bL h5,bL h6] at G⊢
 show C3 z (C3 y (kp (.int 0 vq)) (kp (.int 1 vq))) (kp (.int 2 vq))
 have hz:z.2.nz=false:=by
  cases e:z.2.nz with
  |false=>rfl
  |true=>exact absurd h0 (G.1.2.2.1.z e)
 unfold C3
 rw[hz,h0]
 unfold C3 at h
 cases z.2.lit with
 |true=>exact h
 |false=>exact⟨fun _=>h,fun e=>Bool.noConfusion e⟩
noncomputable abbrev I2:List (Addr×fZ):=[(106,⟨1,13,false,Ac⟩),(99,⟨1,13,false,vB⟩)]
theorem C8:bX I2:=.cons YO (fun P=>by kernel_rfl) (.cons YU (fun P=>by kernel_rfl) .nil)
noncomputable def l3(a b c:SV):SV:=.rl (.cons a (.cons b (.cons c .nil)))
def Ah(fA:Int->Int->SV)(fB:Int->Int->Int->SV)(args:SV)(kp:SV->Prop)(_:Prop):Prop:=af (eX args) fun t=>af (fh t.1) fun x=>af (om t.2.1) fun a=>af (eX a) fun a=>af (om t.2.2) fun b=>af (eX b) fun b=>
 af (wI qI b.1) fun _=>af (wI qI b.2.1) fun b1=>af (dw b.2.2) fun b2=>b2.1=0/\(0<b1/\b1<x.1)/\af (dw a.2.2) fun a2=>match a2.2.lit&&(a2.1==1) with
  |true=>af (dw a.1) fun a0=>af (dw a.2.1) fun a1=>bF ((a0.1==1)&&(a1.1==0)) (kp (fA x.1 b1))
  |false=>af (wI qI a.1) fun _=>af (wI qI a.2.1) fun a1=>a2.1=0/\0<a1/\kp (fB x.1 a1 b1)
noncomputable def aek(q b1:Int):SV:=.rl (.cons (.int ((0+(0-0)*iv q b1).fmod q) fH) (.cons (.int ((0+1*iv q b1).fmod q) fH) .nil))
noncomputable def ael(q a1 b1:Int):SV:=.rl (.cons (.int ((0+a1*iv q b1).fmod q) fH) .nil)
noncomputable def YW(q b1:Int):SV:=.rl (.cons (.int 0 (dF 0)) (.cons (.int (iv q b1) fH) .nil))
noncomputable def YX(q a1 b1:Int):SV:=.rl (.cons (.int ((a1*iv q b1).fmod q) fH) .nil)
theorem rdA(P:Params)(q b0 b1:Int)(v:Int×Int)(kp:SV->Prop)(rz:Prop):(b1<q/\b1<q/\kp (.rl (.cons (.int ((0+(0-0)*iv q b1).fmod q) fH) (.cons (.int ((0+1*iv q b1).fmod q) fH) .nil))))=nL (19+1) 5 P 333 ["self","a","b"] .none [] I2 1 23 false nw (.cons (.aU q v) (.cons (l3 (.int 1 (dF 1)) (.int 0 (dF 0)) (.int 1 (dF 1))) (.cons (l3 (.int b0 qI) (.int b1 q9) (.int 0 (dF 0))) .nil))) kp rz:=by kernel_rfl
theorem rdB(P:Params)(q a0 a1 b0 b1:Int)(v:Int×Int)(kp:SV->Prop)(rz:Prop):(b1<q/\kp (.rl (.cons (.int ((0+a1*iv q b1).fmod q) fH) .nil)))=nL (19+1) 5 P 333 ["self","a","b"] .none [] I2 1 23 false nw (.cons (.aU q v) (.cons (l3 (.int a0 qI) (.int a1 q9) (.int 0 (dF 0))) (.cons (l3 (.int b0 qI) (.int b1 q9) (.int 0 (dF 0))) .nil))) kp rz:=by kernel_rfl
theorem Ai{s:SV}{x:Int}(h:wI qI s=some x)(h0:0<x):Wk s (.int x q9):=(iF h).1.trans (.int rfl fun k=>⟨fun _=>k.s (by decide),fun _=>by exact lu h0,fun _=>by exact eT h0,fun e=>Bool.noConfusion e⟩)
theorem fV{s:SV}{p:Int×IC}{x:Int}(h:dw s=some p)(e:p.1=x):Wk s (.int x (dF x)):=by
 rw[bL h,e]
 exact .int rfl fun _=>b8 _
theorem aem:ao 333 ⟨2,26,false,Ah aek ael⟩:=
 aG (m:=19) (n:=5) (rt:=.none) (ns:=["self","a","b"]) (bN:=[]) C8 bJ (fun P=>by kernel_rfl) (fun P S=>mS fun a b c=>by kernel_rfl) fun P args kp rz G h=>by
  refine aa h fun t h1 h=>?_
  refine aa h fun x h2 h=>?_
  refine aa h fun ra h3 h=>?_
  refine aa h fun a h4 h=>?_
  refine aa h fun rb h5 h=>?_
  refine aa h fun b h6 h=>?_
  refine aa h fun b0 h7 h=>?_
  refine aa h fun b1 h8 h=>?_
  obtain⟨b2,h9,e9,⟨hb,yC⟩,h⟩:=aH h
  refine aa h fun a2 Bb h=>?_
  rw[dU h1,dZ h2,ir h3,dU h4,ir h5,dU h6]
  have wb:Wk (.rl (.cons b.1 (.cons b.2.1 (.cons b.2.2 .nil)))) (l3 (.int b0 qI) (.int b1 q9) (.int 0 (dF 0))):=.rl (.cons (iF h7).1 (.cons (Ai h8 hb) (.cons (fV h9 e9) .rfl)))
  cases hl:a2.2.lit&&(a2.1==1) with
  |true=>
   rw[hl] at h
   refine aa h fun a0 I3 h=>?_
   refine aa h fun a1 YY h=>?_
   refine ai h fun g h=>?_
   refine⟨.cons (.aU x.1 x.2) (.cons (l3 (.int 1 (dF 1)) (.int 0 (dF 0)) (.int 1 (dF 1))) (.cons (l3 (.int b0 qI) (.int b1 q9) (.int 0 (dF 0))) .nil)),.cons .rfl (.cons (.rl (.cons (fV I3 (beq_iff_eq.mp (nb g).1)) (.cons (fV YY (beq_iff_eq.mp (nb g).2)) (.cons (fV Bb (beq_iff_eq.mp (nb hl).2)) .rfl)))) (.cons wb .rfl)),rfl,?_⟩
   rw[<-rdA P x.1 b0 b1 x.2 kp rz]
   exact⟨yC,yC,h⟩
  |false=>
   rw[hl] at h
   refine aa h fun a0 I3 h=>?_
   obtain⟨a1,YY,e2,ha,h⟩:=aH h
   refine⟨.cons (.aU x.1 x.2) (.cons (l3 (.int a0 qI) (.int a1 q9) (.int 0 (dF 0))) (.cons (l3 (.int b0 qI) (.int b1 q9) (.int 0 (dF 0))) .nil)),.cons .rfl (.cons (.rl (.cons (iF I3).1 (.cons (Ai YY ha) (.cons (fV Bb e2) .rfl)))) (.cons wb .rfl)),rfl,?_⟩
   rw[<-rdB P x.1 a0 a1 b0 b1 x.2 kp rz]
   exact⟨yC,h⟩
theorem bM{α:Type}{o:Option α}{p q:α->Prop}(h:af o p)(k:∀a,o=some a->p a->q a):af o q:=by
 refine aa h fun a e h=>?_
 rw[e]
 exact k a e h
theorem cRd:ao 333 ⟨2,26,false,Ah YW YX⟩:=aem.out.imp fun args kp rz G h=>
 bM h fun t h1 h=>bM h fun x h2 h=>bM h fun ra h3 h=>bM h fun a h4 h=>bM h fun rb h5 h=>bM h fun b h6 h=>bM h fun b0 h7 h=>bM h fun b1 h8 h=>bM h fun b2 h9 ⟨e9,hb,h⟩=>⟨e9,hb,bM h fun a2 Bb h=>by
  have hq:Qf x.1:=by
   rw[dU h1,dZ h2] at G
   exact G.1.1
  have iw:=vA hq b1
  cases hl:a2.2.lit&&(a2.1==1) with
  |true=>
   rw[hl] at h
   exact bM h fun a0 I3 h=>bM h fun a1 YY h=>by
    refine ai h fun g h=>?_
    rw[g]
    refine⟨_,.rl (.cons (.int ?_ fun _=>b8 _) (.cons (.int ?_ fun _=>oE hq iw.1 iw.2.1) .rfl)),rfl,h⟩
    ·rw[Int.sub_self,Int.zero_mul,Int.zero_add,Int.zero_fmod]
    ·rw[Int.one_mul,Int.zero_add,Int.fmod_eq_of_lt iw.1 iw.2.1]
  |false=>
   rw[hl] at h
   exact bM h fun a0 I3 h=>bM h fun a1 YY ⟨e2,ha,h⟩=>⟨e2,ha,_,.rl (.cons (.int (by rw[Int.zero_add]) fun k=>by rw[Int.zero_add] at k;exact k) .rfl),rfl,h⟩⟩
noncomputable abbrev YZ:List (Addr×fZ):=[(407,⟨6,53,false,fK⟩),(99,⟨1,13,false,sZ⟩)]
theorem Aj:bX YZ:=.cons lX (fun P=>by kernel_rfl) (.cons IY (fun P=>by kernel_rfl) .nil)
def vD(args:SV)(kp:SV->Prop)(_:Prop):Prop:=af (cJ args) fun a=>af (fh a.1) fun x=>af (dw a.2) fun i=>kp (.aU x.1 ((x.2.1*iv x.1 i.1).fmod x.1,(x.2.2*iv x.1 i.1).fmod x.1))
theorem Y0:ao 321 ⟨7,66,false,vD⟩:=
 aG (m:=19) (n:=5) (rt:=.none) (ns:=["self","other"]) (bN:=[]) Aj bJ (fun P=>by kernel_rfl) (fun P S=>dK fun a b=>by kernel_rfl) fun P args kp rz _ h=>by
  refine aa h fun a h1 h=>?_
  refine aa h fun x h2 h=>?_
  refine aa h fun i h3 h=>?_
  rw[bY h1,dZ h2]
  exact⟨.cons (.aU x.1 x.2) (.cons (.int i.1 fj) .nil),.cons .rfl (.cons (mh h3) .rfl),rfl,Eq.mp (by kernel_rfl) (show kp (.aU x.1 (aD x.1 ((x.2.1*iv x.1 i.1).fmod x.1,(x.2.2*iv x.1 i.1).fmod x.1))) from(lZ (q:=x.1) (x.2.1*iv x.1 i.1) (x.2.2*iv x.1 i.1)).symm▸h)⟩
noncomputable abbrev tabI:List (Addr×fZ):=[(106,⟨1,13,false,vC⟩),(333,⟨2,26,false,Ah YW YX⟩),(407,⟨6,53,false,fK⟩),(321,⟨7,66,false,vD⟩)]
theorem C9:bX tabI:=.cons YV (fun P=>by kernel_rfl) (.cons cRd (fun P=>by kernel_rfl) (.cons lX (fun P=>by kernel_rfl) (.cons Y0 (fun P=>by kernel_rfl) .nil)))
section
variable(q:Int)(v:Int×Int)
noncomputable def JR:Int:=(1-v.1*0).fmod q
noncomputable def rf:Int:=(0-v.1*iv q v.2-v.2*0).fmod q
noncomputable def Y3:Int:=(1-v.1*0-v.2*iv q v.2-0*0).fmod q
noncomputable def Y4:Int:=((0:Int)-1*0).fmod q
noncomputable def Y5:Int:=(0-1*iv q v.2-0*0).fmod q
noncomputable def iR:Int:=(v.2*iv q (rf q v)).fmod q
noncomputable def iU0:Int:=(v.1-JR q v*iR q v).fmod q
noncomputable def iU1:Int:=(v.2-JR q v*0-rf q v*iR q v).fmod q
noncomputable def iU2:Int:=(0-JR q v*0-rf q v*0-Y3 q v*iR q v).fmod q
noncomputable def iL0:Int:=(1-Y4 q*iR q v).fmod q
noncomputable def iL1:Int:=(0-Y4 q*0-Y5 q v*iR q v).fmod q
noncomputable def Ak(l:Int×Int)(n:Int):SV:=.aU q (((aD q l).1*iv q n).fmod q,((aD q l).2*iv q n).fmod q)
theorem aen(P:Params)(kp:SV->Prop)(rz:Prop):((0:Int)=0/\((v.2==0)=true->kp (Ak q (1,0) v.1))/\((v.2==0)=false->(0:Int)=0/\(0<v.2/\v.2<q)/\Y3 q v=0/\((rf q v==0)=true->kp (Ak q (Y4 q,Y5 q v) (JR q v)))/\((rf q v==0)=false->
  Y3 q v=0/\(0<rf q v/\rf q v<q)/\(0:Int)=0/\0<v.2/\iU2 q v=0/\((iU1 q v==0)=true->kp (Ak q (iL0 q v,iL1 q v) (iU0 q v)))/\((iU1 q v==0)=false->False))))=nL (19+1) 5 P 338 ["self"] .none [] tabI 7 76 false (whU (19+1) 5 2 338 tabI 7 76 false P) (.cons (.aU q v) .nil) kp rz:=by kernel_rfl
theorem md0{q a:Int}(h:1<q):a.fmod q=0↔a%q=0:=by rw[Int.fmod_eq_emod_of_nonneg _ (by exact A3 h)]
theorem Y6(h:1<q):JR q v=1:=by unfold JR;rw[Int.mul_zero,Int.sub_zero];exact Int.fmod_eq_of_lt (by decide) h
theorem I4:rf q v=(-(v.1*iv q v.2)).fmod q:=by unfold rf;rw[Int.mul_zero,Int.sub_zero,Int.zero_sub]
theorem Y7:Y4 q=0:=by unfold Y4;rw[Int.mul_zero,Int.sub_zero,Int.zero_fmod]
theorem Y8:Y5 q v=(-iv q v.2).fmod q:=by unfold Y5;rw[Int.mul_zero,Int.sub_zero,Int.one_mul,Int.zero_sub]
theorem tg{q:Int}(hq:Qf q){a:Int}(h0:0<a)(h1:a<q):(a*iv q a)%q=1:=(vA hq a).2.2.2 (by rw[Int.emod_eq_of_lt (by exact eT h0) h1];exact lu h0)
theorem Y9(hq:Qf q)(h0:0<v.2)(h1:v.2<q):Y3 q v=0:=by
 have h:=hq.one
 unfold Y3
 rw[Int.mul_zero,Int.sub_zero,Int.mul_zero,Int.sub_zero,md0 h,Int.sub_emod,tg hq h0 h1,Int.emod_eq_of_lt (a:=1) (by decide) h]
 rfl
theorem aeo(hq:Qf q)(h0:0<v.2)(h1:v.2<q):iU2 q v=0:=by unfold iU2;rw[Y9 q v hq h0 h1,Int.mul_zero,Int.mul_zero,Int.zero_mul,Int.sub_zero,Int.sub_zero,Int.sub_zero,Int.zero_fmod]
theorem aep(hq:Qf q)(h0:0<rf q v)(h1:rf q v<q):iU1 q v=0:=by
 have h:=hq.one
 have e:(iR q v)%q=(v.2*iv q (rf q v))%q:=by unfold iR;rw[Int.fmod_eq_emod_of_nonneg _ (by exact A3 h),Int.emod_emod]
 unfold iU1
 rw[Int.mul_zero,Int.sub_zero,md0 h,Int.sub_emod,Int.mul_emod,e,<-Int.mul_emod,Int.mul_left_comm,Int.mul_emod,tg hq h0 h1,Int.mul_one,Int.emod_emod,Int.sub_self]
 rfl
theorem aeq(h:1<q):iL0 q v=1:=by unfold iL0;rw[Y7,Int.zero_mul,Int.sub_zero];exact Int.fmod_eq_of_lt (by decide) h
theorem aer:iL1 q v=(-(Y5 q v*iR q v)).fmod q:=by unfold iL1;rw[Int.mul_zero,Int.sub_zero,Int.zero_sub]
theorem Al(h:1<q)(l:Int×Int)(n:Int):Ak q l n=.aU q ((l.1*iv q n).fmod q,(l.2*iv q n).fmod q):=by
 unfold Ak
 rw[show(aD q l).1=l.1.fmod q from rfl,show(aD q l).2=l.2.fmod q from rfl,fmm (by exact jc h),fmm (by exact jc h)]
end
def vE(args:SV)(kp:SV->Prop)(_:Prop):Prop:=af (cN args) fun a=>af (fh a) fun x=>kp (.aU x.1 (n7 x.1 x.2))
theorem Za:ao 338 ⟨8,79,false,vE⟩:=
 aG (m:=19) (n:=5) (rt:=.none) (ns:=["self"]) (bN:=[]) C9 (EB (m:=19) (n:=5) (N:=2)) (fun P=>by kernel_rfl) (fun P S=>fY fun a=>by kernel_rfl) fun P args kp rz G h=>by
  obtain⟨x,e,hq,h⟩:=uY G h
  obtain⟨q,v⟩:=x
  rw[e] at G⊢
  have r:bP q v:=G.1.2
  have h1:=hq.one
  refine⟨.cons (.aU q v) .nil,.rfl,rfl,?_⟩
  rw[<-aen q v P kp rz]
  have h:kp (.aU q (((fR q v.1 v.2).1*iv q (fR q v.1 v.2).2.2).fmod q,((fR q v.1 v.2).2.1*iv q (fR q v.1 v.2).2.2).fmod q)):=h
  unfold fR at h
  refine⟨rfl,fun e=>?_,fun e=>?_⟩
  ·rw[if_pos (beq_iff_eq.mp e)] at h
   rw[Al q h1]
   exact h
  ·have ne:v.2≠0:=fun k=>by rw[k] at e;cases e
   have p0:0<v.2:=by have:=r.2.2.1;exact HU ne this
   rw[if_neg ne] at h
   have z2:=Y9 q v hq p0 r.2.2.2
   refine⟨rfl,⟨p0,r.2.2.2⟩,z2,fun e1=>?_,fun e1=>?_⟩
   ·rw[if_pos ((I4 q v)▸beq_iff_eq.mp e1)] at h
    rw[Al q h1,Y7,Y8,Y6 q v h1]
    exact h
   ·have ne1:rf q v≠0:=fun k=>by rw[k] at e1;cases e1
    have b0:0<=rf q v:=Int.fmod_nonneg_of_pos _ (by omega)
    have b1:rf q v<q:=Int.fmod_lt_of_pos _ (by omega)
    have p1:0<rf q v:=by exact HU ne1 b0
    have z:=aep q v hq p1 b1
    rw[if_neg ((I4 q v)▸ne1)] at h
    refine⟨z2,⟨p1,b1⟩,rfl,p0,aeo q v hq p0 r.2.2.2,fun _=>?_,fun e2=>by rw[z] at e2;cases e2⟩
    rw[Al q h1,aeq q v h1,aer,Y8]
    have eU:iU0 q v=(v.1-iR q v).fmod q:=by unfold iU0;rw[Y6 q v h1,Int.one_mul]
    rw[eU]
    unfold iR
    rw[I4]
    exact h
noncomputable abbrev aes:List (Addr×fZ):=[(309,⟨7,66,false,oM⟩),(338,⟨8,79,false,vE⟩)]
theorem Dc:bX aes:=.cons IW (fun P=>by kernel_rfl) (.cons Za (fun P=>by kernel_rfl) .nil)
def vF(args:SV)(kp:SV->Prop)(_:Prop):Prop:=af (cJ args) fun a=>af (fh a.1) fun x=>af (fh a.2) fun y=>kp (.aU x.1 (aF x.1 x.2 (n7 y.1 y.2)))
theorem Zc:ao 321 ⟨9,92,false,vF⟩:=
 aG (m:=19) (n:=5) (rt:=.none) (ns:=["self","other"]) (bN:=[]) Dc bJ (fun P=>by kernel_rfl) (fun P S=>dK fun a b=>by kernel_rfl) fun P args kp rz _ h=>by
  obtain⟨x,y,e,h⟩:=vo h
  exact⟨.cons (.aU x.1 x.2) (.cons (.aU y.1 y.2) .nil),e▸.rfl,rfl,Eq.mp (by kernel_rfl) h⟩
noncomputable abbrev I5:List (Addr×fZ):=[(407,⟨6,53,false,fK⟩),(352,⟨1,13,false,Aa⟩),(309,⟨7,66,false,oM⟩),(328,⟨8,79,false,Ae⟩),(321,⟨9,92,false,vF⟩),(292,⟨7,66,false,vn cG⟩),(297,⟨7,66,false,vn qs⟩),(364,⟨7,66,false,vp⟩),(379,⟨7,56,false,C1 fun _ _=>(1,0)⟩),(386,⟨7,56,false,C1 fun _ _=>(0,0)⟩),
 (247,⟨6,53,false,ju⟩),(197,⟨1,13,false,Af⟩),(176,⟨7,66,false,vz⟩),(254,⟨7,56,false,C0 fun _=>1⟩),(261,⟨7,56,false,C0 fun _=>0⟩),(49,⟨1,3,false,qG⟩),(57,⟨1,13,false,z7⟩)]
theorem ki:bX I5:=by
 iterate 17 refine .cons (by first|exact lX|exact ad9|exact IW|exact aeh|exact Zc|exact ad4|exact ad5|exact YL|exact YD|exact IS|exact sY|exact aej|exact YS|exact YB|exact IQ|exact z6|exact YG) (fun P=>by kernel_rfl) ?_
 exact .nil
noncomputable def vG{α:Type}(as:SV->Option α)(s:SV):Option (α×α×α):=(pe s).bind fun r=>(eX r).bind fun t=>(as t.1).bind fun x=>(as t.2.1).bind fun y=>(as t.2.2).map fun z=>(x,y,z)
theorem Zd{α:Type}{as:SV->Option α}{s:SV}{t:α×α×α}{f:α->SV}(hf:∀s a,as s=some a->s=f a)(h:vG as s=some t):s=.tup (.cons (f t.1) (.cons (f t.2.1) (.cons (f t.2.2) .nil))):=by
 refine ah h fun r h1 h=>?_
 refine ah h fun u h2 h=>?_
 refine ah h fun x h3 h=>?_
 refine ah h fun y h4 h=>?_
 obtain⟨z,h5,h⟩:=Option.map_eq_some_iff.mp h
 rw[gK h1,dU h2,hf _ _ h3,hf _ _ h4,hf _ _ h5,<-h]
noncomputable def t1(t:(Int×Int)×(Int×Int)×(Int×Int)):SV:=.tup (.cons (.fq t.1.1 t.1.2) (.cons (.fq t.2.1.1 t.2.1.2) (.cons (.fq t.2.2.1 t.2.2.2) .nil)))
noncomputable def t2(t:(Int×(Int×Int))×(Int×(Int×Int))×(Int×(Int×Int))):SV:=.tup (.cons (.aU t.1.1 t.1.2) (.cons (.aU t.2.1.1 t.2.1.2) (.cons (.aU t.2.2.1 t.2.2.2) .nil)))
theorem vH{s:SV}{t:(Int×Int)×(Int×Int)×(Int×Int)}(h:vG jU s=some t):s=t1 t:=Zd (as:=jU) (f:=fun a:Int×Int=>.fq a.1 a.2) (fun s a=>lG) h
theorem qK{s:SV}{t:(Int×(Int×Int))×(Int×(Int×Int))×(Int×(Int×Int))}(h:vG fh s=some t):s=t2 t:=Zd (as:=fh) (f:=fun a:Int×(Int×Int)=>.aU a.1 a.2) (fun s a=>dZ) h
def ED(args:SV)(kp:SV->Prop)(_:Prop):Prop:=af (cN args) fun a=>match vG jU a with
 |some t=>kp (.bool (t.2.2.2==0) false)
 |none=>af (vG fh a) fun t=>kp (.bool (dm t.2.2.2 (0,0)) false)
theorem cIn:ao 28 ⟨9,72,false,ED⟩:=
 aG (m:=19) (n:=5) (rt:=.bool false false) (ns:=["pt"]) (bN:=[]) ki bJ (fun P=>by kernel_rfl) (fun P S=>fY fun a=>by kernel_rfl) fun P args kp rz G h=>by
  refine aa h fun a h1 h=>?_
  rw[fX h1]
  cases e:vG jU a with
  |some t=>rw[e] at h;exact⟨.cons (t1 t) .nil,vH e▸.rfl,rfl,Eq.mp (by kernel_rfl) h⟩
  |none=>
   rw[e] at h
   refine aa h fun t e h=>?_
   exact⟨.cons (t2 t) .nil,qK e▸.rfl,rfl,Eq.mp (by kernel_rfl) h⟩
def Am(args:SV)(kp:SV->Prop)(_:Prop):Prop:=af (cN args) fun a=>match vG jU a with
 |some t=>kp (.tup (.cons (.fq t.1.1 ((t.1.2*iv t.1.1 t.2.2.2).fmod t.1.1)) (.cons (.fq t.2.1.1 ((t.2.1.2*iv t.2.1.1 t.2.2.2).fmod t.2.1.1)) .nil)))
 |none=>af (vG fh a) fun t=>kp (.tup (.cons (.aU t.1.1 (aF t.1.1 t.1.2 (n7 t.2.2.1 t.2.2.2))) (.cons (.aU t.2.1.1 (aF t.2.1.1 t.2.1.2 (n7 t.2.2.1 t.2.2.2))) .nil)))
theorem aet:ao 42 ⟨10,95,false,Am⟩:=
 aG (m:=19) (n:=5) (rt:=.none) (ns:=["pt"]) (bN:=[]) ki bJ (fun P=>by kernel_rfl) (fun P S=>fY fun a=>by kernel_rfl) fun P args kp rz G h=>by
  refine aa h fun a h1 h=>?_
  rw[fX h1]
  cases e:vG jU a with
  |some t=>rw[e] at h;exact⟨.cons (t1 t) .nil,vH e▸.rfl,rfl,Eq.mp (by kernel_rfl) h⟩
  |none=>
   rw[e] at h
   refine aa h fun t e h=>?_
   exact⟨.cons (t2 t) .nil,qK e▸.rfl,rfl,Eq.mp (by kernel_rfl) h⟩
noncomputable abbrev An:List (Addr×fZ):=(28,⟨9,72,false,ED⟩)::(42,⟨10,95,false,Am⟩)::I5
theorem kj:bX An:=.cons cIn (fun P=>by kernel_rfl) (.cons aet (fun P=>by kernel_rfl) ki)
def EE(args:SV)(kp:SV->Prop)(_:Prop):Prop:=af (cJ args) fun a=>af (vG fh a.1) fun t=>af (fh a.2) fun b=>(t.1.1=b.1/\t.2.1.1=b.1/\t.2.2.1=b.1)/\kp (.bool (ly b.1 t.1.2 t.2.1.2 t.2.2.2 b.2) false)
theorem onX(P:Params)(q:Int)(x y z b:Int×Int)(kp:SV->Prop)(rz:Prop):((dm z (0,0)=true->kp (.bool true false))/\(dm z (0,0)=false->(0:Int)<=2/\(0:Int)<=3/\(0:Int)<=3/\kp (.bool (dm (qs q (aF q (dN q 2 (1,0) y) z) (dN q 3 (1,0) x)) (aF q b (dN q 3 (1,0) z))) false)))=nL (19+1) 5 P 35 ["pt","b"] (.bool false false) [] An 11 105 false nw (.cons (t2 ((q,x),(q,y),(q,z))) (.cons (.aU q b) .nil)) kp rz:=by kernel_rfl
theorem Ao{a b:Int×Int}:dm a b=true↔a=b:=by
 unfold dm
 rw[Bool.and_eq_true,beq_iff_eq,beq_iff_eq]
 exact⟨fun h=>Prod.ext h.1 h.2,fun h=>h▸⟨rfl,rfl⟩⟩
theorem nM{a b:Int×Int}(h:dm a b=false):a≠b:=fun e=>by rw[Ao.mpr e] at h;cases h
theorem cOn:ao 35 ⟨12,108,false,EE⟩:=
 aG (m:=19) (n:=5) (rt:=.bool false false) (ns:=["pt","b"]) (bN:=[]) kj bJ (fun P=>by kernel_rfl) (fun P S=>dK fun a b=>by kernel_rfl) fun P args kp rz G h=>by
  refine aa h fun a h1 h=>?_
  obtain⟨⟨⟨q1,x⟩,⟨q2,y⟩,⟨q3,z⟩⟩,h2,h⟩:=aH h
  obtain⟨⟨q,b⟩,h3,⟨e1,e2,e3⟩,h⟩:=aH h
  change q1=q at e1
  change q2=q at e2
  change q3=q at e3
  subst e1 e2 e3
  refine⟨.cons (t2 ((q3,x),(q3,y),(q3,z))) (.cons (.aU q3 b) .nil),by rw[bY h1,qK h2,dZ h3];exact .rfl,rfl,?_⟩
  rw[<-onX P q3 x y z b kp rz]
  have h:kp (.bool (ly q3 x y z b) false):=h
  unfold ly at h
  refine⟨fun e=>?_,fun e=>⟨by decide,by decide,by decide,?_⟩⟩
  ·rw[if_pos (Ao.mp e)] at h;exact h
  ·rw[if_neg (nM e)] at h;exact h
def EF(args:SV)(kp:SV->Prop)(_:Prop):Prop:=af (cJ args) fun a=>af (vG jU a.1) fun t=>af (jU a.2) fun b=>(t.1.1=b.1/\t.2.1.1=b.1/\t.2.2.1=b.1)/\kp (.int (uB b.1 t.1.2 t.2.1.2 t.2.2.2) fj)
theorem c1X(P:Params)(q x y z b:Int)(kp:SV->Prop)(rz:Prop):(((z==0)=true->kp (.int (2 ^ 383+2 ^ 382) fj))/\((z==0)=false->kp (.int ((x*iv q z).fmod q+((y*iv q z).fmod q*2).fdiv q*2 ^ 381+2 ^ 383) fj)))=nL (19+1) 5 P 64 ["pt","b"] (.int 0 fj) [] An 11 105 false nw (.cons (t1 ((q,x),(q,y),(q,z))) (.cons (.fq q b) .nil)) kp rz:=by kernel_rfl
theorem cC1:ao 64 ⟨12,108,false,EF⟩:=
 aG (m:=19) (n:=5) (rt:=.int 0 fj) (ns:=["pt","b"]) (bN:=[]) kj bJ (fun P=>by kernel_rfl) (fun P S=>dK fun a b=>by kernel_rfl) fun P args kp rz G h=>by
  refine aa h fun a h1 h=>?_
  obtain⟨⟨⟨q1,x⟩,⟨q2,y⟩,⟨q3,z⟩⟩,h2,h⟩:=aH h
  obtain⟨⟨q,b⟩,h3,⟨e1,e2,e3⟩,h⟩:=aH h
  change q1=q at e1
  change q2=q at e2
  change q3=q at e3
  subst e1 e2 e3
  refine⟨.cons (t1 ((q3,x),(q3,y),(q3,z))) (.cons (.fq q3 b) .nil),by rw[bY h1,vH h2,lG h3];exact .rfl,rfl,?_⟩
  rw[<-c1X P q3 x y z b kp rz]
  have h:kp (.int (uB q3 x y z) fj):=h
  unfold uB at h
  refine⟨fun e=>?_,fun e=>?_⟩
  ·rw[if_pos (beq_iff_eq.mp e)] at h;exact h
  ·rw[if_neg (fun k=>by rw[k] at e;cases e)] at h;exact h
noncomputable def qL:IC:=⟨1200,false,false,false,false⟩
def EG(args:SV)(kp:SV->Prop)(rz:Prop):Prop:=af (cJ args) fun a=>af (wI qL a.1) fun z=>af (jU a.2) fun b=>(lz b.1 b.2 z=none->rz)/\∀r,lz b.1 b.2 z=some r->kp (t1 ((b.1,r.1),(b.1,r.2.1),(b.1,r.2.2)))
section
variable(q c z:Int)
noncomputable def iW:Int:=z.fmod (2 ^ 381)
noncomputable def JS:Int:=(iW z ^ 3+c).fmod q
noncomputable def vI:Int:=ef (JS q c z) ((q+1).fdiv 4) q
abbrev RZ(rz:Prop):Prop:=True/\true=true/\rz
theorem d1X(P:Params)(kp:SV->Prop)(rz:Prop):(((!cR z 383)=true->RZ rz)/\((!cR z 383)=false->((!(cR z 382==(iW z==0)))=true->RZ rz)/\((!(cR z 382==(iW z==0)))=false->((iW z==0)=true->(cR z 381=true->RZ rz)/\(cR z 381=false->kp (t1 ((q,1),(q,1),(q,0)))))/\((iW z==0)=false->
  (decide (q<=iW z)=true->RZ rz)/\(decide (q<=iW z)=false->((!(ef (vI q c z) 2 q==JS q c z))=true->RZ rz)/\((!(ef (vI q c z) 2 q==JS q c z))=false->
  ((!((vI q c z*2).fdiv q==if cR z 381=true then 1 else 0))=true->kp (t1 ((q,(iW z).fmod q),(q,(q-vI q c z).fmod q),(q,(1:Int).fmod q))))/\((!((vI q c z*2).fdiv q==if cR z 381=true then 1 else 0))=false->kp (t1 ((q,(iW z).fmod q),(q,(vI q c z).fmod q),(q,(1:Int).fmod q))))))))))=nL (19+1) 5 P 71 ["z","b"] .none [] An 11 105 false nw (.cons (.int z qL) (.cons (.fq q c) .nil)) kp rz:=by kernel_rfl
end
theorem nb_{a b:Bool}(h:(!(a==b))=true):a≠b:=fun e=>by rw[e,beq_self_eq_true] at h;cases h
theorem Ze{a b:Bool}(h:(!(a==b))=false):a=b:=beq_iff_eq.mp (nf h)
theorem Zf{a b:Int}(h:(!(a==b))=true):a≠b:=fun e=>by rw[e,beq_self_eq_true] at h;cases h
theorem Dd{a b:Int}(h:(!(a==b))=false):a=b:=beq_iff_eq.mp (nf h)
theorem xo{a b:Int}(h:(a==b)=false):a≠b:=fun e=>by rw[e,beq_self_eq_true] at h;cases h
theorem aeu(q c z:Int):lz q c z=if cR z 383=false then none else if cR z 382≠decide (iW z=0) then none else if iW z=0 then(if cR z 381 then none else some (1,1,0)) else if q<=iW z then none else if ef (vI q c z) 2 q≠JS q c z then none else
 some ((iW z).fmod q,(if(vI q c z*2).fdiv q≠(if cR z 381 then 1 else 0) then q-vI q c z else vI q c z).fmod q,1):=rfl
theorem cD1:ao 71 ⟨12,108,false,EG⟩:=
 aG (m:=19) (n:=5) (rt:=.none) (ns:=["z","b"]) (bN:=[]) kj bJ (fun P=>by kernel_rfl) (fun P S=>dK fun a b=>by kernel_rfl) fun P args kp rz G h=>by
  refine aa h fun a h1 h=>?_
  refine aa h fun z h2 h=>?_
  obtain⟨⟨q,c⟩,h3,h⟩:=aH h
  rw[bY h1,lG h3] at G⊢
  have hq:Qf q:=G.2.1.1
  refine⟨.cons (.int z qL) (.cons (.fq q c) .nil),.cons (iF h2).1 .rfl,rfl,?_⟩
  rw[<-d1X q c z P kp rz]
  have h:(lz q c z=none->rz)/\∀r,lz q c z=some r->kp (t1 ((q,r.1),(q,r.2.1),(q,r.2.2))):=h
  rw[aeu] at h
  refine⟨fun e1=>⟨trivial,rfl,?_⟩,fun e1=>⟨fun e2=>⟨trivial,rfl,?_⟩,fun e2=>⟨fun e3=>⟨fun e4=>⟨trivial,rfl,?_⟩,fun e4=>?_⟩,fun e3=>⟨fun e4=>⟨trivial,rfl,?_⟩,fun e4=>⟨fun e5=>⟨trivial,rfl,?_⟩,fun e5=>⟨fun e6=>?_,fun e6=>?_⟩⟩⟩⟩⟩⟩
  ·rw[if_pos (nt e1)] at h;exact h.1 rfl
  all_goals rw[if_neg (by rw[nf e1];decide)] at h
  ·rw[if_pos (show cR z 382≠decide (iW z=0) from nb_ e2)] at h;exact h.1 rfl
  all_goals rw[if_neg (fun k=>k (show cR z 382=decide (iW z=0) from Ze e2))] at h
  ·rw[if_pos (show iW z=0 from beq_iff_eq.mp e3),if_pos e4] at h;exact h.1 rfl
  ·rw[if_pos (show iW z=0 from beq_iff_eq.mp e3),if_neg (by rw[e4];decide)] at h;exact h.2 _ rfl
  all_goals rw[if_neg (show ¬iW z=0 from xo e3)] at h
  ·rw[if_pos (show q<=iW z from of_decide_eq_true e4)] at h;exact h.1 rfl
  all_goals rw[if_neg (show ¬q<=iW z from of_decide_eq_false e4)] at h
  ·rw[if_pos (show ef (vI q c z) 2 q≠JS q c z from Zf e5)] at h;exact h.1 rfl
  all_goals rw[if_neg (fun k=>k (show ef (vI q c z) 2 q=JS q c z from Dd e5))] at h
  ·rw[if_pos (show(vI q c z*2).fdiv q≠(if cR z 381=true then 1 else 0) from Zf e6)] at h;rw[YA hq];exact h.2 _ rfl
  ·rw[if_neg (fun k=>k (show(vI q c z*2).fdiv q=(if cR z 381=true then 1 else 0) from Dd e6))] at h;rw[YA hq];exact h.2 _ rfl
noncomputable def tu(q:Int)(es:List (Int×Int)):SV:=.rl (iN (es.map fun a=>.aU q a))
def tB(args:SV)(kp:SV->Prop)(_:Prop):Prop:=af (cJ args) fun a=>af (fh a.1) fun v=>∃es,es.length=8/\a.2=tu v.1 es/\(lA v.1 es v.2=none->kp .none)/\∀r,lA v.1 es v.2=some r->kp (.aU v.1 r)
noncomputable def rX(q:Int)(es:List (Int×Int))(v:Int×Int):Int×Int:=aF q (iM q v) (n7 q (es.getD (((iL es (gy q v):Nat):Int).fdiv 2).toNat (0,0)))
theorem rX_(q:Int)(es:List (Int×Int))(v:Int×Int):rX q es v=ig q es v:=by
 unfold rX ig dI
 rw[Int.fdiv_eq_ediv_of_nonneg _ (by decide)]
 rfl
abbrev J8(q:Int):Prop:=q=q/\q=q/\q=q/\q=q/\q=q/\q=q/\q=q/\q=q/\True
theorem aev(P:Params)(q:Int)(v a0 a1 a2 a3 a4 a5 a6 a7:Int×Int)(kp:SV->Prop)(rz:Prop):(0<=(q ^ Int.toNat 2-1+8).fdiv 16/\(0:Int)<=2/\(q=q/\q=q/\q=q/\q=q/\True)/\(([a0,a2,a4,a6].any fun b=>dm b (gy q v))=true->J8 q/\([a0,a1,a2,a3,a4,a5,a6,a7].any fun b=>dm b (gy q v))=true/\((0<=((iL [a0,a1,a2,a3,a4,a5,a6,a7] (gy q v):Nat):Int).fdiv 2/\((iL [a0,a1,a2,a3,a4,a5,a6,a7] (gy q v):Nat):Int).fdiv 2<8)/\J8 q)/\
  (decide ((bW q (rX q [a0,a1,a2,a3,a4,a5,a6,a7] v)).2<(rX q [a0,a1,a2,a3,a4,a5,a6,a7] v).2)=true->kp (.aU q (rX q [a0,a1,a2,a3,a4,a5,a6,a7] v)))/\(decide ((bW q (rX q [a0,a1,a2,a3,a4,a5,a6,a7] v)).2<(rX q [a0,a1,a2,a3,a4,a5,a6,a7] v).2)=false->
   (((rX q [a0,a1,a2,a3,a4,a5,a6,a7] v).2==(bW q (rX q [a0,a1,a2,a3,a4,a5,a6,a7] v)).2)=true->(decide ((bW q (rX q [a0,a1,a2,a3,a4,a5,a6,a7] v)).1<(rX q [a0,a1,a2,a3,a4,a5,a6,a7] v).1)=true->kp (.aU q (rX q [a0,a1,a2,a3,a4,a5,a6,a7] v)))/\(decide ((bW q (rX q [a0,a1,a2,a3,a4,a5,a6,a7] v)).1<(rX q [a0,a1,a2,a3,a4,a5,a6,a7] v).1)=false->kp (.aU q (bW q (rX q [a0,a1,a2,a3,a4,a5,a6,a7] v)))))/\
   (((rX q [a0,a1,a2,a3,a4,a5,a6,a7] v).2==(bW q (rX q [a0,a1,a2,a3,a4,a5,a6,a7] v)).2)=false->kp (.aU q (bW q (rX q [a0,a1,a2,a3,a4,a5,a6,a7] v))))))/\(([a0,a2,a4,a6].any fun b=>dm b (gy q v))=false->kp .none))=
 nL (19+1) 5 P 78 ["value","EIGHTH_ROOTS_OF_UNITY"] (.none) [] I5 30 500 false nw (.cons (.aU q v) (.cons (tu q [a0,a1,a2,a3,a4,a5,a6,a7]) .nil)) kp rz:=by kernel_rfl
theorem aew{q:Int}{X:Int×Int}{kp:SV->Prop}(h:kp (.aU q (if HL X (bW q X) then X else bW q X))):(decide ((bW q X).2<X.2)=true->kp (.aU q X))/\(decide ((bW q X).2<X.2)=false->((X.2==(bW q X).2)=true->(decide ((bW q X).1<X.1)=true->kp (.aU q X))/\(decide ((bW q X).1<X.1)=false->kp (.aU q (bW q X))))/\((X.2==(bW q X).2)=false->kp (.aU q (bW q X)))):=by
 unfold HL at h
 refine⟨fun e=>?_,fun e=>⟨fun e2=>⟨fun e3=>?_,fun e3=>?_⟩,fun e2=>?_⟩⟩
 ·rw[e] at h;exact h
 ·rw[e,e2,e3] at h;exact h
 ·rw[e,e2,e3] at h;exact h
 ·rw[e,e2] at h;exact h
theorem Zg:ao 78 ⟨31,503,false,tB⟩:=
 aG (m:=19) (n:=5) (rt:=.none) (ns:=["value","EIGHTH_ROOTS_OF_UNITY"]) (bN:=[]) ki bJ (fun P=>by kernel_rfl) (fun P S=>dK fun a b=>by kernel_rfl) fun P args kp rz G h=>by
  refine aa h fun a h1 h=>?_
  obtain⟨⟨q,v⟩,h2,es,hl,e,h⟩:=aH h
  obtain⟨a0,a1,a2,a3,a4,a5,a6,a7,rfl⟩:=l8_ hl
  rw[bY h1,dZ h2,e] at G⊢
  have hq:Qf q:=G.1.1
  have h1:=hq.one
  refine⟨.cons (.aU q v) (.cons (tu q [a0,a1,a2,a3,a4,a5,a6,a7]) .nil),.rfl,rfl,?_⟩
  rw[<-aev P q v a0 a1 a2 a3 a4 a5 a6 a7 kp rz]
  have hp:0<=(q ^ 2-1+8).fdiv 16:=by
   rw[Int.fdiv_eq_ediv_of_nonneg _ (by decide)]
   have:0<=q ^ 2:=Int.pow_nonneg (by exact A3 h1)
   exact Int.ediv_nonneg (by exact YT this) (by decide)
  refine⟨hp,by decide,⟨rfl,rfl,rfl,rfl,trivial⟩,fun c=>?_,fun c=>h.1 (lB (q:=q) (es:=[a0,a1,a2,a3,a4,a5,a6,a7]) (v:=v) c)⟩
  obtain⟨hj,hb,_⟩:=uC hl c
  have hj:iL [a0,a1,a2,a3,a4,a5,a6,a7] (gy q v)<8:=hj
  rw[oj (q:=q) (es:=[a0,a1,a2,a3,a4,a5,a6,a7]) (v:=v) c] at h
  have h:=h.2 _ rfl
  have j8:J8 q:=⟨rfl,rfl,rfl,rfl,rfl,rfl,rfl,rfl,trivial⟩
  refine⟨j8,List.any_eq_true.mpr ⟨_,List.getElem_mem _,hb⟩,⟨⟨?_,?_⟩,j8⟩,?_⟩
  ·rw[Int.fdiv_eq_ediv_of_nonneg _ (by decide)];exact Int.natCast_nonneg _
  ·rw[Int.fdiv_eq_ediv_of_nonneg _ (by decide)];exact Int.ofNat_lt.mpr (Nat.lt_of_le_of_lt (Nat.div_le_self _ _) (Nat.lt_of_lt_of_le hj (Nat.le_of_eq hl)))
  ·rw[rX_]
   exact aew h
noncomputable abbrev I6:List (Addr×fZ):=(35,⟨12,108,false,EE⟩)::(78,⟨31,503,false,tB⟩)::An
theorem vJ:bX I6:=.cons cOn (fun P=>by kernel_rfl) (.cons Zg (fun P=>by kernel_rfl) kj)
noncomputable def i2(r:Int×Int):SV:=.tup (.cons (.int r.1 fj) (.cons (.int r.2 fj) .nil))
def EH(args:SV)(kp:SV->Prop)(rz:Prop):Prop:=af (cJ args) fun a=>af (vG fh a.1) fun t=>af (fh a.2) fun b=>(t.1.1=b.1/\t.2.1.1=b.1/\t.2.2.1=b.1)/\(lC b.1 t.1.2 t.2.1.2 t.2.2.2 b.2=none->rz)/\∀r,lC b.1 t.1.2 t.2.1.2 t.2.2.2 b.2=some r->kp (i2 r)
theorem c2X(P:Params)(q:Int)(x y z b:Int×Int)(kp:SV->Prop)(rz:Prop):((q=q/\q=q/\q=q)/\((!ly q x y z b)=true->RZ rz)/\((!ly q x y z b)=false->(dm z (0,0)=true->kp (i2 (2 ^ 383+2 ^ 382,0)))/\(dm z (0,0)=false->(decide (0<(dI q y z).2)=true->kp (i2 ((dI q x z).2+((dI q y z).2*2).fdiv q*2 ^ 381+2 ^ 383,(dI q x z).1)))/\(decide (0<(dI q y z).2)=false->kp (i2 ((dI q x z).2+((dI q y z).1*2).fdiv q*2 ^ 381+2 ^ 383,(dI q x z).1))))))=
 nL (19+1) 5 P 85 ["pt","b2"] (i2 (0,0)) [] I6 31 503 false nw (.cons (t2 ((q,x),(q,y),(q,z))) (.cons (.aU q b) .nil)) kp rz:=by kernel_rfl
theorem cC2:ao 85 ⟨32,506,false,EH⟩:=
 aG (m:=19) (n:=5) (rt:=i2 (0,0)) (ns:=["pt","b2"]) (bN:=[]) vJ bJ (fun P=>by kernel_rfl) (fun P S=>dK fun a b=>by kernel_rfl) fun P args kp rz G h=>by
  refine aa h fun a h1 h=>?_
  obtain⟨⟨⟨q1,x⟩,⟨q2,y⟩,⟨q3,z⟩⟩,h2,h⟩:=aH h
  obtain⟨⟨q,b⟩,h3,⟨e1,e2,e3⟩,h⟩:=aH h
  change q1=q at e1
  change q2=q at e2
  change q3=q at e3
  subst e1 e2 e3
  refine⟨.cons (t2 ((q3,x),(q3,y),(q3,z))) (.cons (.aU q3 b) .nil),by rw[bY h1,qK h2,dZ h3];exact .rfl,rfl,?_⟩
  rw[<-c2X P q3 x y z b kp rz]
  have h:(lC q3 x y z b=none->rz)/\∀r,lC q3 x y z b=some r->kp (i2 r):=h
  unfold lC at h
  refine⟨⟨rfl,rfl,rfl⟩,fun e1=>⟨trivial,rfl,?_⟩,fun e1=>⟨fun e2=>?_,fun e2=>⟨fun e3=>?_,fun e3=>?_⟩⟩⟩
  ·rw[if_pos (nt e1)] at h;exact h.1 rfl
  all_goals rw[if_neg (by rw[nf e1];decide)] at h
  ·rw[if_pos (Ao.mp e2)] at h;exact h.2 _ rfl
  all_goals rw[if_neg (nM e2)] at h
  ·rw[if_pos (of_decide_eq_true e3)] at h;exact h.2 _ rfl
  ·rw[if_neg (of_decide_eq_false e3)] at h;exact h.2 _ rfl
def EJ(args:SV)(kp:SV->Prop)(rz:Prop):Prop:=af (eX args) fun t=>af (wT t.1) fun p=>af (wI qL p.1) fun z1=>af (wI qL p.2) fun z2=>af (fh t.2.1) fun b=>∃es,es.length=8/\t.2.2=tu b.1 es/\(jT b.1 es b.2 z1 z2=none->rz)/\∀r,jT b.1 es b.2 z1 z2=some r->kp (t2 ((b.1,r.1),(b.1,r.2.1),(b.1,r.2.2)))
section
variable(q z1 z2:Int)(b:Int×Int)(kp:SV->Prop)(rz:Prop)
noncomputable def JT:Bool:=iW z1==0&&z2==0
noncomputable def xq:Int×Int:=aD q (z2,iW z1)
noncomputable def d2v:Int×Int:=cG q (dN q 3 (1,0) (xq q z1 z2)) b
noncomputable def d2n(r:Int×Int):Int×Int:=aD q (n8 q r (-1))
def De(y:Int×Int):Prop:=(q=q/\q=q/\q=q)/\((!ly q (xq q z1 z2) y (aD q (1,0)) b)=true->RZ rz)/\((!ly q (xq q z1 z2) y (aD q (1,0)) b)=false->kp (t2 ((q,xq q z1 z2),(q,y),(q,aD q (1,0)))))
noncomputable def I7(a:Int):Bool:= !((a*2).fdiv q==if cR z1 381=true then 1 else 0)
def d2Z(r:Int×Int):Prop:=((r.2==0)=true->(I7 q z1 r.1=true->De q z1 z2 b kp rz (d2n q r))/\(I7 q z1 r.1=false->De q z1 z2 b kp rz r))/\((r.2==0)=false->De q z1 z2 b kp rz r)
def d2Y(r:Int×Int):Prop:=(decide (0<r.2)=true->(I7 q z1 r.2=true->De q z1 z2 b kp rz (d2n q r))/\(I7 q z1 r.2=false->d2Z q z1 z2 b kp rz r))/\(decide (0<r.2)=false->d2Z q z1 z2 b kp rz r)
theorem d2R(P:Params)(a0 a1 a2 a3 a4 a5 a6 a7:Int×Int):(((!cR z1 383)=true->RZ rz)/\((!cR z1 383)=false->((!(cR z1 382==JT z1 z2))=true->RZ rz)/\((!(cR z1 382==JT z1 z2))=false->(JT z1 z2=true->(cR z1 381=true->RZ rz)/\(cR z1 381=false->kp (t2 ((q,(1,0)),(q,(1,0)),(q,(0,0))))))/\(JT z1 z2=false->
  (decide (q<=iW z1)=true->RZ rz)/\(decide (q<=iW z1)=false->(decide (q<=z2)=true->RZ rz)/\(decide (q<=z2)=false->(0:Int)<=3/\∃es,es.length=8/\tu q [a0,a1,a2,a3,a4,a5,a6,a7]=tu q es/\(lA q es (d2v q z1 z2 b)=none->RZ rz)/\∀r,lA q es (d2v q z1 z2 b)=some r->d2Y q z1 z2 b kp rz r))))))=
 nL (19+1) 5 P 92 ["p","b2","EIGHTH_ROOTS_OF_UNITY"] .none [] I6 31 503 false nw (.cons (.tup (.cons (.int z1 qL) (.cons (.int z2 qL) .nil))) (.cons (.aU q b) (.cons (tu q [a0,a1,a2,a3,a4,a5,a6,a7]) .nil))) kp rz:=by kernel_rfl
end
theorem aex(z1 z2:Int):JT z1 z2=decide (iW z1=0/\z2=0):=by
 unfold JT
 rw[Bool.decide_and]
 rfl
theorem EK{q z a:Int}(h:I7 q z a=true):(a*2).fdiv q≠(if cR z 381 then 1 else 0):=Zf h
theorem Aq{q z a:Int}(h:I7 q z a=false):¬(a*2).fdiv q≠(if cR z 381 then 1 else 0):=fun k=>k (Dd h)
theorem aey{q z1 z2:Int}{b:Int×Int}{kp:SV->Prop}{rz:Prop}{r:Int×Int}(h:De q z1 z2 b kp rz (eB q (cR z1 381) r)):d2Y q z1 z2 b kp rz r:=by
 have yes:∀k:(0<r.2/\(r.2*2).fdiv q≠(if cR z1 381 then 1 else 0))\/(r.2=0/\(r.1*2).fdiv q≠(if cR z1 381 then 1 else 0)),De q z1 z2 b kp rz (d2n q r):=fun k=>by rw[qt k] at h;exact h
 have no:∀k:¬((0<r.2/\(r.2*2).fdiv q≠(if cR z1 381 then 1 else 0))\/(r.2=0/\(r.1*2).fdiv q≠(if cR z1 381 then 1 else 0))),De q z1 z2 b kp rz r:=fun k=>by rw[uD k] at h;exact h
 have z:(0<r.2->I7 q z1 r.2=false)->d2Z q z1 z2 b kp rz r:=fun h0=>by
  refine⟨fun e=>⟨fun e1=>yes (.inr ⟨beq_iff_eq.mp e,EK e1⟩),fun e1=>no fun k=>k.elim (fun k=>Aq (h0 k.1) k.2) fun k=>Aq e1 k.2⟩,fun e=>no fun k=>k.elim (fun k=>Aq (h0 k.1) k.2) fun k=>xo e k.1⟩
 exact⟨fun e=>⟨fun e1=>yes (.inl ⟨of_decide_eq_true e,EK e1⟩),fun e1=>z fun _=>e1⟩,fun e=>z fun k=>absurd k (of_decide_eq_false e)⟩
theorem aez{q z1 z2:Int}{b y:Int×Int}{kp:SV->Prop}{rz:Prop}(hq:Qf q)(h:((if ly q (xq q z1 z2) y (1,0) b=false then none else some (xq q z1 z2,y,((1,0):Int×Int)))=none->rz)/\∀r,(if ly q (xq q z1 z2) y (1,0) b=false then none else some (xq q z1 z2,y,((1,0):Int×Int)))=some r->kp (t2 ((q,r.1),(q,r.2.1),(q,r.2.2)))):De q z1 z2 b kp rz y:=by
 unfold De
 rw[YQ hq]
 refine⟨⟨rfl,rfl,rfl⟩,fun e=>⟨trivial,rfl,?_⟩,fun e=>?_⟩
 ·rw[if_pos (nt e)] at h;exact h.1 rfl
 ·rw[if_neg (by rw[nf e];decide)] at h;exact h.2 _ rfl
theorem Zh(q:Int)(es:List (Int×Int))(b:Int×Int)(z1 z2:Int):jT q es b z1 z2=if cR z1 383=false then none else if cR z1 382≠decide (iW z1=0/\z2=0) then none else if iW z1=0/\z2=0 then(if cR z1 381 then none else some ((1,0),(1,0),(0,0))) else if q<=iW z1 then none else if q<=z2 then none else
 match lA q es (d2v q z1 z2 b) with
 |none=>none
 |some y=>if ly q (xq q z1 z2) (eB q (cR z1 381) y) (1,0) b=false then none else some (xq q z1 z2,eB q (cR z1 381) y,((1,0):Int×Int)):=rfl
theorem cD2:ao 92 ⟨32,506,false,EJ⟩:=
 aG (m:=19) (n:=5) (rt:=.none) (ns:=["p","b2","EIGHTH_ROOTS_OF_UNITY"]) (bN:=[]) vJ bJ (fun P=>by kernel_rfl) (fun P S=>mS fun a b c=>by kernel_rfl) fun P args kp rz G h=>by
  refine aa h fun t h1 h=>?_
  refine aa h fun p h2 h=>?_
  refine aa h fun z1 h3 h=>?_
  refine aa h fun z2 h4 h=>?_
  obtain⟨⟨q,b⟩,h5,es,hl,e,h⟩:=aH h
  obtain⟨a0,a1,a2,a3,a4,a5,a6,a7,rfl⟩:=l8_ hl
  refine ah h2 fun u h6 h7=>?_
  rw[dU h1,dZ h5,e,gK h6,bY h7] at G⊢
  have hq:Qf q:=G.2.1.1
  refine⟨.cons (.tup (.cons (.int z1 qL) (.cons (.int z2 qL) .nil))) (.cons (.aU q b) (.cons (tu q [a0,a1,a2,a3,a4,a5,a6,a7]) .nil)),.cons (.tup (.cons (iF h3).1 (.cons (iF h4).1 .rfl))) .rfl,rfl,?_⟩
  rw[<-d2R q z1 z2 b kp rz P a0 a1 a2 a3 a4 a5 a6 a7]
  have h:(jT q [a0,a1,a2,a3,a4,a5,a6,a7] b z1 z2=none->rz)/\∀r,jT q [a0,a1,a2,a3,a4,a5,a6,a7] b z1 z2=some r->kp (t2 ((q,r.1),(q,r.2.1),(q,r.2.2))):=h
  rw[Zh] at h
  rw[aex]
  refine⟨fun e1=>⟨trivial,rfl,?_⟩,fun e1=>⟨fun e2=>⟨trivial,rfl,?_⟩,fun e2=>⟨fun e3=>⟨fun e4=>⟨trivial,rfl,?_⟩,fun e4=>?_⟩,fun e3=>⟨fun e4=>⟨trivial,rfl,?_⟩,fun e4=>⟨fun e5=>⟨trivial,rfl,?_⟩,fun e5=>⟨by decide,[a0,a1,a2,a3,a4,a5,a6,a7],rfl,rfl,fun e6=>⟨trivial,rfl,?_⟩,fun r e6=>?_⟩⟩⟩⟩⟩⟩
  ·rw[if_pos (nt e1)] at h;exact h.1 rfl
  all_goals rw[if_neg (by rw[nf e1];decide)] at h
  ·rw[if_pos (nb_ e2)] at h;exact h.1 rfl
  all_goals rw[if_neg (fun k=>k (Ze e2))] at h
  ·rw[if_pos (of_decide_eq_true e3),if_pos e4] at h;exact h.1 rfl
  ·rw[if_pos (of_decide_eq_true e3),if_neg (by rw[e4];decide)] at h;exact h.2 _ rfl
  all_goals rw[if_neg (of_decide_eq_false e3)] at h
  ·rw[if_pos (of_decide_eq_true e4)] at h;exact h.1 rfl
  all_goals rw[if_neg (of_decide_eq_false e4)] at h
  ·rw[if_pos (of_decide_eq_true e5)] at h;exact h.1 rfl
  all_goals rw[if_neg (of_decide_eq_false e5),e6] at h
  ·exact h.1 rfl
  ·exact aey (aez hq h)
theorem Zi:∀{a0:Int} {a1:Nat},a0<(↑a1:Int)->a1<=16->List.length Mine.aK=16->Int.toNat a0<List.length Mine.aK:=fun h1 h2 h3=>by rw[h3];exact(Int.toNat_lt' (by decide)).mpr (Int.lt_of_lt_of_le h1 (Int.ofNat_le.mpr h2))
theorem Zj:∀{a0:Int},0<=a0/\a0<(↑14:Int)->List.length (List.take 14 Mine.aK)=14->Int.toNat a0<List.length (List.take 14 Mine.aK):=fun h1 h2=>by rw[h2];exact(Int.toNat_lt h1.1).mpr h1.2
theorem Zk:∀{a0:Int},0<=a0/\a0<(↑14:Int)->List.length Mine.aK=16->Int.toNat a0<List.length Mine.aK:=fun h1 h2=>by rw[h2];exact(Int.toNat_lt h1.1).mpr (Int.lt_trans h1.2 (by decide))
theorem Zl:∀{a0 a1:Int},1<a0->a1=0->a1+1<a0:=fun h1 h2=>by rw[h2];exact h1
theorem Zm:∀{a0 a1:Int},a0<a1->a0+0<a1:=fun h1=>by rw[Int.add_zero];exact h1
theorem Zn:∀{a0:Int},a0+1=0->a0=0->False:=fun h1 h2=>by rw[h2] at h1;exact absurd h1 (by decide)
noncomputable abbrev Zo:List (Addr×fZ):=[(71,⟨12,108,false,EG⟩),(92,⟨32,506,false,EJ⟩),(64,⟨12,108,false,EF⟩),(85,⟨32,506,false,EH⟩)]
theorem vK:bX Zo:=.cons cD1 (fun P=>by kernel_rfl) (.cons cD2 (fun P=>by kernel_rfl) (.cons cC1 (fun P=>by kernel_rfl) (.cons cC2 (fun P=>by kernel_rfl) .nil)))
noncomputable def Zp(s:SV):Option (SV×SV×SV×SV):=(D5 s).bind fun p=>(eX p.2).map fun t=>(p.1,t)
theorem Zq{s:SV}{a:SV×SV×SV×SV}(h:Zp s=some a):s=.cons a.1 (.cons a.2.1 (.cons a.2.2.1 (.cons a.2.2.2 .nil))):=by
 refine ah h fun p h1 h=>?_
 obtain⟨t,h2,h⟩:=Option.map_eq_some_iff.mp h
 rw[mU h1,dU h2,<-h]
noncomputable def Zr(s:SV):Bool:=match s with
 | .none=>true
 |_=>false
theorem Zs{s:SV}(h:Zr s=true):s=.none:=by
 cases s<;>first|rfl|exact Bool.noConfusion h
noncomputable def r1(s:SV):SV:=.rl (.cons s .nil)
def vL(args:SV)(kp:SV->Prop)(_:Prop):Prop:=af (Zp args) fun t=>af (dw t.1) fun w=>match w.1==1 with
 |true=>af (wI qL t.2.1) fun z=>af (jU t.2.2.1) fun b=>bF (Zr t.2.2.2) ((lz b.1 b.2 z=none->kp .none)/\∀r,lz b.1 b.2 z=some r->kp (r1 (t1 ((b.1,r.1),(b.1,r.2.1),(b.1,r.2.2)))))
 |false=>bF (w.1==2) (af (wT t.2.1) fun p=>af (wI qL p.1) fun z1=>af (wI qL p.2) fun z2=>af (fh t.2.2.1) fun b=>∃es,es.length=8/\t.2.2.2=tu b.1 es/\(jT b.1 es b.2 z1 z2=none->kp .none)/\∀r,jT b.1 es b.2 z1 z2=some r->kp (r1 (t2 ((b.1,r.1),(b.1,r.2.1),(b.1,r.2.2)))))
theorem Zt(P:Params)(q z1 z2:Int)(b a0 a1 a2 a3 a4 a5 a6 a7:Int×Int)(kp:SV->Prop)(rz:Prop):(∃es,es.length=8/\tu q [a0,a1,a2,a3,a4,a5,a6,a7]=tu q es/\(jT q es b z1 z2=none->∀_:Sg,kp .none)/\∀r,jT q es b z1 z2=some r->kp (r1 (t2 ((q,r.1),(q,r.2.1),(q,r.2.2)))))=nL (19+1) 5 P 497 ["which","number","shift","roots"] .none [] Zo 32 516 true nw (.cons (.int 2 (dF 2)) (.cons (.tup (.cons (.int z1 qL) (.cons (.int z2 qL) .nil))) (.cons (.aU q b) (.cons (tu q [a0,a1,a2,a3,a4,a5,a6,a7]) .nil)))) kp rz:=by kernel_rfl
theorem cLong:ao 497 ⟨33,519,true,vL⟩:=
 aG (m:=19) (n:=5) (rt:=.none) (ns:=["which","number","shift","roots"]) (bN:=[]) vK bJ (fun P=>by kernel_rfl) (fun P S=>ad0 fun a b c d=>by kernel_rfl) fun P args kp rz G h=>by
  refine aa h fun t h1 h=>?_
  refine aa h fun w h2 h=>?_
  rw[Zq h1]
  cases e:w.1==1 with
  |true=>
   rw[e] at h
   refine aa h fun z h3 h=>?_
   refine aa h fun b h4 h=>?_
   refine ai h fun g h=>?_
   rw[lG h4,Zs g]
   exact⟨.cons (.int 1 (dF 1)) (.cons (.int z qL) (.cons (.fq b.1 b.2) (.cons .none .nil))),.cons (fV h2 (beq_iff_eq.mp e)) (.cons (iF h3).1 .rfl),rfl,Eq.mp (by kernel_rfl) (show(lz b.1 b.2 z=none->∀_:Sg,kp .none)/\∀r,lz b.1 b.2 z=some r->kp (r1 (t1 ((b.1,r.1),(b.1,r.2.1),(b.1,r.2.2)))) from⟨fun e _=>h.1 e,h.2⟩)⟩
  |false=>
   rw[e] at h
   refine ai h fun g h=>?_
   refine aa h fun p h3 h=>?_
   refine aa h fun z1 h4 h=>?_
   refine aa h fun z2 h5 h=>?_
   obtain⟨⟨q,b⟩,h6,es,hl,e2,h⟩:=aH h
   obtain⟨a0,a1,a2,a3,a4,a5,a6,a7,rfl⟩:=l8_ hl
   refine ah h3 fun u h7 h8=>?_
   rw[dZ h6,e2,gK h7,bY h8]
   refine⟨.cons (.int 2 (dF 2)) (.cons (.tup (.cons (.int z1 qL) (.cons (.int z2 qL) .nil))) (.cons (.aU q b) (.cons (tu q [a0,a1,a2,a3,a4,a5,a6,a7]) .nil))),.cons (fV h2 (beq_iff_eq.mp g)) (.cons (.tup (.cons (iF h4).1 (.cons (iF h5).1 .rfl))) .rfl),rfl,?_⟩
   rw[<-Zt P q z1 z2 b a0 a1 a2 a3 a4 a5 a6 a7 kp rz]
   exact⟨_,rfl,rfl,fun e _=>h.1 e,h.2⟩
def qM(args:SV)(kp:SV->Prop)(_:Prop):Prop:=af (eX args) fun a=>af (dw a.1) fun w=>match w.1==1 with
 |true=>af (vG jU a.2.1) fun t=>af (jU a.2.2) fun b=>(t.1.1=b.1/\t.2.1.1=b.1/\t.2.2.1=b.1)/\kp (r1 (.int (uB b.1 t.1.2 t.2.1.2 t.2.2.2) fj))
 |false=>bF (w.1==2) (af (vG fh a.2.1) fun t=>af (fh a.2.2) fun b=>(t.1.1=b.1/\t.2.1.1=b.1/\t.2.2.1=b.1)/\(lC b.1 t.1.2 t.2.1.2 t.2.2.2 b.2=none->kp .none)/\∀r,lC b.1 t.1.2 t.2.1.2 t.2.2.2 b.2=some r->kp (r1 (i2 r)))
theorem I8:ao 504 ⟨33,519,true,qM⟩:=
 aG (m:=19) (n:=5) (rt:=.none) (ns:=["which","form","shift"]) (bN:=[]) vK bJ (fun P=>by kernel_rfl) (fun P S=>mS fun a b c=>by kernel_rfl) fun P args kp rz G h=>by
  refine aa h fun a h1 h=>?_
  refine aa h fun w h2 h=>?_
  rw[dU h1]
  cases e:w.1==1 with
  |true=>
   rw[e] at h
   refine aa h fun t h3 h=>?_
   refine aa h fun b h4 h=>?_
   rw[vH h3,lG h4]
   exact⟨.cons (.int 1 (dF 1)) (.cons (t1 t) (.cons (.fq b.1 b.2) .nil)),.cons (fV h2 (beq_iff_eq.mp e)) .rfl,rfl,Eq.mp (by kernel_rfl) h⟩
  |false=>
   rw[e] at h
   refine ai h fun g h=>?_
   refine aa h fun t h3 h=>?_
   obtain⟨b,h4,hb,h⟩:=aH h
   rw[qK h3,dZ h4]
   exact⟨.cons (.int 2 (dF 2)) (.cons (t2 t) (.cons (.aU b.1 b.2) .nil)),.cons (fV h2 (beq_iff_eq.mp g)) .rfl,rfl,Eq.mp (by kernel_rfl) (show(t.1.1=b.1/\t.2.1.1=b.1/\t.2.2.1=b.1)/\(lC b.1 t.1.2 t.2.1.2 t.2.2.2 b.2=none->∀_:Sg,kp .none)/\∀r,lC b.1 t.1.2 t.2.1.2 t.2.2.2 b.2=some r->kp (r1 (i2 r)) from⟨hb,fun e _=>h.1 e,h.2⟩)⟩
noncomputable abbrev Df:List (Addr×fZ):=[(504,⟨33,519,true,qM⟩),(497,⟨33,519,true,vL⟩),(455,⟨6,53,false,lV⟩),(434,⟨1,3,false,jt⟩),(441,⟨1,3,false,uT⟩),(448,⟨2,6,false,uU⟩),(462,⟨7,56,false,qH⟩),(469,⟨1,13,false,uW⟩),(476,⟨1,3,false,uV⟩),(483,⟨1,3,false,vc⟩),(490,⟨1,3,false,z3⟩),(516,⟨2,20,false,Ey⟩),(264,⟨5,50,false,oH⟩),(78,⟨31,503,false,tB⟩)]
theorem oN:bX Df:=by
 iterate 14 refine .cons (by first|exact I8|exact cLong|exact z5|exact oG|exact Yu|exact Yv|exact IU|exact Yx|exact Yw|exact YE|exact ad1|exact cFR|exact Ep|exact Zg) (fun P=>by kernel_rfl) ?_
 exact .nil
def Ar(args:SV)(kp:SV->Prop)(_:Prop):Prop:=af (eX args) fun t=>af (om t.1) fun r=>af (eX r) fun f=>af (wP fH f.1) fun f0=>af (wP fH f.2.1) fun f1=>af (wP fH f.2.2) fun f2=>af (wP fH t.2.1) fun s=>af (wI f9 t.2.2) fun p=>ze p f0 f1 f2 s/\kp (.bool true false)
section
variable(p:Int)(f0 f1 f2 s:Int×Int)(kp:SV->Prop)
def wrT(n:Bool):Prop:=∀a,a=aF p f1 f1->∀b,b=aF p a f2->∀c,c=cz p f0->∀d,d=cz p f2->∀e,e=aF p s d->∀g,g=cG p c e->kp (.bool ((!n)==(b.1==g.1&&(b.2==g.2&&true))) false)
theorem aeA(P:Params)(rz:Prop):((p=p/\p=p/\p=p)/\(lC p (aD p f0) (aD p f1) (aD p f2) (aD p s)=none->((f2.1==0&&(f2.2==0&&true))=true->kp (.bool false false))/\((f2.1==0&&(f2.2==0&&true))=false->wrT p f0 f1 f2 s kp true))/\
  ∀r,lC p (aD p f0) (aD p f1) (aD p f2) (aD p s)=some r->((f2.1==0&&(f2.2==0&&true))=true->kp (.bool (r.1==6*2 ^ Int.toNat 381&&(r.2==0&&true)&&true) false))/\((f2.1==0&&(f2.2==0&&true))=false->wrT p f0 f1 f2 s kp false))=
 nL (19+1) 5 P 526 ["form","shift","p"] (.bool false false) [] Df 33 529 true nw (.cons (.rl (.cons (tupI fH f0) (.cons (tupI fH f1) (.cons (tupI fH f2) .nil)))) (.cons (tupI fH s) (.cons (.int p f9) .nil))) kp rz:=by kernel_rfl
theorem Zu{n:Bool}(h:kp (.bool true false))(e:(!n)=dm (aF p (aF p f1 f1) f2) (cG p (cz p f0) (aF p s (cz p f2)))):wrT p f0 f1 f2 s kp n:=fun a ea b eb c ec d ed x ex g eg=>by
 have k:(b.1==g.1&&(b.2==g.2&&true))=dm (aF p (aF p f1 f1) f2) (cG p (cz p f0) (aF p s (cz p f2))):=by
  rw[Bool.and_true,eg,ex,ed,ec,eb,ea]
  rfl
 rw[k,<-e,beq_self_eq_true]
 exact h
end
theorem aeB:ao 526 ⟨34,532,true,Ar⟩:=
 aG (m:=19) (n:=5) (rt:=.bool false false) (ns:=["form","shift","p"]) (bN:=[]) oN bJ (fun P=>by kernel_rfl) (fun P S=>mS fun a b c=>by kernel_rfl) fun P args kp rz G h=>by
  refine aa h fun t h1 h=>?_
  refine aa h fun r h2 h=>?_
  refine aa h fun f h3 h=>?_
  refine aa h fun f0 h4 h=>?_
  refine aa h fun f1 h5 h=>?_
  refine aa h fun f2 h6 h=>?_
  refine aa h fun s h7 h=>?_
  obtain⟨p,h8,hf,h⟩:=aH h
  rw[dU h1,ir h2,dU h3]
  refine⟨.cons (.rl (.cons (tupI fH f0) (.cons (tupI fH f1) (.cons (tupI fH f2) .nil)))) (.cons (tupI fH s) (.cons (.int p f9) .nil)),.cons (.rl (.cons (Em h4) (.cons (Em h5) (.cons (Em h6) .rfl)))) (.cons (Em h7) (.cons (iF h8).1 .rfl)),rfl,?_⟩
  rw[<-aeA p f0 f1 f2 s kp P rz]
  have z:(f2.1==0&&(f2.2==0&&true))=dm f2 (0,0):=by rw[Bool.and_true];rfl
  rw[z]
  refine⟨⟨rfl,rfl,rfl⟩,fun e=>⟨fun e2=>?_,fun e2=>?_⟩,fun r e=>⟨fun e2=>?_,fun e2=>?_⟩⟩
  ·rw[hf.inf (Ao.mp e2)] at e;cases e
  ·have k:=hf.fin (nM e2)
   rw[e] at k
   exact Zu p f0 f1 f2 s kp h k
  ·rw[hf.inf (Ao.mp e2)] at e
   rw[<-Option.some.inj e]
   exact YH h (by rw[show((2:Int) ^ 383+2 ^ 382==6*2 ^ Int.toNat 381&&((0:Int)==0&&true)&&true)=true by decide +kernel])
  ·have k:=hf.fin (nM e2)
   rw[e] at k
   exact Zu p f0 f1 f2 s kp h k
theorem As{q:Int}(h:0<q){es:List (Int×Int)}{v r:Int×Int}(e:lA q es v=some r):bP q r:=by
 unfold lA at e
 by_cases c:(gw es).any (fun b=>dm b (gy q v))=true
 ·rw[if_pos c] at e
  rw[<-Option.some.inj e]
  by_cases g:HL (ig q es v) (bW q (ig q es v))=true
  ·rw[if_pos g];exact bP.mul h _ _
  ·rw[if_neg g];exact eV h _ _
 ·rw[if_neg c] at e;cases e
def EL(args:SV)(kp:SV->Prop)(_:Prop):Prop:=af (cJ args) fun t=>af (wP fH t.1) fun v=>af (wI f9 t.2) fun p=>ng p v/\kp (.bool true false)
section
variable(p:Int)(v:Int×Int)(kp:SV->Prop)
def rtT(r:Int×Int):Prop:=(decide (0<=r.1)=true->((!decide (r.1<p))=true->kp (.bool false false))/\((!decide (r.1<p))=false->(decide (0<=r.2)=true->((!decide (r.2<p))=true->kp (.bool false false))/\((!decide (r.2<p))=false->∀m,m=aF p r r->((!(m.1==v.1&&(m.2==v.2&&true)))=true->kp (.bool false false))/\((!(m.1==v.1&&(m.2==v.2&&true)))=false->
 (decide (p<2*r.2)=true->kp (.bool (decide (p<2*r.2)) false))/\(decide (p<2*r.2)=false->((r.2==0)=true->kp (.bool (decide (p<2*r.1)) false))/\((r.2==0)=false->kp (.bool (r.2==0) false))))))/\(decide (0<=r.2)=false->kp (.bool false false))))/\(decide (0<=r.1)=false->kp (.bool false false))
theorem aeC(P:Params)(rz:Prop):(∃es,es.length=8/\vj p=tu p es/\(lA p es (aD p v)=none->kp (.bool (!gz p v) false))/\∀r,lA p es (aD p v)=some r->rtT p v kp r)=nL (19+1) 5 P 538 ["value","p"] (.bool false false) [] Df 33 529 false nw (.cons (tupI fH v) (.cons (.int p f9) .nil)) kp rz:=by kernel_rfl
theorem aeD{r:Int×Int}(i:bP p r)(h:kp (.bool true false))(e1:aF p r r=v)(e2:p<2*r.2\/(r.2=0/\p<2*r.1)):rtT p v kp r:=by
 refine⟨fun _=>⟨fun e=>?_,fun _=>⟨fun _=>⟨fun e=>?_,fun _ m em=>⟨fun e=>?_,fun _=>⟨fun e=>?_,fun e=>⟨fun e3=>?_,fun e3=>?_⟩⟩⟩⟩,fun e=>absurd i.2.2.1 (of_decide_eq_false e)⟩⟩,fun e=>absurd i.1 (of_decide_eq_false e)⟩
 ·rw[decide_eq_true i.2.1] at e;cases e
 ·rw[decide_eq_true i.2.2.2] at e;cases e
 ·rw[em,e1,beq_self_eq_true,beq_self_eq_true] at e;cases e
 ·rw[e];exact h
 ·rcases e2 with k|k
  ·exact absurd k (of_decide_eq_false e)
  ·rw[decide_eq_true k.2];exact h
 ·rcases e2 with k|k
  ·exact absurd k (of_decide_eq_false e)
  ·exact absurd k.1 (xo e3)
end
theorem cRt:ao 538 ⟨34,532,false,EL⟩:=
 aG (m:=19) (n:=5) (rt:=.bool false false) (ns:=["value","p"]) (bN:=[]) oN bJ (fun P=>by kernel_rfl) (fun P S=>dK fun a b=>by kernel_rfl) fun P args kp rz G h=>by
  refine aa h fun t h1 h=>?_
  refine aa h fun v h2 h=>?_
  obtain⟨p,h3,hf,h⟩:=aH h
  rw[bY h1] at G⊢
  have hq:Qf p:=(YM h3 G.2.1).m rfl
  have h0:=hq.one
  refine⟨.cons (tupI fH v) (.cons (.int p f9) .nil),.cons (Em h2) (.cons (iF h3).1 .rfl),rfl,?_⟩
  rw[<-aeC p v kp P rz]
  refine⟨aM p,rfl,rfl,fun e=>?_,fun r e=>?_⟩
  ·rw[hf.no e];exact h
  ·exact aeD p v kp (As (by exact jc h0) e) h (hf.yes r e).1 (hf.yes r e).2
noncomputable abbrev Au:List (Addr×fZ):=(427,⟨1,3,false,jJ⟩)::(526,⟨34,532,true,Ar⟩)::Df
noncomputable def Av(s:SV):Option (List Int):=SV.rec (motive:=fun _=>Option (List Int)) (fun _ _=>none) (fun _ _=>none) none (fun _ _=>none) (fun _ _=>none) (some []) (fun h _ _ ih=>(wI uS h).bind fun x=>ih.map fun l=>x::l) (fun _ _=>none) (fun _ _=>none) (fun _=>none) (fun _=>none) s
theorem Aw{s:SV}:∀{l:List Int},Av s=some l->Wk s (oK (fun _=>uS) l):=by
 induction s with
 |nil=>intro l h;rw[<-Option.some.inj h];exact .rfl
 |cons a b _ ih=>
  intro l h
  refine ah h fun x h1 h=>?_
  obtain⟨r,h2,h⟩:=Option.map_eq_some_iff.mp h
  rw[<-h]
  exact .cons (iF h1).1 (ih h2)
 |_=>exact fun h=>no h
section
variable(p c x top sc g6 g7:Int)(kp:SV->Prop)
noncomputable def Bc:Int:=(x*x*x+c).fmod p
def I9(b:Bool)(R:Prop):Prop:=((x==0)=true->kp (.bool b false))/\((x==0)=false->(decide (p<=x)=true->kp (.bool b false))/\(decide (p<=x)=false->((!([4,5].any fun y=>y==top))=true->kp (.bool b false))/\((!([4,5].any fun y=>y==top))=false->
 ((ef (Bc p c x) ((p-1).fdiv 2) p==p-1)=true->kp (.bool b false))/\((ef (Bc p c x) ((p-1).fdiv 2) p==p-1)=false->((Bc p c x==0)=true->kp (.bool true false))/\((Bc p c x==0)=false->R)))))
def nuR(r:Int×Int×Int):Prop:=((!(r.1==x&&(r.2.1==r.2.1&&(r.2.2==1&&true))))=true->kp (.bool false false))/\((!(r.1==x&&(r.2.1==r.2.1&&(r.2.2==1&&true))))=false->((!((r.2.1*r.2.1).fmod p==Bc p c x))=true->kp (.bool false false))/\((!((r.2.1*r.2.1).fmod p==Bc p c x))=false->
 (decide (0<=r.2.1)=true->((!decide (r.2.1<p))=true->kp (.bool false false))/\((!decide (r.2.1<p))=false->((!(decide (p<2*r.2.1)==(top==5)))=true->kp (.bool false false))/\((!(decide (p<2*r.2.1)==(top==5)))=false->
  (p=p/\p=p/\p=p)/\kp (.bool (uB p ((x*sc).fmod p) ((r.2.1*sc).fmod p) (sc.fmod p)==x+top*2 ^ Int.toNat 381&&true) false))))/\(decide (0<=r.2.1)=false->kp (.bool false false))))
def nuB:Prop:=((!(uB p (g6.fmod p) (g7.fmod p) ((0:Int).fmod p)==6*2 ^ Int.toNat 381&&true))=true->kp (.bool false false))/\((!(uB p (g6.fmod p) (g7.fmod p) ((0:Int).fmod p)==6*2 ^ Int.toNat 381&&true))=false->
 (lz p (c.fmod p) (x+top*2 ^ Int.toNat 381)=none->((x==0)=true->((top==6)=true->kp (.bool (!true) false))/\((top==6)=false->I9 p c x top kp true (kp (.bool false false))))/\((x==0)=false->I9 p c x top kp true (kp (.bool false false))))/\
 ∀r,lz p (c.fmod p) (x+top*2 ^ Int.toNat 381)=some r->((x==0)=true->((top==6)=true->((r.2.2==0)=true->kp (.bool (!(r.2.1==0)) false))/\((r.2.2==0)=false->kp (.bool (r.2.2==0) false)))/\((top==6)=false->I9 p c x top kp false (nuR p c x top sc kp r)))/\((x==0)=false->I9 p c x top kp false (nuR p c x top sc kp r)))
end
noncomputable def gV(n:Nat)(g:Int):Int:=aK.getD (g.fmod n).toNat 0
theorem aeE(P:Params)(g0 g1 g2 g3 g4 g5 g6 g7 g8 g9 iu:Int)(kp:SV->Prop)(rz:Prop):((0<=g1.fmod 16/\g1.fmod 16<16)/\((!A9 (jo g3) (cZ g4 (gV 16 g1) (Int.toNat 381)) g6)=true->kp (.bool false false))/\((!A9 (jo g3) (cZ g4 (gV 16 g1) (Int.toNat 381)) g6)=false->(gV 16 g1=gV 16 g1/\gV 16 g1=gV 16 g1/\gV 16 g1=gV 16 g1)/\
 nuB (gV 16 g1) (1+g2.fmod (gV 16 g1-1)) (cZ g4 (gV 16 g1) (Int.toNat 381)) (jo g3) (1+g5.fmod (gV 16 g1-1)) g6 g7 kp))=
 nL (19+1) 5 P 521 ["given"] (.bool false false) [] Au 34 540 true nw (.cons (.rl (oK (fun _=>uS) [g0,g1,g2,g3,g4,g5,g6,g7,g8,g9,iu])) .nil) kp rz:=by kernel_rfl
theorem Ax{t x y:Int}(h0:0<=x)(h1:x<2 ^ 381)(t0:0<=t):A9 t x y=true:=by
 obtain⟨f3,f2,f1,f0⟩:=zd h0 h1 t0
 unfold A9 flB
 rw[f3,f2,f1,f0]
 have d:∀a:Int,(decide (a=1)==(a==1))=true:=fun a=>beq_self_eq_true _
 rw[d,d,d,beq_self_eq_true,beq_self_eq_true]
 rfl
section
variable{p c x top sc g6 g7:Int}{kp:SV->Prop}
theorem vM(t:Int):([4,5].any fun y=>y==t)=true↔(t=4\/t=5):=by
 rw[List.any_cons,List.any_cons,List.any_nil,Bool.or_false,Bool.or_eq_true,beq_iff_eq,beq_iff_eq]
 exact⟨fun h=>h.imp Eq.symm Eq.symm,fun h=>h.imp Eq.symm Eq.symm⟩
theorem Zv{b:Bool}{R:Prop}(h1:(x=0\/p<=x\/¬(top=4\/top=5)\/ef (Bc p c x) ((p-1).fdiv 2) p=p-1)->kp (.bool b false))(h2:kp (.bool true false))(h3:¬(x=0\/p<=x\/¬(top=4\/top=5)\/ef (Bc p c x) ((p-1).fdiv 2) p=p-1)->Bc p c x≠0->R):I9 p c x top kp b R:=by
 refine⟨fun e=>h1 (.inl (beq_iff_eq.mp e)),fun e=>⟨fun e2=>h1 (.inr (.inl (of_decide_eq_true e2))),fun e2=>⟨fun e3=>h1 (.inr (.inr (.inl fun k=>?_))),fun e3=>⟨fun e4=>h1 (.inr (.inr (.inr (beq_iff_eq.mp e4)))),fun e4=>⟨fun _=>h2,fun e5=>h3 ?_ (xo e5)⟩⟩⟩⟩⟩
 ·rw[(vM top).mpr k] at e3;cases e3
 ·rintro (k|k|k|k)
  ·exact xo e k
  ·exact of_decide_eq_false e2 k
  ·exact k ((vM top).mp (nf e3))
  ·exact xo e4 k
theorem aeF(h:kp (.bool true false)){y:Int}(h1:(y*y).fmod p=Bc p c x)(h2:0<=y)(h3:y<p)(h4:p<2*y↔top=5)(h5:uB p ((x*sc).fmod p) ((y*sc).fmod p) (sc.fmod p)=x+top*2 ^ Int.toNat 381):nuR p c x top sc kp (x,y,1):=by
 refine⟨fun e=>?_,fun _=>⟨fun e=>absurd h1 (Zf e),fun _=>⟨fun _=>⟨fun e=>?_,fun _=>⟨fun e=>?_,fun _=>⟨⟨rfl,rfl,rfl⟩,?_⟩⟩⟩,fun e=>absurd h2 (of_decide_eq_false e)⟩⟩⟩
 ·rw[beq_self_eq_true,beq_self_eq_true] at e;cases e
 ·rw[decide_eq_true h3] at e;cases e
 ·exact absurd (show decide (p<2*y)=(top==5) from decide_eq_decide.mpr h4) (nb_ e)
 ·rw[h5,beq_self_eq_true];exact h
theorem p6:((2:Int) ^ 383+2 ^ 382==6*2 ^ Int.toNat 381&&true)=true:=by decide +kernel
theorem aeG(h:kp (.bool true false))(hf:HP p c top x sc):nuB p c x top sc g6 g7 kp:=by
 have e0:uB p (g6.fmod p) (g7.fmod p) ((0:Int).fmod p)=2 ^ 383+2 ^ 382:=by unfold uB;rw[if_pos (Int.zero_fmod p)]
 have ec:c.fmod p=c:=Int.fmod_eq_of_lt (Int.le_of_lt hf.c0) hf.c1
 unfold nuB
 rw[e0,p6,ec]
 have key:¬(x=0/\top=6)->∀r,lz p c (x+top*2 ^ Int.toNat 381)=some r->I9 p c x top kp false (nuR p c x top sc kp r):=fun hn r er=>Zv (fun k=>by rw[hf.no hn k] at er;cases er) h fun k k2=>by
  obtain⟨y,e,h1,h2,h3,h4,h5⟩:=hf.yes k k2
  rw[e] at er
  rw[<-Option.some.inj er]
  exact aeF h h1 h2 h3 h4 h5
 have Zw:lz p c (x+top*2 ^ Int.toNat 381)=none->I9 p c x top kp true (kp (.bool false false)):=fun er=>Zv (fun _=>h) h fun k k2=>by
  obtain⟨y,e,_⟩:=hf.yes k k2
  rw[er] at e
  cases e
 refine⟨fun e=>Bool.noConfusion e,fun _=>⟨fun er=>⟨fun e=>⟨fun e2=>?_,fun _=>Zw er⟩,fun _=>Zw er⟩,fun r er=>⟨fun e=>⟨fun e2=>?_,fun e2=>key (fun k=>xo e2 k.2) r er⟩,fun e=>key (fun k=>xo e k.1) r er⟩⟩⟩
 ·rw[hf.inf (beq_iff_eq.mp e) (beq_iff_eq.mp e2)] at er;cases er
 ·rw[hf.inf (beq_iff_eq.mp e) (beq_iff_eq.mp e2)] at er
  rw[<-Option.some.inj er]
  exact⟨fun _=>h,fun e=>Bool.noConfusion e⟩
end
theorem Ja{n:Nat}{g:Int}(h0:0<=g.fmod n)(h1:g.fmod n<n)(hn:n<=16):gV n g∈aK:=by
 unfold gV
 have:(g.fmod n).toNat<aK.length:=by have:aK.length=16:=rfl;exact Zi h1 hn this
 rw[List.getD_eq_getElem?_getD,List.getElem?_eq_getElem this]
 exact List.getElem_mem _
def oO(args:SV)(kp:SV->Prop)(_:Prop):Prop:=af (cN args) fun a=>af (om a) fun r=>af (Av r) fun l=>(∃g0 g1 g2 g3 g4 g5 g6 g7 g8 g9 iu,l=[g0,g1,g2,g3,g4,g5,g6,g7,g8,g9,iu])/\kp (.bool true false)
def Dg:Prop:=∀p∈aK,∀g2 g3 g4 g5:Int,0<=g2->0<=g3->0<=g4->0<=g5->HP p (1+g2.fmod (p-1)) (jo g3) (cZ g4 p 381) (1+g5.fmod (p-1))
theorem aeH{x:Int}{s:SV}(h:wI uS s=some x)(G:Gd s):0<=x:=(YM h G).p rfl
theorem qN{s:SV}:∀{l:List Int},Av s=some l->Gd s->∀x∈l,0<=x:=by
 induction s with
 |nil=>intro l h _ x hx;rw[<-Option.some.inj h] at hx;cases hx
 |cons a b _ ih=>
  intro l h G x hx
  refine ah h fun y h1 h=>?_
  obtain⟨r,h2,h⟩:=Option.map_eq_some_iff.mp h
  rw[<-h] at hx
  rcases List.mem_cons.mp hx with rfl|hx
  ·exact aeH h1 G.1
  ·exact ih h2 G.2 x hx
 |_=>exact fun h=>no h
theorem qO(hQ:∀p∈aK,Qf p):bX Au:=.cons (u9 hQ) (fun P=>by kernel_rfl) (.cons aeB (fun P=>by kernel_rfl) oN)
theorem Dh(n:Nat)(hn:0<n)(g:Int):0<=g.fmod n/\g.fmod n<n:=⟨Int.fmod_nonneg_of_pos _ (by exact Int.ofNat_le.mpr hn),Int.fmod_lt_of_pos _ (by exact Int.ofNat_le.mpr hn)⟩
theorem aeI(hQ:∀p∈aK,Qf p)(hN:Dg):ao 521 ⟨35,543,true,oO⟩:=
 aG (m:=19) (n:=5) (rt:=.bool false false) (ns:=["given"]) (bN:=[]) (qO hQ) bJ (fun P=>by kernel_rfl) (fun P S=>fY fun a=>by kernel_rfl) fun P args kp rz G h=>by
  refine aa h fun a h1 h=>?_
  refine aa h fun r h2 h=>?_
  obtain⟨l,h3,⟨g0,g1,g2,g3,g4,g5,g6,g7,g8,g9,iu,e⟩,h⟩:=aH h
  rw[fX h1,ir h2] at G⊢
  have nn:=qN h3 G.1
  have wk:=Aw h3
  rw[e] at nn wk
  refine⟨.cons (.rl (oK (fun _=>uS) [g0,g1,g2,g3,g4,g5,g6,g7,g8,g9,iu])) .nil,.cons (.rl wk) .rfl,rfl,?_⟩
  rw[<-aeE P g0 g1 g2 g3 g4 g5 g6 g7 g8 g9 iu kp rz]
  have b:=Dh 16 (by decide) g1
  have hf:=hN _ (Ja b.1 b.2 (by decide)) g2 g3 g4 g5 (nn _ (by simp)) (nn _ (by simp)) (nn _ (by simp)) (nn _ (by simp))
  refine⟨b,fun e=>?_,fun _=>⟨⟨rfl,rfl,rfl⟩,aeG h hf⟩⟩
  rw[show A9 (jo g3) (cZ g4 (gV 16 g1) (Int.toNat 381)) g6=true from Ax hf.x0 hf.x1 hf.t0] at e
  cases e
section
variable(p top x1 x2:Int)(c s:Int×Int)(kp:SV->Prop)
def paU(b:Bool)(R:Int×Int->Prop)(q:Int×Int):Prop:=((!([4,5].any fun y=>y==top))=true->kp (.bool b false))/\((!([4,5].any fun y=>y==top))=false->(decide (p<=x1)=true->kp (.bool b false))/\(decide (p<=x1)=false->(decide (p<=x2)=true->kp (.bool b false))/\(decide (p<=x2)=false->
 ((q.1==0&&(q.2==0&&true))=true->kp (.bool true false))/\((q.1==0&&(q.2==0&&true))=false->((!gz p q)=true->kp (.bool b false))/\((!gz p q)=false->R q)))))
def Di(b:Bool)(R:Int×Int->Prop):Prop:=∀a,a=cz p (x2.fmod p,x1.fmod p)->∀q,q=cG p a c->((x1==0)=true->((x2==0)=true->kp (.bool b false))/\((x2==0)=false->paU p top x1 x2 kp b R q))/\((x1==0)=false->paU p top x1 x2 kp b R q)
def paE(y:Int×Int):Prop:=∀a,a=aF p (x2,x1) s->∀b,b=aF p y s->(p=p/\p=p/\p=p)/\(lC p (aD p a) (aD p b) (aD p s) (aD p c)=none->kp (.bool false false))/\∀w,lC p (aD p a) (aD p b) (aD p s) (aD p c)=some w->kp (.bool (w.1==x1+top*2 ^ Int.toNat 381&&(w.2==x2&&true)&&true) false)
def paY(y:Int×Int)(t:Int)(q:Int×Int):Prop:=∀m,m=aF p y y->((!(m.1==q.1&&(m.2==q.2&&true)))=true->kp (.bool false false))/\((!(m.1==q.1&&(m.2==q.2&&true)))=false->(decide (0<=y.1)=true->((!decide (y.1<p))=true->kp (.bool false false))/\((!decide (y.1<p))=false->(decide (0<=y.2)=true->((!decide (y.2<p))=true->kp (.bool false false))/\((!decide (y.2<p))=false->
 ((!(decide (p<2*t)==(top==5)))=true->kp (.bool false false))/\((!(decide (p<2*t)==(top==5)))=false->paE p top x1 x2 c s kp y)))/\(decide (0<=y.2)=false->kp (.bool false false))))/\(decide (0<=y.1)=false->kp (.bool false false)))
def paR(r:(Int×Int)×(Int×Int)×(Int×Int))(q:Int×Int):Prop:=((!(r.1.1==x2&&(r.1.2==x1&&true)))=true->kp (.bool false false))/\((!(r.1.1==x2&&(r.1.2==x1&&true)))=false->((!(r.2.2.1==1&&(r.2.2.2==0&&true)))=true->kp (.bool false false))/\((!(r.2.2.1==1&&(r.2.2.2==0&&true)))=false->
 ((!(r.2.1.2==0))=true->paY p top x1 x2 c s kp r.2.1 r.2.1.2 q)/\((!(r.2.1.2==0))=false->paY p top x1 x2 c s kp r.2.1 r.2.1.1 q)))
def paN:Prop:=((x1==0)=true->((x2==0)=true->((top==6)=true->kp (.bool (!true) false))/\((top==6)=false->Di p top x1 x2 c kp true fun _=>kp (.bool false false)))/\((x2==0)=false->Di p top x1 x2 c kp true fun _=>kp (.bool false false)))/\((x1==0)=false->Di p top x1 x2 c kp true fun _=>kp (.bool false false))
def paS(r:(Int×Int)×(Int×Int)×(Int×Int)):Prop:=((x1==0)=true->((x2==0)=true->((top==6)=true->((r.2.2.1==0&&(r.2.2.2==0&&true))=true->kp (.bool (!(r.2.1.1==0&&(r.2.1.2==0&&true))) false))/\((r.2.2.1==0&&(r.2.2.2==0&&true))=false->kp (.bool (r.2.2.1==0&&(r.2.2.2==0&&true)) false)))/\((top==6)=false->Di p top x1 x2 c kp false (paR p top x1 x2 c s kp r)))/\
 ((x2==0)=false->Di p top x1 x2 c kp false (paR p top x1 x2 c s kp r)))/\((x1==0)=false->Di p top x1 x2 c kp false (paR p top x1 x2 c s kp r))
def paW(f0 f1 f2:Int×Int):Prop:=ze p f0 f1 f2 c/\((!true)=true->kp (.bool false false))/\((!true)=false->∃es,es.length=8/\vj p=tu p es/\(jT p es (aD p c) (x1+top*2 ^ Int.toNat 381) x2=none->paN p top x1 x2 c kp)/\∀r,jT p es (aD p c) (x1+top*2 ^ Int.toNat 381) x2=some r->paS p top x1 x2 c s kp r)
def paF(g8:Int)(f0 f1 f2:Int×Int):Prop:=((!A9 top x1 x2)=true->kp (.bool false false))/\((!A9 top x1 x2)=false->((g8.fmod 8==1)=true->paW p top x1 x2 c s kp f0 f1 (0,0))/\((g8.fmod 8==1)=false->paW p top x1 x2 c s kp f0 f1 f2))
end
noncomputable def pn(v:Int×Int):Bool:= !(v.1==0&&(v.2==0&&true))
noncomputable def pD(p g:Int):Int×Int:=(g.fmod p,(g.fdiv p).fmod p)
def Zx(p g3 g4 g7 g8 g9 iu:Int)(kp:SV->Prop)(c s:Int×Int):Prop:=paF p (jo g3) (cZ g4 p (Int.toNat 381)) (cZ g7 p (Int.toNat 384)) c s kp g8 (pD p g8) (pD p g9) (pD p iu)
def paX(p g2 g3 g4 g5 g6 g7 g8 g9 iu:Int)(kp:SV->Prop):Prop:=(pn (pD p g2)=true->(pn (g5.fmod p,g6.fmod p)=true->Zx p g3 g4 g7 g8 g9 iu kp (pD p g2) (g5.fmod p,g6.fmod p))/\(pn (g5.fmod p,g6.fmod p)=false->Zx p g3 g4 g7 g8 g9 iu kp (pD p g2) (1,0)))/\
 (pn (pD p g2)=false->(pn (g5.fmod p,g6.fmod p)=true->Zx p g3 g4 g7 g8 g9 iu kp (1,0) (g5.fmod p,g6.fmod p))/\(pn (g5.fmod p,g6.fmod p)=false->Zx p g3 g4 g7 g8 g9 iu kp (1,0) (1,0)))
theorem Zy(P:Params)(g0 g1 g2 g3 g4 g5 g6 g7 g8 g9 iu:Int)(kp:SV->Prop)(rz:Prop):((0<=g1.fmod 14/\g1.fmod 14<16)/\paX (gV 14 g1) g2 g3 g4 g5 g6 g7 g8 g9 iu kp)=
 nL (19+1) 5 P 531 ["given"] (.bool false false) [] Au 34 540 true nw (.cons (.rl (oK (fun _=>uS) [g0,g1,g2,g3,g4,g5,g6,g7,g8,g9,iu])) .nil) kp rz:=by kernel_rfl
theorem Jb{q:Int}(hq:Qf q){es:List (Int×Int)}{b:Int×Int}{z1 z2:Int}{r:(Int×Int)×(Int×Int)×(Int×Int)}(e:jT q es b z1 z2=some r):bP q r.2.1:=by
 have h1:=hq.one
 have h0:0<q:=by exact jc h1
 rw[Zh] at e
 by_cases c1:cR z1 383=false
 ·rw[if_pos c1] at e;cases e
 rw[if_neg c1] at e
 by_cases c2:cR z1 382≠decide (iW z1=0/\z2=0)
 ·rw[if_pos c2] at e;cases e
 rw[if_neg c2] at e
 by_cases c3:iW z1=0/\z2=0
 ·rw[if_pos c3] at e
  by_cases c4:cR z1 381=true
  ·rw[if_pos c4] at e;cases e
  rw[if_neg c4] at e
  rw[<-Option.some.inj e]
  exact⟨by decide,h1,by decide,h0⟩
 rw[if_neg c3] at e
 by_cases c4:q<=iW z1
 ·rw[if_pos c4] at e;cases e
 rw[if_neg c4] at e
 by_cases c5:q<=z2
 ·rw[if_pos c5] at e;cases e
 rw[if_neg c5] at e
 cases hm:lA q es (d2v q z1 z2 b) with
 |none=>rw[hm] at e;cases e
 |some y=>
  rw[hm] at e
  have e:(if ly q (xq q z1 z2) (eB q (cR z1 381) y) (1,0) b=false then none else some (xq q z1 z2,eB q (cR z1 381) y,((1,0):Int×Int)))=some r:=e
  by_cases c6:ly q (xq q z1 z2) (eB q (cR z1 381) y) (1,0) b=false
  ·rw[if_pos c6] at e;cases e
  rw[if_neg c6] at e
  rw[<-Option.some.inj e]
  show bP q (eB q (cR z1 381) y)
  unfold eB
  by_cases c7:(0<y.2/\(y.2*2).fdiv q≠(if cR z1 381 then 1 else 0))\/(y.2=0/\(y.1*2).fdiv q≠(if cR z1 381 then 1 else 0))
  ·rw[if_pos c7];exact eV h0 _ _
  ·rw[if_neg c7];exact As h0 hm
section
variable{p top x1 x2:Int}{c s:Int×Int}{kp:SV->Prop}
theorem aeJ{b:Bool}{R:Int×Int->Prop}{q:Int×Int}(h1:(¬(top=4\/top=5)\/p<=x1\/p<=x2)->kp (.bool b false))(hT:kp (.bool true false))(h2:¬(¬(top=4\/top=5)\/p<=x1\/p<=x2)->q≠(0,0)->gz p q=false->kp (.bool b false))(h3:¬(¬(top=4\/top=5)\/p<=x1\/p<=x2)->q≠(0,0)->gz p q=true->R q):paU p top x1 x2 kp b R q:=by
 refine⟨fun e=>h1 (.inl fun k=>?_),fun e=>⟨fun e2=>h1 (.inr (.inl (of_decide_eq_true e2))),fun e2=>⟨fun e3=>h1 (.inr (.inr (of_decide_eq_true e3))),fun e3=>?_⟩⟩⟩
 ·rw[(vM top).mpr k] at e;cases e
 ·have nc:¬(¬(top=4\/top=5)\/p<=x1\/p<=x2):=by
   rintro (k|k|k)
   ·exact k ((vM top).mp (nf e))
   ·exact of_decide_eq_false e2 k
   ·exact of_decide_eq_false e3 k
  have z:(q.1==0&&(q.2==0&&true))=dm q (0,0):=by rw[Bool.and_true];rfl
  rw[z]
  exact⟨fun _=>hT,fun e4=>⟨fun e5=>h2 nc (nM e4) (nt e5),fun e5=>h3 nc (nM e4) (nf e5)⟩⟩
theorem Zz{b:Bool}{R:Int×Int->Prop}(h1:((x1=0/\x2=0)\/¬(top=4\/top=5)\/p<=x1\/p<=x2)->kp (.bool b false))(hT:kp (.bool true false))(h2:¬((x1=0/\x2=0)\/¬(top=4\/top=5)\/p<=x1\/p<=x2)->cG p (cz p (x2.fmod p,x1.fmod p)) c≠(0,0)->gz p (cG p (cz p (x2.fmod p,x1.fmod p)) c)=false->kp (.bool b false))
  (h3:¬((x1=0/\x2=0)\/¬(top=4\/top=5)\/p<=x1\/p<=x2)->cG p (cz p (x2.fmod p,x1.fmod p)) c≠(0,0)->gz p (cG p (cz p (x2.fmod p,x1.fmod p)) c)=true->R (cG p (cz p (x2.fmod p,x1.fmod p)) c)):Di p top x1 x2 c kp b R:=fun a ea q eq=>by
 rw[eq,ea]
 have u:¬(x1=0/\x2=0)->paU p top x1 x2 kp b R (cG p (cz p (x2.fmod p,x1.fmod p)) c):=fun n=>aeJ (fun k=>h1 (.inr k)) hT (fun k=>h2 fun k2=>k2.elim n k) fun k=>h3 fun k2=>k2.elim n k
 exact⟨fun e=>⟨fun e2=>h1 (.inl ⟨beq_iff_eq.mp e,beq_iff_eq.mp e2⟩),fun e2=>u fun k=>xo e2 k.2⟩,fun e=>u fun k=>xo e k.1⟩
theorem ZA(hT:kp (.bool true false)){y q:Int×Int}{t:Int}(i:bP p y)(h1:aF p y y=q)(h2:p<2*t↔top=5)(h3:lC p (aD p (aF p (x2,x1) s)) (aD p (aF p y s)) (aD p s) (aD p c)=some (x1+top*2 ^ Int.toNat 381,x2)):paY p top x1 x2 c s kp y t q:=fun m em=>by
 refine⟨fun e=>?_,fun _=>⟨fun _=>⟨fun e=>?_,fun _=>⟨fun _=>⟨fun e=>?_,fun _=>⟨fun e=>?_,fun _ a ea b eb=>⟨⟨rfl,rfl,rfl⟩,fun e=>?_,fun w e=>?_⟩⟩⟩,fun e=>absurd i.2.2.1 (of_decide_eq_false e)⟩⟩,fun e=>absurd i.1 (of_decide_eq_false e)⟩⟩
 ·rw[em,h1,beq_self_eq_true,beq_self_eq_true] at e;cases e
 ·rw[decide_eq_true i.2.1] at e;cases e
 ·rw[decide_eq_true i.2.2.2] at e;cases e
 ·exact absurd (show decide (p<2*t)=(top==5) from decide_eq_decide.mpr h2) (nb_ e)
 ·rw[ea,eb,h3] at e;cases e
 ·rw[ea,eb,h3] at e
  rw[<-Option.some.inj e,beq_self_eq_true,beq_self_eq_true]
  exact hT
theorem ZC(hq:Qf p)(hT:kp (.bool true false)){f0 f1 f2:Int×Int}(hw:ze p f0 f1 f2 c)(hf:zf p c s top x1 x2):paW p top x1 x2 c s kp f0 f1 f2:=by
 refine⟨hw,fun e=>Bool.noConfusion e,fun _=>⟨aM p,rfl,rfl,fun er=>?_,fun r er=>?_⟩⟩
 ·have t:Di p top x1 x2 c kp true fun _=>kp (.bool false false):=Zz (fun _=>hT) hT (fun _ _ _=>hT) fun k k2 k3=>by
   obtain⟨u,v,e,_⟩:=hf.yes k k3 k2
   rw[er] at e
   cases e
  refine⟨fun e=>⟨fun e2=>⟨fun e3=>?_,fun _=>t⟩,fun _=>t⟩,fun _=>t⟩
  rw[hf.inf ⟨beq_iff_eq.mp e,beq_iff_eq.mp e2,beq_iff_eq.mp e3⟩] at er
  cases er
 ·have t:¬(x1=0/\x2=0/\top=6)->Di p top x1 x2 c kp false (paR p top x1 x2 c s kp r):=fun n=>Zz (fun k=>by rw[hf.no n k] at er;cases er) hT (fun k k2 k3=>by rw[hf.nsq k k3 k2] at er;cases er) fun k k2 k3=>by
   have i:=Jb hq er
   obtain⟨u,v,e,h1,h2,h3⟩:=hf.yes k k3 k2
   rw[e] at er
   rw[<-Option.some.inj er] at i⊢
   refine⟨fun e=>?_,fun _=>⟨fun e=>Bool.noConfusion e,fun _=>⟨fun e=>?_,fun e=>?_⟩⟩⟩
   ·rw[beq_self_eq_true,beq_self_eq_true] at e;cases e
   ·rw[if_pos (Zf e)] at h2
    exact ZA hT i h1 h2 h3
   ·rw[if_neg (fun k=>k (Dd e))] at h2
    exact ZA hT i h1 h2 h3
  refine⟨fun e=>⟨fun e2=>⟨fun e3=>?_,fun e3=>t fun k=>xo e3 k.2.2⟩,fun e2=>t fun k=>xo e2 k.2.1⟩,fun e=>t fun k=>xo e k.1⟩
  rw[hf.inf ⟨beq_iff_eq.mp e,beq_iff_eq.mp e2,beq_iff_eq.mp e3⟩] at er
  rw[<-Option.some.inj er]
  exact⟨fun _=>hT,fun e=>Bool.noConfusion e⟩
end
def Dj:Prop:=∀p∈aK.take 14,∀f0 f1 f2 s,bP p f0->bP p f1->bP p f2->bP p s->ze p f0 f1 f2 s
def vN:Prop:=∀p∈aK.take 14,∀c s,bP p c->c≠(0,0)->bP p s->s≠(0,0)->∀g3 g4 g7:Int,0<=g3->0<=g4->0<=g7->zf p c s (jo g3) (cZ g4 p 381) (cZ g7 p 384)
theorem EM{g:Int}:gV 14 g∈aK.take 14:=by
 have b:=Dh 14 (by decide) g
 have h:(g.fmod (14:Nat)).toNat<(aK.take 14).length:=by have:(aK.take 14).length=14:=rfl;exact Zj b this
 have e:gV 14 g=(aK.take 14)[(g.fmod (14:Nat)).toNat]:=by
  unfold gV
  rw[List.getD_eq_getElem?_getD,List.getElem_take,List.getElem?_eq_getElem (by have:aK.length=16:=rfl;exact Zk b this)]
  rfl
 rw[e]
 exact List.getElem_mem _
theorem Dk{v:Int×Int}(h:pn v=true):v≠(0,0):=fun e=>by rw[e] at h;cases h
theorem Jc(hQ:∀p∈aK,Qf p)(hW:Dj)(hP:vN):ao 531 ⟨35,543,true,oO⟩:=
 aG (m:=19) (n:=5) (rt:=.bool false false) (ns:=["given"]) (bN:=[]) (qO hQ) bJ (fun P=>by kernel_rfl) (fun P S=>fY fun a=>by kernel_rfl) fun P args kp rz G h=>by
  refine aa h fun a h1 h=>?_
  refine aa h fun r h2 h=>?_
  obtain⟨l,h3,⟨g0,g1,g2,g3,g4,g5,g6,g7,g8,g9,iu,e⟩,h⟩:=aH h
  rw[fX h1,ir h2] at G⊢
  have nn:=qN h3 G.1
  have wk:=Aw h3
  rw[e] at nn wk
  refine⟨.cons (.rl (oK (fun _=>uS) [g0,g1,g2,g3,g4,g5,g6,g7,g8,g9,iu])) .nil,.cons (.rl wk) .rfl,rfl,?_⟩
  rw[<-Zy P g0 g1 g2 g3 g4 g5 g6 g7 g8 g9 iu kp rz]
  have b:=Dh 14 (by decide) g1
  have mp:gV 14 g1∈aK.take 14:=EM
  have hq:=hQ _ (List.mem_of_mem_take mp)
  have q1:=hq.one
  have q0:0<gV 14 g1:=by exact jc q1
  have D:∀g,bP (gV 14 g1) (pD (gV 14 g1) g):=fun g=>eV q0 _ _
  have i1:bP (gV 14 g1) (1,0):=⟨by decide,q1,by decide,q0⟩
  have i0:bP (gV 14 g1) (0,0):=⟨by decide,q0,by decide,q0⟩
  have n1:((1,0):Int×Int)≠(0,0):=by decide
  have key:∀c s,bP (gV 14 g1) c->c≠(0,0)->bP (gV 14 g1) s->s≠(0,0)->Zx (gV 14 g1) g3 g4 g7 g8 g9 iu kp c s:=fun c s ic nc is ns=>by
   have hf:=hP _ mp c s ic nc is ns g3 g4 g7 (nn _ (by simp)) (nn _ (by simp)) (nn _ (by simp))
   refine⟨fun e=>?_,fun _=>⟨fun _=>ZC hq h (hW _ mp _ _ _ _ (D _) (D _) i0 ic) hf,fun _=>ZC hq h (hW _ mp _ _ _ _ (D _) (D _) (D _) ic) hf⟩⟩
   rw[show A9 (jo g3) (cZ g4 (gV 14 g1) (Int.toNat 381)) (cZ g7 (gV 14 g1) (Int.toNat 384))=true from Ax hf.p0 hf.p1 hf.t0] at e
   cases e
  have iS:bP (gV 14 g1) (g5.fmod (gV 14 g1),g6.fmod (gV 14 g1)):=eV q0 _ _
  exact⟨⟨b.1,Int.lt_trans (show g1.fmod 14<14 from b.2) (by decide)⟩,fun e=>⟨fun e2=>key _ _ (D _) (Dk e) iS (Dk e2),fun _=>key _ _ (D _) (Dk e) i1 n1⟩,fun _=>⟨fun e2=>key _ _ i1 n1 iS (Dk e2),fun _=>key _ _ i1 n1 i1 n1⟩⟩
noncomputable def vO(e:Expr):Option (Expr×Expr×Expr):=match e with
 | .IfExp t a b _=>some (t,a,b)
 |_=>none
noncomputable def Ay(e:Expr):Option (Expr×CmpOp×Expr):=match e with
 | .Compare l ops rs _=>(one ops).bind fun op=>(one rs).map fun r=>(l,op,r)
 |_=>none
noncomputable def Az(e:Expr):Option (Expr×Expr):=match e with
 | .Subscript v i _=>some (v,i)
 |_=>none
noncomputable def tC(e:Expr):Option (Expr×Operator×Expr):=match e with
 | .BinOp l op r _=>some (l,op,r)
 |_=>none
noncomputable def cInt(c:Const):Option Int:=match c with
 | .int i=>some i
 |_=>none
noncomputable def isLt(op:CmpOp):Bool:=match op with
 | .Lt=>true
 |_=>false
noncomputable def Dl(op:Operator):Nat:=match op with
 | .Add=>1
 | .Mult=>2
 |_=>0
theorem Jd{e:Expr}{q:Expr×Expr×Expr}(h:vO e=some q):∃p,e=.IfExp q.1 q.2.1 q.2.2 p:=by
 cases e with
 |IfExp t a b p=>exact⟨p,by rw[<-Option.some.inj h]⟩
 |_=>exact no h
theorem Dm{e:Expr}{q:Expr×CmpOp×Expr}(h:Ay e=some q):∃p,e=.Compare q.1 [q.2.1] [q.2.2] p:=by
 cases e with
 |Compare l ops rs p=>
  refine ah h fun op h1 h=>?_
  obtain⟨r,h2,h⟩:=Option.map_eq_some_iff.mp h
  exact⟨p,by rw[ones h1,ones h2,<-h]⟩
 |_=>exact no h
theorem Dn{e:Expr}{q:Expr×Expr}(h:Az e=some q):∃p,e=.Subscript q.1 q.2 p:=by
 cases e with
 |Subscript v i p=>exact⟨p,by rw[<-Option.some.inj h]⟩
 |_=>exact no h
theorem vP{e:Expr}{q:Expr×Operator×Expr}(h:tC e=some q):∃p,e=.BinOp q.1 q.2.1 q.2.2 p:=by
 cases e with
 |BinOp l op r p=>exact⟨p,by rw[<-Option.some.inj h]⟩
 |_=>exact no h
theorem AA{e:Expr}{i:Int}(h:(mV e).bind cInt=some i):∃k p,e=.Constant (.int i) k p:=by
 refine ah h fun c h1 h2=>?_
 clear h
 cases e with
 |Constant c' k p=>
  rw[<-Option.some.inj h1] at h2
  cases c' with
  |int j=>exact⟨k,p,by rw[Option.some.inj h2]⟩
  |_=>exact no h2
 |_=>exact no h1
theorem ZD{op:CmpOp}(h:isLt op=true):op=.Lt:=by cases op<;>first|rfl|exact Bool.noConfusion h
theorem aeK{op:Operator}(h:(Dl op==1)=true):op=.Add:=by cases op<;>first|rfl|cases h
theorem aeL{op:Operator}(h:(Dl op==2)=true):op=.Mult:=by cases op<;>first|rfl|cases h
noncomputable def ZE(v:Value):Option String:=match v with
 | .builtin b=>some b
 |_=>none
theorem ZF{v:Value}{b:String}(h:ZE v=some b):v=.builtin b:=by
 cases v with
 |builtin c=>rw[Option.some.inj h]
 |_=>exact no h
noncomputable def isB(o:Or)(σ:Sg)(x:Str)(id:String):Bool:=((rZ o σ x).bind Ie).bind ZE==some id
theorem ZG{o:Or}{σ:Sg}{x:Str}{id:String}(h:isB o σ x id=true):rZ o σ x=some (.val (.builtin id)):=by
 refine ah (beq_iff_eq.mp h) fun v h1 h2=>?_
 refine ah h1 fun t h3 h4=>?_
 rw[h3,zE h4,ZF h2]
noncomputable def AB(x:Addr):SV:=.val (.ref x)
def BL(l:List Int)(x:Addr)(h:Heap):Prop:=∃us,h.IsList x us.toArray/\IntsAre us l
noncomputable def gvn(l:List Int)(i:Int):Int:=if i<(l.length:Int) then(if l.getD i.toNat 0<0 then -(l.getD i.toNat 0) else l.getD i.toNat 0) else 5*i+4
def SPb(l:List Int)(xs:Addr)(o:Or)(σ:Sg)(k:K1)(t:Expr×CmpOp×Expr)(x:Str)(c:Str×Expr)(s:Str)(a:Str×Expr)(u:Expr×Expr)(b m:Expr×Operator×Expr):Prop:=bF (((isLt t.2.1&& !behindInMarks t.2.1 t.2.2)&&(isB o σ c.1 "len"&&isB o σ a.1 "abs"))&&(((eName u.1==some s)&&(eName u.2==some x))&&(((Dl b.2.1==1)&&(Dl m.2.1==2))&&(((mV m.1).bind cInt==some 5)&&((eName m.2.2==some x)&&((mV b.2.2).bind cInt==some 4)))))) (af ((rZ o σ x).bind dw) fun p=>bF (decide (0<=p.1)&&decide (p.1<=1000)) (rZ o σ s=some (AB xs)/\∀v,v=gvn l p.1->k (.int v uS) σ))
def SP(l:List Int)(xs:Addr)(o:Or)(q:Expr×Expr×Expr)(σ:Sg)(k:K1):Prop:=af (Ay q.1) fun t=>af (eName t.1) fun x=>af (jG t.2.2) fun c=>af (eName c.2) fun s=>af (jG q.2.1) fun a=>af (Az a.2) fun u=>af (tC q.2.2) fun b=>af (tC b.1) fun m=>SPb l xs o σ k t x c s a u b m
theorem ints_get:∀{us:List Value} {l:List Int},IntsAre us l->∀i:Nat,i<l.length->∃t,us[i]?=some (.int (l.getD i 0) t)
 |_,_,.nil,i,h=>absurd h (Nat.not_lt_zero _)
 |_,_,.cons n t r,0,h=>⟨t,rfl⟩
 |_,_,.cons n t r,i+1,h=>by
  obtain⟨t',e⟩:=ints_get r i (Nat.lt_of_succ_lt_succ h)
  exact⟨t',e⟩
theorem qP:∀{us:List Value} {l:List Int},IntsAre us l->us.length=l.length
 |_,_,.nil=>rfl
 |_,_,.cons n t r=>congrArg (·+1) (qP r)
section
variable{c:Cx}{o:Or}{W:Wd}{σ:Sg}
theorem Je(S:c8 c o){x:Str}{t:SV}{pos:Pos}(h:rZ o σ x=some t){its:Led}{s:Shared}{Q:Value->Shared->Prop}{E:Value->Shared->Prop}(hs:RS c its W σ s)(he:c.ex E)(kk:∀W' v s',W.le W'->VR W' t v->RS c its W' σ s'->Q v s'):wpAny (MM c.w) c.A (eval (.Name x pos) c.env) Q E s:=
 S.nm W σ x t pos h its s Q E hs he fun W' v t' aB s' l r cM k=>kk W' v s' l (k.1▸r) (k.2▸cM)
theorem qQ{l:List Int}{xs:Addr}(B:BL l xs c.base){its:Led}{agj h:Heap}{lf:List (Str×Value)}{led:Led}{gn:Array GenState}(R:RR c its W σ agj lf led h gn):∃us,h.IsList xs us.toArray/\IntsAre us l:=
 let⟨us,⟨o,ho,r⟩,hi⟩:=B
 ⟨us,⟨o,R.Z.F.keep _ _ (R.H.1.stays _ _ ho),r⟩,hi⟩
theorem Dp{l:List Int}{xs:Addr}(hl:l.length<=1000)(B:BL l xs c.base){its:Led}{s:Shared}{Q:Value->Shared->Prop}{E:Value->Shared->Prop}(hs:RS c its W σ s)(kk:∀t s',RS c its W σ s'->Q (.int l.length t) s'):wpAny (MM c.w) c.A (call (.builtin "len") [.ref xs]) Q E s:=by
 obtain⟨agj,lf,led,h,gn,tk,rfl,R⟩:=hs
 obtain⟨us,hu,hi⟩:=qQ B R
 have e:=qP hi
 refine PySem.Calls.call_len_list (s:=⟨h,gn,c.dr,tk,c.os⟩) hu (by simp;exact Int.lt_of_le_of_lt (Int.ofNat_le.mpr (Nat.le_trans (Nat.le_of_eq e) hl)) (by decide)) ?_
 have:=kk (tk+1) ⟨h,gn,c.dr,tk+1+1,c.os⟩ ⟨agj,lf,led,h,gn,_,rfl,R⟩
 simpa[e] using this
theorem Dq{l:List Int}{xs:Addr}(hl:l.length<=1000)(B:BL l xs c.base){value slice:Expr}(hsl:isSlice slice=false){i:Int}{u:Tok}(h0:0<=i)(h1:i<l.length){its:Led}{s:Shared}{Q:Value->Shared->Prop}{E:Value->Shared->Prop}(hs:RS c its W σ s)(kk:∀t,Q (.int (l.getD i.toNat 0) t) s):
  wpAny (MM c.w) c.A (subscriptTail value slice (.ref xs) (.int i u)) Q E s:=by
 obtain⟨agj,lf,led,h,gn,tk,rfl,R⟩:=hs
 obtain⟨us,hu,hi⟩:=qQ B R
 obtain⟨t,e⟩:=ints_get hi i.toNat (by exact(Int.toNat_lt h0).mpr h1)
 have qv:subscripted slice false (.ref xs) (.int i u)=operate [.ref xs,.int i u] (getItem (.ref xs) (.int i u)):=by
  cases slice<;>first|rfl|cases hsl
 exact tail_any hu.typeIs slot_list_getitem.lookup (wpAny_getItem_list (s:=⟨h,gn,c.dr,tk,c.os⟩) hu h0 (by exact KI hl h1) (by simpa using e) (kk t)) qv
theorem AD(S:c8 c o){l:List Int}{xs:Addr}(hl:l.length<=1000)(B:BL l xs c.base){e:Expr}{q:Expr×Expr×Expr}{k:K1}(hq:vO e=some q)(h:SP l xs o q σ k):Ev c (eval e c.env) W σ k:=by
 refine aa h fun t h1 h=>?_
 refine aa h fun x h2 h=>?_
 refine aa h fun cl h3 h=>?_
 refine aa h fun sn h4 h=>?_
 refine aa h fun a h5 h=>?_
 refine aa h fun u h6 h=>?_
 refine aa h fun b h7 h=>?_
 refine aa h fun m h8 h=>?_
 refine ai h fun g h=>?_
 refine aa h fun p h9 h=>?_
 obtain⟨g0,hs,hk⟩:=gM h
 have gA:=nb g
 have gB:=nb gA.1
 have gC:=nb gB.1
 have gD:=nb gB.2
 have gE:=nb gA.2
 have gF:=nb gE.1
 have gG:=nb gE.2
 have gH:=nb gG.1
 have gI:=nb gG.2
 have gJ:=nb gI.2
 obtain⟨p0,e0⟩:=Jd hq
 obtain⟨p1,e1⟩:=Dm h1
 obtain⟨p2,e2⟩:=fU h2
 obtain⟨p3,p4,e3⟩:=kh h3
 obtain⟨p5,e4⟩:=fU h4
 obtain⟨p6,p7,e5⟩:=kh h5
 obtain⟨p8,e6⟩:=Dn h6
 obtain⟨p9,e7⟩:=vP h7
 obtain⟨p10,e8⟩:=vP h8
 obtain⟨p11,e9⟩:=fU (beq_iff_eq.mp gF.1)
 obtain⟨p12,e10⟩:=fU (beq_iff_eq.mp gF.2)
 obtain⟨k13,p13,e11⟩:=AA (beq_iff_eq.mp gI.1)
 obtain⟨p14,e12⟩:=fU (beq_iff_eq.mp gJ.1)
 obtain⟨k15,p15,e13⟩:=AA (beq_iff_eq.mp gJ.2)
 have hbm:behindInMarks t.2.1 t.2.2=false:=by simpa using gC.2
 refine ah h9 fun xt Bb I3=>?_
 rw[bL I3] at Bb
 have hi:=nb g0
 have i0:0<=p.1:=of_decide_eq_true hi.1
 have i1:p.1<=1000:=of_decide_eq_true hi.2
 have VI:∀{W':Wd} {v:Value},VR W' (.int p.1 p.2) v->VR W' (.int p.1 (dF p.1)) v:=fun⟨t,e,_⟩=>⟨t,e,b8 _⟩
 have c64:bT p.1 ⟨64,false,true,false,false⟩:=⟨fun _=>show Sm 64 p.1 from Sm.lit (by exact Int.le_trans (Int.natCast_nonneg _) i0) (by exact Int.lt_of_le_of_lt i1 (Int.natCast_nonneg _)),fun e=>Bool.noConfusion e,fun _=>i0,fun e=>Bool.noConfusion e⟩
 have VJ:∀{W':Wd} {v:Value},VR W' (.int p.1 p.2) v->VR W' (.int p.1 ⟨64,false,true,false,false⟩) v:=fun⟨t,e,_⟩=>⟨t,e,c64⟩
 have hlen:=ZG gD.1
 have aeM:=ZG gD.2
 have cO:=ZD gC.1
 have aeN:=aeK gH.1
 have hmul:=aeL gH.2
 intro its s Q E qv he kk
 rw[cO] at hbm
 rw[e0,e1,e2,e3,e4,e5,e6,e7,e8,e9,e10,e11,e12,e13,cO,aeN,hmul]
 rw[e3,e4] at hbm
 refine DE (pF hbm (Je S Bb qv he fun W1 v1 s1 l1 r1 aV=>cC rfl (Je S hlen aV he fun W2 vf s2 l2 r2 cB=>?_)))
 rw[show vf=.builtin "len" from r2]
 refine gk (bh rfl) rfl (bx (bh rfl) (Je S hs cB he fun W3 v3 s3 l3 r3 mT=>cT ?_))
 rw[show v3=.ref xs from r3]
 refine Dp hl B mT fun tk s4 G2=>?_
 refine eG (W:=W3) (σ:=σ) S (op:=.Lt) (a:=.int p.1 fj) (b:=.int l.length fj) (k:=fun v aB=>aB=σ/\v=.bool (decide (p.1<(l.length:Int))) false) ⟨rfl,rfl⟩ ?_ ⟨tk,rfl,⟨fun e=>absurd rfl e,fun e=>Bool.noConfusion e,fun e=>Bool.noConfusion e,fun e=>Bool.noConfusion e⟩⟩ its s4 _ E G2 he fun W4 v4 t4 xD s5 l4 r4 X7 k4=>?_
 ·obtain⟨t1,et,_⟩:=(r1.mono l2).mono l3
  exact⟨t1,et,⟨fun e=>absurd rfl e,fun e=>Bool.noConfusion e,fun e=>Bool.noConfusion e,fun e=>Bool.noConfusion e⟩⟩
 obtain⟨k5,k6⟩:=k4
 rw[k5] at X7
 rw[k6] at r4
 refine dz (v:=.bool (decide (p.1<(l.length:Int))) false) (kb:=fun x _=>x=decide (p.1<(l.length:Int))) rfl r4 fun x _ ex=>?_
 rw[ex]
 have lw:W.le W4:=((l1.trans l2).trans l3).trans l4
 have kq:=hk _ rfl
 unfold gvn at kq
 by_cases AE:p.1<(l.length:Int)
 ·rw[if_pos AE] at kq
  rw[decide_eq_true AE]
  refine e_t (cC rfl (Je S aeM X7 he fun W5 vf s6 l5 r5 hs6=>?_))
  rw[show vf=.builtin "abs" from r5]
  refine gk (bh rfl) rfl (bx (bh rfl) (v_sub (Je S hs hs6 he fun W6 v6 s7 l6 r6 hs7=>Je S Bb hs7 he fun W7 v7 s8 l7 r7 ZH=>?_)))
  obtain⟨u7,e7,_⟩:=r7
  rw[show v6=.ref xs from r6,e7]
  refine Dq hl B rfl i0 AE ZH fun t8=>cT ?_
  have r8:VR W7 (.int (l.getD p.1.toNat 0) fj) (.int (l.getD p.1.toNat 0) t8):=⟨t8,rfl,⟨fun e=>absurd rfl e,fun e=>Bool.noConfusion e,fun e=>Bool.noConfusion e,fun e=>Bool.noConfusion e⟩⟩
  refine lH (W:=W7) (σ:=σ) (id:="abs") (args:=.cons (.int (l.getD p.1.toNat 0) fj) .nil) (k:=fun v aB=>aB=σ/\v=.int (if l.getD p.1.toNat 0<0 then -(l.getD p.1.toNat 0) else l.getD p.1.toNat 0) uS) S ⟨rfl,rfl⟩ ⟨_,[],rfl,r8,rfl⟩ its s8 _ E ZH he fun W9 v9 t9 σ9 s10 l9 r9 AF k9=>?_
  rw[k9.2] at r9
  rw[k9.1] at AF
  exact kk W9 v9 _ σ s10 ((((lw.trans l5).trans l6).trans l7).trans l9) r9 AF kq
 ·rw[if_neg AE] at kq
  rw[decide_eq_false AE]
  refine e_f (pG (pG (iV (c:=c) (W:=W4) (σ:=σ) (cst:=.int 5) (k:=fun v aB=>v=.int 5 (dF 5)/\aB=σ) ⟨rfl,rfl⟩ its s5 _ E X7 he fun W5 v5 t5 JF s6 l5 r5 hs6 k5=>?_)))
  rw[k5.1] at r5
  rw[k5.2] at hs6
  refine Je S Bb hs6 he fun W6 v6 s7 l6 r6 hs7=>iO (W:=W6) (σ:=σ) (op:=.Mult) (a:=.int 5 (dF 5)) (b:=.int p.1 ⟨64,false,true,false,false⟩) (k:=fun v aB=>(∃cc,v=.int (5*p.1) cc)/\aB=σ) S ⟨⟨_,rfl⟩,rfl⟩ (r5.mono l6) (VJ r6) its s7 _ E hs7 he fun W7 v7 t7 σ7 s8 l7 r7 ZH k7=>?_
  obtain⟨⟨cc,k7⟩,k8⟩:=k7
  rw[k7] at r7
  rw[k8] at ZH
  refine iV (c:=c) (W:=W7) (σ:=σ) (cst:=.int 4) (k:=fun v aB=>v=.int 4 (dF 4)/\aB=σ) ⟨rfl,rfl⟩ its s8 _ E ZH he fun W8 v8 t8 σ8 s9 l8 r8 hs9 k9=>?_
  rw[k9.1] at r8
  rw[k9.2] at hs9
  refine iO (W:=W8) (σ:=σ) (op:=.Add) (a:=.int (5*p.1) cc) (b:=.int 4 (dF 4)) (k:=fun v aB=>(∃cc,v=.int (5*p.1+4) cc)/\aB=σ) S ⟨⟨_,rfl⟩,rfl⟩ (r7.mono l8) r8 its s9 _ E hs9 he fun W9 v9 t9 σ9 s10 l9 r9 AF k9=>?_
  obtain⟨⟨cc,k10⟩,k11⟩:=k9
  rw[k10] at r9
  rw[k11] at AF
  obtain⟨t,e,_⟩:=r9
  exact kk W9 v9 (.int (5*p.1+4) uS) σ s10 ((((lw.trans l5).trans l6).trans l7).trans (l8.trans l9)) ⟨t,e,⟨fun e=>absurd rfl e,fun e=>Bool.noConfusion e,fun _=>by exact Int.add_nonneg (Int.mul_nonneg (Int.natCast_nonneg _) i0) (Int.natCast_nonneg _),fun e=>Bool.noConfusion e⟩⟩ AF kq
end
noncomputable def FL(l:List Int)(xs:Addr)(n:Nat)(o:Or):WE:=fun e σ k=>match vO e with
 |some q=>SP l xs o q σ k
 |none=>(ET n).1 o e σ k
theorem ZJ{l:List Int}{xs:Addr}(hl:l.length<=1000)(n:Nat)(c:Cx)(B:BL l xs c.base)(o:Or)(S:c8 c o):mK c (FL l xs n o):=fun e W σ k h=>by
 unfold FL at h
 cases hq:vO e with
 |some q=>rw[hq] at h;exact AD S hl B hq h
 |none=>rw[hq] at h;exact(bQ n).1 c o S e W σ k h
noncomputable def AG(s:Stmt):Option (Expr×Expr):=match s with
 | .Assign ts e _=>(one ts).map fun t=>(t,e)
 |_=>none
theorem Ds{s:Stmt}{q:Expr×Expr}(h:AG s=some q):∃p,s=.Assign [q.1] q.2 p:=by
 cases s with
 |Assign ts e p=>
  obtain⟨t,h1,h⟩:=Option.map_eq_some_iff.mp h
  exact⟨p,by rw[ones h1,<-h]⟩
 |_=>exact no h
noncomputable def EN(e:Expr):Option (Str×Pos):=match e with
 | .Name x p=>some (x,p)
 |_=>none
theorem Jf{e:Expr}{q:Str×Pos}(h:EN e=some q):e=.Name q.1 q.2:=by
 cases e with
 |Name x p=>rw[<-Option.some.inj h]
 |_=>exact no h
noncomputable def EO(e:Expr):Option (Expr×List Comprehension×Scope×Pos):=match e with
 | .ListComp a g s p=>some (a,g,s,p)
 |_=>none
theorem AH{e:Expr}{q:Expr×List Comprehension×Scope×Pos}(h:EO e=some q):e=.ListComp q.1 q.2.1 q.2.2.1 q.2.2.2:=by
 cases e with
 |ListComp a g s p=>rw[<-Option.some.inj h]
 |_=>exact no h
def Jg(l:List Int)(xs:Addr)(m n:Nat)(o:Or)(b:List Stmt)(σ:Sg)(k:K2):Prop:=match b with
 |[]=>False
 |s::r=>af (AG s) fun q=>af (EN q.1) fun x=>af (EO q.2) fun e=>bF (swO o x.1 x.2 q.2) (CD (FL l xs m) (ET m).2 o e.1 e.2.1 e.2.2.1 σ fun v au=>nC o x.1 v au fun aO=>sR (ST m n o) r aO k)
theorem tD{c:Cx}{o:Or}{l:List Int}{xs:Addr}(hl:l.length<=1000)(B:BL l xs c.base){j n:Nat}(S:q8 c o){b:List Stmt}{W:Wd}{σ:Sg}{k:K2}(h:Jg l xs (j+1) n o b σ k):Eb c (execs b c.env) W σ k:=by
 match b,h with
 |s::r,h=>
  refine aa h fun q h1 h=>?_
  refine aa h fun x h2 h=>?_
  refine aa h fun e h3 h=>?_
  refine ai h fun g h=>?_
  obtain⟨p,e1⟩:=Ds h1
  rw[AH h3] at g
  have key:Ex c (execs (s::r) c.env) W σ k:=fun its st Q E hs he kk=>by
   refine bI ?_
   rw[e1,Jf h2,AH h3]
   refine lP S.S (fun c' o' e=>ZJ hl (j+1) c' (e▸B) o') (bQ (j+1)).2 (k:=fun sf aO=>match sf with
    | .next=>sR (ST (j+1) n o) r aO k
    |_=>False) g h its st _ E hs he fun W1 f1 sf1 au s1 l1 r1 aV k1=>?_
   cases sf1 with
   |next=>
    rw[show f1=.next from r1]
    exact bZ (d8 (gR n c o S) r W1 au k k1 its s1 Q E aV he fun W2 f2 sf2 aO s2 l2 r2 cB k2=>kk W2 f2 sf2 aO s2 (l1.trans l2) r2 cB k2)
   |_=>exact False.elim k1
  exact key.b
noncomputable abbrev Dt:List (Addr×fZ):=[(427,⟨1,3,false,jJ⟩),(521,⟨35,543,true,oO⟩),(531,⟨35,543,true,oO⟩),(538,⟨34,532,false,EL⟩),(434,⟨1,3,false,jt⟩)]
section
variable(p i:Int)(d0 d1:Int×Int)(kp:SV->Prop)
def laM:Prop:=∀r,r=aF p d1 d1->(0<=i/\i<2)/\((i=((0:Nat):Int)->ng p d0/\kp (.bool true false))/\(i=((0+1:Nat):Int)->ng p r/\kp (.bool true false))/\True)
def ZK(g6:Int):Prop:=((g6.fmod 8==3)=true->laM p ((g6.fdiv 8).fmod 2) d0 (d1.1+(if(d1.1==0)=true then 1 else 0),0) kp)/\((g6.fmod 8==3)=false->laM p ((g6.fdiv 8).fmod 2) d0 d1 kp)
end
def laG(g0 g1 g2 g3 g4 g5 g6 g7 g8 g9 iu:Int)(kp:SV->Prop):Prop:=(∃h0 h1 h2 h3 h4 h5 h6 h7 h8 h9 Bb,[g0,g1,g2,g3,g4,g5,g6,g7,g8,g9,iu]=[h0,h1,h2,h3,h4,h5,h6,h7,h8,h9,Bb])/\kp (.bool true false)
def laX(p g2 g3 g4 g5 g6:Int)(kp:SV->Prop):Prop:=(pn (g2.fmod p,g3.fmod p)=true->(pn (g4.fmod p,g5.fmod p)=true->ZK p (g2.fmod p,g3.fmod p) (g4.fmod p,g5.fmod p) kp g6)/\(pn (g4.fmod p,g5.fmod p)=false->ZK p (g2.fmod p,g3.fmod p) (1,0) kp g6))/\
 (pn (g2.fmod p,g3.fmod p)=false->(pn (g4.fmod p,g5.fmod p)=true->ZK p (1,0) (g4.fmod p,g5.fmod p) kp g6)/\(pn (g4.fmod p,g5.fmod p)=false->ZK p (1,0) (1,0) kp g6))
def laR(g0 g1 g2 g3 g4 g5 g6 g7 g8 g9 iu:Int)(kp:SV->Prop):Prop:=((g0.fmod 3==0)=true->laG g0 g1 g2 g3 g4 g5 g6 g7 g8 g9 iu kp)/\((g0.fmod 3==0)=false->((g0.fmod 3==1)=true->laG g0 g1 g2 g3 g4 g5 g6 g7 g8 g9 iu kp)/\((g0.fmod 3==1)=false->(0<=g1.fmod 14/\g1.fmod 14<16)/\laX (gV 14 g1) g2 g3 g4 g5 g6 kp))
def mL(l:List Int)(xs:Addr)(i:Int)(k:Int->Prop):Prop:=some (AB xs)=some (AB xs)/\∀v,v=gvn l i->k v
def aeO(P:Params)(l:List Int)(xs:Addr)(kp:SV->Prop)(rz:Prop):Prop:=bdP (Jg l xs (19+1) 5) P 543 ["script"] (.bool false false) [] Dt 35 600 true nw (.cons (AB xs) .nil) kp rz
theorem aeP(P:Params)(l:List Int)(xs:Addr)(kp:SV->Prop)(rz:Prop):(mL l xs 0 fun g0=>mL l xs 1 fun g1=>mL l xs 2 fun g2=>mL l xs 3 fun g3=>mL l xs 4 fun g4=>mL l xs 5 fun g5=>mL l xs 6 fun g6=>mL l xs 7 fun g7=>mL l xs 8 fun g8=>mL l xs 9 fun g9=>mL l xs 10 fun iu=>laR g0 g1 g2 g3 g4 g5 g6 g7 g8 g9 iu kp)=aeO P l xs kp rz:=by kernel_rfl
def nN:Prop:=∀p∈aK.take 14,∀v,bP p v->v≠(0,0)->ng p v/\ng p (aF p v v)
theorem eV{p:Int}(h:0<p)(a b:Int):bP p (a.fmod p,b.fmod p):=by
 have h1:=Int.fmod_nonneg_of_pos a h
 have h2:=Int.fmod_lt_of_pos a h
 have h3:=Int.fmod_nonneg_of_pos b h
 have h4:=Int.fmod_lt_of_pos b h
 exact⟨h1,h2,h3,h4⟩
abbrev EP(r:SV):Prop:=r=.bool true false
theorem AI(hR:nN){p:Int}(hp:p∈aK.take 14){i:Int}(h0:0<=i)(h1:i<2){d0 d1:Int×Int}(a:bP p d0)(a':d0≠(0,0))(b:bP p d1)(b':d1≠(0,0)):laM p i d0 d1 EP:=fun r e=>
 ⟨⟨h0,h1⟩,fun _=>⟨(hR p hp d0 a a').1,rfl⟩,fun _=>⟨e▸(hR p hp d1 b b').2,rfl⟩,trivial⟩
theorem vQ{v:Int×Int}(h:pn v=true):v≠(0,0):=fun e=>by rw[e] at h;exact absurd h (by decide)
theorem fm2(x:Int):0<=x.fmod 2/\x.fmod 2<2:=⟨Int.fmod_nonneg_of_pos x (by decide),Int.fmod_lt_of_pos x (by decide)⟩
theorem oQ(hR:nN){p:Int}(hp:p∈aK.take 14)(hq:Qf p){d0 d1:Int×Int}(a:bP p d0)(a':d0≠(0,0))(b:bP p d1)(b':d1≠(0,0))(g6:Int):ZK p d0 d1 EP g6:=by
 have q1:=hq.one
 refine⟨fun _=>AI hR hp (fm2 _).1 (fm2 _).2 a a' ?_ ?_,fun _=>AI hR hp (fm2 _).1 (fm2 _).2 a a' b b'⟩
 ·obtain⟨b0,b1,b2,b3⟩:=b
  by_cases h:d1.1=0
  ·rw[if_pos (by simp[h])]
   exact⟨by show 0<=d1.1+1;exact Int.add_nonneg (Int.le_of_eq (Eq.symm h)) (Int.natCast_nonneg _),by show d1.1+1<p;exact Zl q1 h,Int.le_refl 0,by show 0<p;exact jc q1⟩
  ·rw[if_neg (by simpa using h)]
   exact⟨by show 0<=d1.1+0;exact Int.add_nonneg b0 (Int.le_refl _),by show d1.1+0<p;exact Zm b1,Int.le_refl 0,by show 0<p;exact jc q1⟩
 ·intro e
  have e1:d1.1+(if(d1.1==0)=true then 1 else 0)=0:=congrArg Prod.fst e
  by_cases h:d1.1=0
  ·rw[if_pos (by simp[h])] at e1;exact Zn e1 h
  ·rw[if_neg (by simpa using h)] at e1;exact h ((Int.add_zero _).symm.trans e1)
theorem Jh(hR:nN){p:Int}(hp:p∈aK.take 14)(hq:Qf p)(g2 g3 g4 g5 g6:Int):laX p g2 g3 g4 g5 g6 EP:=by
 have q1:=hq.one
 have i1:bP p (1,0):=⟨by decide,q1,Int.le_refl 0,by show 0<p;exact jc q1⟩
 have n1:((1,0):Int×Int)≠(0,0):=by decide
 have q0:0<p:=by exact jc q1
 exact⟨fun h=>⟨fun h'=>oQ hR hp hq (eV q0 _ _) (vQ h) (eV q0 _ _) (vQ h') _,fun _=>oQ hR hp hq (eV q0 _ _) (vQ h) i1 n1 _⟩,
  fun _=>⟨fun h'=>oQ hR hp hq i1 n1 (eV q0 _ _) (vQ h') _,fun _=>oQ hR hp hq i1 n1 i1 n1 _⟩⟩
theorem Ji(hQ:∀p∈aK,Qf p)(hR:nN)(l:List Int)(x:Addr):mL l x 0 fun g0=>mL l x 1 fun g1=>mL l x 2 fun g2=>mL l x 3 fun g3=>mL l x 4 fun g4=>mL l x 5 fun g5=>mL l x 6 fun g6=>mL l x 7 fun g7=>mL l x 8 fun g8=>mL l x 9 fun g9=>mL l x 10 fun iu=>laR g0 g1 g2 g3 g4 g5 g6 g7 g8 g9 iu EP:=by
 have R:∀g0 g1 g2 g3 g4 g5 g6 g7 g8 g9 iu,laR g0 g1 g2 g3 g4 g5 g6 g7 g8 g9 iu EP:=fun g0 g1 g2 g3 g4 g5 g6 g7 g8 g9 iu=>by
  have G:laG g0 g1 g2 g3 g4 g5 g6 g7 g8 g9 iu EP:=⟨⟨_,_,_,_,_,_,_,_,_,_,_,rfl⟩,rfl⟩
  have hp:gV 14 g1∈aK.take 14:=EM
  have b:0<=g1.fmod 14/\g1.fmod 14<14:=Dh 14 (by decide) g1
  exact⟨fun _=>G,fun _=>⟨fun _=>G,fun _=>⟨⟨b.1,by have:=b.2;exact Int.le_trans b.2 (Int.natCast_nonneg _)⟩,Jh hR hp (hQ _ (List.mem_of_mem_take hp)) _ _ _ _ _⟩⟩⟩
 exact⟨rfl,fun _ _=>⟨rfl,fun _ _=>⟨rfl,fun _ _=>⟨rfl,fun _ _=>⟨rfl,fun _ _=>⟨rfl,fun _ _=>⟨rfl,fun _ _=>⟨rfl,fun _ _=>⟨rfl,fun _ _=>⟨rfl,fun _ _=>⟨rfl,fun _ _=>R _ _ _ _ _ _ _ _ _ _ _⟩⟩⟩⟩⟩⟩⟩⟩⟩⟩⟩
theorem Du(hQ:∀p∈aK,Qf p)(hN:Dg)(hW:Dj)(hP:vN):bX Dt:=
 .cons (u9 hQ) (fun P=>by kernel_rfl) (.cons (aeI hQ hN) (fun P=>by kernel_rfl) (.cons (Jc hQ hW hP) (fun P=>by kernel_rfl) (.cons cRt (fun P=>by kernel_rfl) (.cons oG (fun P=>by kernel_rfl) .nil))))
theorem aeQ(P:Params)(n:Nat)(x:Addr):((sW P 543).map fun d=>(sX d.scope.names,cellsFrom n d.scope.names [],JM d.scope.names (JN [Str.ofString "script"] [] (.cons (AB x) .nil))))=some (false,[(Str.ofString "script",n)],⟨[],[(Str.ofString "script",AB x)],none,[]⟩):=by kernel_rfl
theorem Dv{w:World}{p:Program}{loose:List Str}{aY:ExcName->Option Value}{mg mb:Str->Option Value}{base aq:Heap}{L x fa:Addr}{cn:Str}{cs:Scope}{body:List Stmt}{bu:Value}{l:List Int}{ob:Obj}{gn:Array GenState}{dr:Drawn}{os:OsState}{tk:Nat}{E:Value->Shared->Prop}{Qf0:Flow->Shared->Prop}
  (hQ:∀p∈aK,Qf p) (hN:Dg) (hW:Dj) (hP:vN) (hR:nN) (hd:((sW w.params 543).map fun d=>((fdOf d).body,d.scope))=some (body,cs)) (hk:cs.kind=.function)
  (X:(KK w.params).In base) (T:Top p loose aY mg mb base) (F:Fr base L aq (dB [])) (aeR:@LT.lt Nat _ 277 L) (N:News base L aq [((L+1:Nat),ob),((277:Nat),tabObj #[])]) (hc:ob.data=.cell (some (.ref x))) (B:BL l x base) (hl:l.length<=1000) (hg:AllBare gn)
  (fin:∀h' bB aN,(∀b o,base.get? b=some o->h'.get? b=some o)->GrownAt 277 h'->AllBare bB->Qf0 (.ret (.bool true)) ⟨h',bB,dr,aN,os⟩):
  wpAny (MM w) (ktrTop (2+claimMargin) 7 (some []) cn cs L fa bu [(Str.ofString "script",(L+1:Nat))] []) (execs body (envX cn cs L fa bu [(Str.ofString "script",(L+1:Nat))])) Qf0
   (BE w (ktrTop (2+claimMargin) 7 (some []) cn cs L fa bu [(Str.ofString "script",(L+1:Nat))] []) (envX cn cs L fa bu [(Str.ofString "script",(L+1:Nat))]) E) ⟨aq,gn,dr,tk,os⟩:=by
 have h:bdP (Jg l x (19+1) 5) w.params 543 [Str.ofString "script"] (.bool false false) [] Dt 35 600 true nw (.cons (AB x) .nil) EP False:=Eq.mp (aeP w.params l x EP False) (Ji hQ hR l x)
 refine aa h fun d e1 h=>?_
 refine ai h fun _ h=>?_
 have e2:=aeQ w.params (L+1) x
 rw[e1] at hd e2
 have e3:=Option.some.inj hd
 have e4:=Option.some.inj e2
 have eb:(fdOf d).body=body:=congrArg Prod.fst e3
 have es:d.scope=cs:=congrArg Prod.snd e3
 have en:sX d.scope.names=false:=congrArg Prod.fst e4
 have eσ:JM d.scope.names (JN [Str.ofString "script"] [] (.cons (AB x) .nil))=⟨[],[(Str.ofString "script",AB x)],none,[]⟩:=congrArg (·.2.2) e4
 rw[eb,eσ] at h
 rw[es] at h en
 let cl:List (Str×Addr):=[(Str.ofString "script",(L+1:Nat))]
 let env:=envX cn cs L fa bu cl
 let A:=ktrTop (2+claimMargin) 7 (some []) cn cs L fa bu cl []
 let c:Cx:=⟨w,p,loose,aY,mg,mb,2+claimMargin,7,some [],cn,cs,fa,bu,cl,[],callerA,base,base,L,[],L+1,dr,os,[],true,env,cl,dB,fun _ _=>True,fun E'=>E'=BE w A env E,False,False⟩
 let o:Or:=IG w.params cs.names Dt 35 600 true False nw
 have F':FF c o:=⟨rfl,rfl,rfl,rfl,rfl⟩
 have ok:mH c o.cd o.cu:=⟨X,T,hk,by show 2+claimMargin+35<recursionLimit;decide,by show 7+600<cLine;decide⟩
 have S':c8 c o:=⟨ok,rfl,fun _=>rfl,rfl,fun E' _ CS=>False.elim CS,Du hQ hN hW hP,Xy F' ok rfl,fun _=>F'⟩
 have K':q8 c o:=⟨S',F',fun _ E' e=>⟨E,e⟩,fun hy=>hy.2,fun hy=>False.elim hy,fun hn=>Bool.noConfusion (en.symm.trans hn),fun _ W σ k test body pos hw=>False.elim hw⟩
 have N':News base L aq ([((L+1:Nat),ob)]++[((277:Nat),tabObj #[])]):=N
 have R:RR c [] ⟨[],[((L+1:Nat),ob)]⟩ ⟨[],[(Str.ofString "script",AB x)],none,[]⟩ base [] [((L+1:Nat),ob)] aq gn:=by
  refine⟨hg,⟨F,⟨_,.inl rfl,N'⟩,?_,?_,?_,Nat.le_refl _⟩,⟨below_caller base,ktsDicts_nil,.refl⟩,fun y s e=>no e,fun y s e=>?_,fun y e=>no e,trivial,rfl,.nil,fun i y e h=>(by cases i<;>cases h),fun q hq=>(nomatch hq),fun q hq=>(nomatch hq),fun q hq=>hq,fun q hq=>.inr ?_,fun q hq=>(nomatch hq),.nil⟩
  ·exact List.pairwise_singleton _ _
  ·intro q hq
   rw[List.mem_singleton.mp hq]
   exact Nat.lt_succ_of_lt aeR
  ·intro q hq
   rw[List.mem_singleton.mp hq]
   exact .inr (Nat.le_refl _)
  ·have e:([(Str.ofString "script",AB x)]:List (Str×SV)).lookup y=some s:=e
   rw[List.lookup_cons] at e
   by_cases hy:y=Str.ofString "script"
   ·rw[hy,beq_self_eq_true] at e
    refine⟨(L+1:Nat),ob,.ref x,?_,.head _,hc,?_⟩
    ·show([(Str.ofString "script",(L+1:Nat))]:List (Str×Addr)).lookup y=_
     rw[hy,List.lookup_cons,beq_self_eq_true]
    ·rw[<-Option.some.inj e]
     rfl
   ·rw[beq_false_of_ne hy] at e
    exact no e
  ·rw[List.mem_singleton.mp hq]
   exact Nat.le_refl _
 refine tD (c:=c) hl B K' h [] _ Qf0 _ ⟨_,_,_,_,_,_,rfl,R⟩ rfl fun W' v b aB its' s' hr cM fJ=>?_
 obtain⟨bH,CV,jW,h3,A8,IL,e,R3⟩:=cM
 rw[e]
 cases b with
 |ret sr=>
  obtain⟨u,e5,hu⟩:=hr
  refine aa fJ fun q h1 fJ=>?_
  refine aa fJ fun r' h2 fJ=>?_
  obtain⟨W3,_,v3,R4,c3⟩:=R3.zw hu h1
  obtain⟨f1,f2⟩:=Yo _ q.1 r' h2
  have hv:=(f1 W3).1 u v3
  rw[show r'=.bool true false from fJ] at hv
  rw[e5,show u=.bool true from hv]
  refine fin _ _ _ (fun b o hb=>R4.Z.F.keep _ _ (R4.H.1.stays _ _ hb)) ?_ R4.G
  obtain⟨o7,h7,N7⟩:=R4.Z.NT
  have hm:((277:Nat),o7)∈jW++[((277:Nat),o7)]:=List.mem_append_right _ (.head _)
  rcases h7 with h7|⟨c',h7⟩
  ·rw[h7] at N7 hm;exact .of N7 hm
  ·rw[h7] at N7 hm;exact .of (ps:=#[rawInt pY.line,rawInt pY.col,.ref c']) N7 hm
 |next=>
  have fJ:SV.none=SV.bool true false:=fJ
  cases fJ
 |_=>exact False.elim fJ
end S
theorem ZL:∀{a0 a1:Nat},a0+1+a1-(a0+1)=a1:=@fun a0 a1=>Nat.add_sub_cancel_left (n:=a0+1) (m:=a1)
theorem ZM:∀{a0 a1:Nat},a0+1+a1+1-(a0+1)=a1+1:=@fun a0 a1=>Nat.add_sub_cancel_left (n:=a0+1) (m:=a1+1)
theorem AJ:∀{a0:Nat},2<=a0->a0=a0-1+1:=fun h1=>(Eq.symm (Nat.sub_add_cancel (Nat.le_of_lt h1)))
theorem ZN:∀{a0 a1 a2:Int},a0+a1=a2->a2-a0=a1:=fun h1=>by rw[<-h1,Int.add_comm,Int.add_sub_cancel]
theorem ER:∀{a0:Nat},2<=a0->a0=0->False:=fun h1 h2=>by rw[h2] at h1;exact absurd h1 (by decide)
theorem ZP:∀{a0 a1:Int},a0=a1+1->a0-1=a1:=fun h1=>by rw[h1,Int.add_sub_cancel]
theorem vR:∀{a0 a1:Nat},a0<=a1-1->2<=a1->a0<a1:=fun h1 h2=>(Nat.lt_of_le_of_lt h1 (Nat.sub_lt (Nat.le_of_lt h2) (Nat.le_refl _)))
theorem qR:∀{a0:Int},2<a0->1<a0:=fun h1=>(Int.le_of_lt h1)
theorem AK:∀{a0:Nat},a0%4=3->a0=4*(a0/4)+3:=@fun a0 h1=>(h1▸Nat.div_add_mod a0 4:4*(a0/4)+3=a0).symm
theorem ZQ:∀{a0:Nat},a0%4=3->Int.toNat (((↑a0:Int)+1)/4)=a0/4+1:=fun h1=>by omega
theorem ZR:∀{a0:Nat},a0%4=3->Int.toNat (((↑a0:Int)-1)/2)=2*(a0/4)+1:=fun h1=>by omega
theorem ZS:∀{a0 a1:Nat},a0=4*a1+3->a0-1=2*a1+1+(2*a1+1):=fun h1=>by rw[h1,<-Nat.two_mul,Nat.mul_add,<-Nat.mul_assoc]<;>rfl
theorem dW:∀{a0:Int},2<a0->0<a0:=fun h1=>(Int.le_of_lt (Int.le_of_lt h1))
theorem ZT:∀{a0:Nat},2*a0+1+1=a0+1+(a0+1):=@fun a0=>by rw[Nat.add_add_add_comm a0 1 a0 1,Nat.two_mul]<;>rfl
theorem ES:∀{a0 a1:Nat},a0=4*a1+3->2*(2*a1+1)=a0-1:=fun h1=>by rw[h1,Nat.mul_add,<-Nat.mul_assoc]<;>rfl
namespace N
open Mine.S
noncomputable abbrev G:=Int×Int
noncomputable def gm(v w:G):G:=(v.1*w.1-v.2*w.2,v.1*w.2+v.2*w.1)
noncomputable def ga(v w:G):G:=(v.1+w.1,v.2+w.2)
noncomputable def sc(n:Int)(v:G):G:=(n*v.1,n*v.2)
noncomputable def gp(v:G):Nat->G
 |0=>(1,0)
 |n+1=>gm (gp v n) v
def E(q:Int)(v w:G):Prop:=q∣v.1-w.1/\q∣v.2-w.2
theorem gx{v w:G}(h1:v.1=w.1)(h2:v.2=w.2):v=w:=Prod.ext h1 h2
theorem ko(v w:G):gm v w=gm w v:=gx (by simp only[gm];grind) (by simp only[gm];grind)
theorem jv(u v w:G):gm (gm u v) w=gm u (gm v w):=gx (by simp only[gm];grind) (by simp only[gm];grind)
theorem eH(v:G):gm v (1,0)=v:=gx (by simp only[gm];grind) (by simp only[gm];grind)
theorem oR(v:G):gm (1,0) v=v:=gx (by simp only[gm];grind) (by simp only[gm];grind)
theorem dR{q a:Int}:q∣a-a:=⟨0,by rw[Int.sub_self,Int.mul_zero]⟩
theorem dY{q a b:Int}(h:q∣a-b):q∣b-a:=by rw[<-Int.neg_sub];exact Int.dvd_neg.mpr h
theorem dT{q a b c:Int}(h:q∣a-b)(k:q∣b-c):q∣a-c:=by
 have:=Int.dvd_add h k
 rwa[<-Int.add_sub_assoc,Int.sub_add_cancel] at this
theorem dA{q a b c d:Int}(h:q∣a-b)(k:q∣c-d):q∣a+c-(b+d):=by
 rw[show a+c-(b+d)=a-b+(c-d) by grind]
 exact Int.dvd_add h k
theorem dS{q a b c d:Int}(h:q∣a-b)(k:q∣c-d):q∣a-c-(b-d):=by
 rw[show a-c-(b-d)=a-b+(d-c) by grind]
 exact Int.dvd_add h (dY k)
theorem dM{q a b c d:Int}(h:q∣a-b)(k:q∣c-d):q∣a*c-b*d:=by
 rw[show a*c-b*d=(a-b)*c+b*(c-d) by grind]
 exact Int.dvd_add (Int.dvd_trans h (Int.dvd_mul_right _ _)) (Int.dvd_trans k (Int.dvd_mul_left _ _))
section
variable{q:Int}{u v w x:G}
theorem E.rfl:E q v v:=⟨dR,dR⟩
theorem E.symm(h:E q v w):E q w v:=⟨dY h.1,dY h.2⟩
theorem E.trans(h:E q u v)(h':E q v w):E q u w:=⟨dT h.1 h'.1,dT h.2 h'.2⟩
theorem E.mul(h:E q u v)(h':E q w x):E q (gm u w) (gm v x):=⟨dS (dM h.1 h'.1) (dM h.2 h'.2),dA (dM h.1 h'.2) (dM h.2 h'.1)⟩
theorem E.add(h:E q u v)(h':E q w x):E q (ga u w) (ga v x):=⟨dA h.1 h'.1,dA h.2 h'.2⟩
theorem E.pow(h:E q u v):∀n,E q (gp u n) (gp v n)
 |0=>.rfl
 |n+1=>(E.pow h n).mul h
end
theorem iX(v:G)(m:Nat):∀n,gp v (m+n)=gm (gp v m) (gp v n)
 |0=>(eH _).symm
 |n+1=>by show gm (gp v (m+n)) v=_;rw[iX v m n,jv];rfl
theorem EU(v w:G):∀n,gp (gm v w) n=gm (gp v n) (gp w n)
 |0=>(eH _).symm
 |n+1=>by
  show gm (gp (gm v w) n) (gm v w)=gm (gm (gp v n) v) (gm (gp w n) w)
  rw[EU v w n]
  exact gx (by simp only[gm];grind) (by simp only[gm];grind)
theorem c9(v:G)(m:Nat):∀n,gp v (m*n)=gp (gp v m) n
 |0=>rfl
 |n+1=>by rw[Nat.mul_succ,iX,c9 v m n];rfl
theorem mj:∀n,gp (1,0) n=(1,0)
 |0=>rfl
 |n+1=>by show gm (gp (1,0) n) (1,0)=_;rw[mj n];rfl
theorem nO(a:Int):∀n,gp (a,0) n=(a ^ n,0)
 |0=>by rw[Int.pow_zero];rfl
 |n+1=>by
  show gm (gp (a,0) n) (a,0)=_
  rw[nO a n]
  exact gx (by simp only[gm];grind) (by simp only[gm];grind)
noncomputable def bc:Nat->Nat->Nat
 |_,0=>1
 |0,_+1=>0
 |n+1,k+1=>bc n k+bc n (k+1)
theorem AL:∀n k,n<k->bc n k=0
 |0,k+1,_=>rfl
 |n+1,k+1,h=>by show bc n k+bc n (k+1)=0;rw[AL n k (by exact Nat.le_of_lt_succ h),AL n (k+1) (by exact Nat.le_of_lt h)]
theorem vS:∀n,bc n n=1
 |0=>rfl
 |n+1=>by show bc n n+bc n (n+1)=1;rw[vS n,AL n (n+1) (by exact Nat.le_refl _)]
theorem Jj:∀n k,(k+1)*bc (n+1) (k+1)=(n+1)*bc n k
 |n,0=>by
  have:∀n,bc n 1=n:=fun n=>by
   induction n with
   |zero=>rfl
   |succ n ih=>show bc n 0+bc n 1=n+1;rw[ih];cases n<;>(show 1+_=_;omega)
  rw[this]
  cases n<;>(show(0+1)*_=_*1;omega)
 |0,k+1=>by show(k+1+1)*(0+0)=_*0;simp
 |n+1,k+1=>by
  have h1:=Jj n k
  have h2:=Jj n (k+1)
  have e1:bc (n+1+1) (k+1+1)=bc (n+1) (k+1)+bc (n+1) (k+1+1):=rfl
  have e2:bc (n+1) (k+1)=bc n k+bc n (k+1):=rfl
  rw[e1]
  generalize bc (n+1) (k+1)=A at*
  generalize bc (n+1) (k+1+1)=B at*
  generalize bc n k=C at*
  generalize bc n (k+1)=D at*
  grind
noncomputable def bs(v w:G)(n:Nat):Nat->G
 |0=>(0,0)
 |j+1=>ga (bs v w n j) (sc (bc n j) (gm (gp v j) (gp w (n-j))))
theorem vU(v w:G):∀j m,gm (ga v w) (bs v w (j+m) (j+1))=ga (bs v w (j+m+1) (j+1)) (sc (bc (j+m) j) (gm (gp v (j+1)) (gp w m)))
 |0,m=>by
  have e0:∀n,bc n 0=1:=fun n=>by cases n<;>rfl
  show gm (ga v w) (ga (0,0) (sc (bc (0+m) 0) (gm (1,0) (gp w (0+m)))))=ga (ga (0,0) (sc (bc (0+m+1) 0) (gm (1,0) (gm (gp w (0+m)) w)))) (sc (bc (0+m) 0) (gm (gm (1,0) v) (gp w m)))
  rw[e0,e0,Nat.zero_add]
  exact gx (by simp only[gm,ga,sc];grind) (by simp only[gm,ga,sc];grind)
 |j+1,m=>by
  have h:=vU v w j (m+1)
  have ea:j+(m+1)=j+1+m:=by exact zQ
  rw[ea] at h
  show gm (ga v w) (ga (bs v w (j+1+m) (j+1)) (sc (bc (j+1+m) (j+1)) (gm (gp v (j+1)) (gp w (j+1+m-(j+1))))))=ga (ga (bs v w (j+1+m+1) (j+1)) (sc (bc (j+1+m+1) (j+1)) (gm (gp v (j+1)) (gp w (j+1+m+1-(j+1)))))) (sc (bc (j+1+m) (j+1)) (gm (gm (gp v (j+1)) v) (gp w m)))
  rw[show j+1+m-(j+1)=m by exact ZL,show j+1+m+1-(j+1)=m+1 by exact ZM,show bc (j+1+m+1) (j+1)=bc (j+1+m) j+bc (j+1+m) (j+1) from rfl]
  show _=ga (ga _ (sc _ (gm _ (gm (gp w m) w)))) _
  have h':gp w (m+1)=gm (gp w m) w:=rfl
  rw[h'] at h
  generalize bs v w (j+1+m) (j+1)=B at*
  generalize bs v w (j+1+m+1) (j+1)=B' at*
  generalize gp v (j+1)=x at*
  generalize gp w m=y at*
  have h1:=congrArg Prod.fst h
  have h2:=congrArg Prod.snd h
  simp only[gm,ga,sc] at h1 h2
  refine gx ?_ ?_
  ·simp only[gm,ga,sc];grind
  ·simp only[gm,ga,sc];grind
theorem EV(v w:G):∀n,gp (ga v w) n=bs v w n (n+1)
 |0=>by
  show(1,0)=ga (0,0) (sc 1 (gm (1,0) (1,0)))
  decide
 |n+1=>by
  have h:=vU v w n 0
  rw[Nat.add_zero] at h
  show gm (gp (ga v w) n) (ga v w)=ga (bs v w (n+1) (n+1)) (sc (bc (n+1) (n+1)) (gm (gp v (n+1)) (gp w (n+1-(n+1)))))
  rw[EV v w n,ko,h,vS,vS,Nat.sub_self]
def Pr(p:Nat):Prop:=2<=p/\∀d,d∣p->d=1\/d=p
theorem Pr.Cf{p a:Nat}(h:Pr p)(ha:¬p∣a):Nat.Coprime p a:=by
 rcases h.2 _ (Nat.gcd_dvd_left p a) with e|e
 ·exact e
 ·exact absurd (e▸Nat.gcd_dvd_right p a) ha
theorem Pr.dvd{p a b:Nat}(h:Pr p)(hd:p∣a*b):p∣a\/p∣b:=by
 by_cases ha:p∣a
 ·exact .inl ha
 ·exact .inr ((h.Cf ha).dvd_of_dvd_mul_left hd)
theorem Pr.bcd{p k:Nat}(h:Pr p)(h1:k+1<p):p∣bc p (k+1):=by
 obtain⟨m,rfl⟩:∃m,p=m+1:=⟨p-1,by exact(Nat.sub_add_cancel (Nat.le_of_lt (Nat.lt_of_le_of_lt (Nat.le_add_left 1 _) h1))).symm⟩
 have e:=Jj m k
 have hd:m+1∣(k+1)*bc (m+1) (k+1):=⟨_,e⟩
 rcases h.dvd hd with h2|h2
 ·exact absurd (Nat.le_of_dvd (by exact Nat.le_add_left _ _) h2) (by exact Nat.not_le_of_lt h1)
 ·exact h2
theorem nP{p:Nat}(h:Pr p)(v w:G):∀j,j<p->E p (bs v w p (j+1)) (gp w p)
 |0,_=>by
  have e0:bc p 0=1:=by cases p<;>rfl
  show E p (ga (0,0) (sc (bc p 0) (gm (1,0) (gp w (p-0))))) (gp w p)
  rw[e0,Nat.sub_zero]
  exact⟨⟨0,by simp only[gm,ga,sc];grind⟩,⟨0,by simp only[gm,ga,sc];grind⟩⟩
 |j+1,hj=>by
  have ih:=nP h v w j (by exact Nat.le_of_lt hj)
  obtain⟨m,hm⟩:=h.bcd (k:=j) hj
  obtain⟨⟨a,ha⟩,⟨b,hb⟩⟩:=ih
  show E p (ga (bs v w p (j+1)) (sc (bc p (j+1)) (gm (gp v (j+1)) (gp w (p-(j+1)))))) (gp w p)
  rw[hm]
  generalize gm (gp v (j+1)) (gp w (p-(j+1)))=x
  refine⟨⟨a+m*x.1,?_⟩,⟨b+m*x.2,?_⟩⟩
  ·simp only[ga,sc];push_cast;grind
  ·simp only[ga,sc];push_cast;grind
theorem fresh{p:Nat}(h:Pr p)(v w:G):E p (gp (ga v w) p) (ga (gp v p) (gp w p)):=by
 have h2:=h.1
 obtain⟨m,rfl⟩:∃m,p=m+1:=⟨p-1,by exact AJ h2⟩
 rw[EV]
 have hr:=nP h v w m (by exact Nat.le_refl _)
 show E _ (ga (bs v w (m+1) (m+1)) (sc (bc (m+1) (m+1)) (gm (gp v (m+1)) (gp w (m+1-(m+1)))))) _
 rw[vS,Nat.sub_self]
 obtain⟨⟨a,ha⟩,⟨b,hb⟩⟩:=hr
 have e:gp w 0=(1,0):=rfl
 rw[e]
 refine⟨⟨a,?_⟩,⟨b,?_⟩⟩
 ·simp only[ga,sc,gm];grind
 ·simp only[ga,sc,gm];grind
theorem mq{p:Nat}(h:Pr p):∀a:Nat,E p (gp ((a:Int),0) p) ((a:Int),0)
 |0=>by
  obtain⟨m,rfl⟩:∃m,p=m+1:=⟨p-1,by have:=h.1;exact AJ this⟩
  show E _ (gm (gp (0,0) m) (0,0)) (0,0)
  exact⟨⟨0,by simp only[gm];grind⟩,⟨0,by simp only[gm];grind⟩⟩
 |a+1=>by
  have e:(((a+1:Nat):Int),(0:Int))=ga ((a:Int),0) (1,0):=gx (by simp only[ga];push_cast;rfl) (by simp only[ga];rfl)
  rw[e]
  refine(fresh h _ _).trans ?_
  rw[mj]
  exact(mq h a).add .rfl
theorem AM{p:Nat}(h:Pr p)(a:Int):(p:Int)∣a ^ p-a:=by
 have hp:=h.1
 have e:E p (a,0) (((a%p).toNat:Int),0):=by
  rw[Int.toNat_of_nonneg (Int.emod_nonneg _ (by exact Int.ne_of_gt (Int.le_of_lt (Int.ofNat_le.mpr hp))))]
  exact⟨⟨a/p,by show a-a%p=_;have:=Int.emod_add_mul_ediv a p;exact ZN this⟩,⟨0,by grind⟩⟩
 have h1:=((e.pow p).trans (mq h _)).trans e.symm
 rw[nO] at h1
 exact h1.1
theorem P1.mul{q x y:Int}(hx:q∣x-1)(hy:q∣y-1):q∣x*y-1:=by
 obtain⟨a,ha⟩:=hx
 obtain⟨b,hb⟩:=hy
 exact⟨a*y+b,by grind⟩
theorem P1.pow{q x:Int}(hx:q∣x-1):∀n:Nat,q∣x ^ n-1
 |0=>⟨0,by simp⟩
 |n+1=>by rw[Int.pow_succ];exact P1.mul (P1.pow hx n) hx
theorem P1.div{q x y:Int}(hx:q∣x-1)(hy:q∣x*y-1):q∣y-1:=by
 obtain⟨a,ha⟩:=hx
 obtain⟨b,hb⟩:=hy
 exact⟨b-a*y,by grind⟩
theorem P1.gcd{q b:Int}(m n:Nat):q∣b ^ m-1->q∣b ^ n-1->q∣b ^ (Nat.gcd m n)-1:=by
 refine Nat.gcd.induction m n (fun n _ h=>by rw[Nat.gcd_zero_left];exact h) fun m n hm ih h1 h2=>?_
 rw[Nat.gcd_rec]
 refine ih ?_ h1
 have e:b ^ n=(b ^ m) ^ (n/m)*b ^ (n%m):=by
  rw[<-Int.pow_mul,<-Int.pow_add]
  congr 1
  exact(Nat.div_add_mod n m).symm
 rw[e] at h2
 exact P1.div (P1.pow h1 _) h2
theorem Pr.vV{p:Nat}(h:Pr p){a b:Int}(hd:(p:Int)∣a*b):(p:Int)∣a\/(p:Int)∣b:=by
 have:p∣a.natAbs*b.natAbs:=by rw[<-Int.natAbs_mul];exact Int.ofNat_dvd_left.mp hd
 exact(h.dvd this).imp Int.ofNat_dvd_left.mpr Int.ofNat_dvd_left.mpr
theorem vW{p:Nat}(h:Pr p){a:Int}(ha:¬(p:Int)∣a):(p:Int)∣a ^ (p-1)-1:=by
 have h1:=AM h a
 have h2:=h.1
 have e:a ^ p-a=a*(a ^ (p-1)-1):=by
  have:a ^ p=a ^ (p-1)*a:=by rw[<-Int.pow_succ];congr 1;exact Eq.symm (Nat.succ_pred_eq_of_pos (Nat.le_of_lt h2))
  rw[this]
  grind
 rw[e] at h1
 exact(h.vV h1).resolve_left ha
theorem xu:∀n:Nat,2<=n->∃q,Pr q/\q∣n:=fun n=>by
 induction n using Nat.strongRecOn with
 |_ n ih=>
  intro h
  by_cases hp:Pr n
  ·exact⟨n,hp,Nat.dvd_refl n⟩
  ·have:∃d,d∣n/\d≠1/\d≠n:=Classical.byContradiction fun k=>hp ⟨h,fun d hd=>Classical.byContradiction fun k2=>k ⟨d,hd,fun e=>k2 (.inl e),fun e=>k2 (.inr e)⟩⟩
   obtain⟨d,hd,h1,h2⟩:=this
   have hl:=Nat.le_of_dvd (by exact Nat.le_of_lt h) hd
   have h0:d≠0:=fun e=>by rw[e] at hd;have:=Nat.eq_zero_of_zero_dvd hd;exact absurd h (by rw[Nat.eq_zero_of_zero_dvd hd];decide)
   obtain⟨q,a,b⟩:=ih d (by exact Nat.lt_of_le_of_ne hl h2) (by exact Nat.lt_of_le_of_ne (Nat.pos_of_ne_zero h0) (Ne.symm h1))
   exact⟨q,a,Nat.dvd_trans b hd⟩
theorem AN{n:Nat}(h:2<=n)(k:∀q,Pr q->q∣n->n<q*q):Pr n:=by
 refine⟨h,fun d hd=>Classical.byContradiction fun hn=>?_⟩
 have h1:d≠1:=fun e=>hn (.inl e)
 have h2:d≠n:=fun e=>hn (.inr e)
 obtain⟨e,he⟩:=hd
 have hd0:d≠0:=fun e0=>by rw[e0,Nat.zero_mul] at he;exact ER h he
 have Bv:e≠0:=fun e0=>by rw[e0,Nat.mul_zero] at he;exact ER h he
 have he1:e≠1:=fun e0=>by rw[e0,Nat.mul_one] at he;exact h2 he.symm
 have go:∀x y,n=x*y->2<=x->x<=y->False:=fun x y e hx GQ=>by
  obtain⟨q,a,b⟩:=xu x hx
  have h3:=k q a (Nat.dvd_trans b ⟨y,e⟩)
  have h4:=Nat.le_of_dvd (by exact Nat.le_of_lt hx) b
  have h5:q*q<=x*y:=Nat.mul_le_mul h4 (Nat.le_trans h4 GQ)
  exact absurd e (Nat.ne_of_lt (Nat.le_trans h3 h5))
 rcases Nat.le_total d e with hle|hle
 ·exact go d e he (by exact Nat.lt_of_le_of_ne (Nat.pos_of_ne_zero hd0) (Ne.symm h1)) hle
 ·exact go e d (by rw[he,Nat.mul_comm]) (by exact Nat.lt_of_le_of_ne (Nat.pos_of_ne_zero Bv) (Ne.symm he1)) hle
theorem AO{n f r a:Nat}(hf:Pr f)(e:n-1=f*r)(h1:a ^ (n-1)%n=1)(h2:Nat.gcd (a ^ r%n+(n-1)) n=1)(hn:2<=n){q:Nat}(hq:Pr q)(hd:q∣n):f∣q-1:=by
 refine Classical.byContradiction fun hc=>?_
 have g:=hf.Cf hc
 have hqn:(q:Int)∣n:=Int.natCast_dvd_natCast.mpr hd
 have p1:(q:Int)∣((a:Int) ^ r) ^ f-1:=by
  rw[<-Int.pow_mul,Nat.mul_comm,<-e]
  refine Int.dvd_trans hqn ⟨((a ^ (n-1)/n:Nat):Int),?_⟩
  have:=Nat.div_add_mod (a ^ (n-1)) n
  rw[h1] at this
  have h3:((a ^ (n-1):Nat):Int)=n*((a ^ (n-1)/n:Nat):Int)+1:=by rw[<-this];push_cast;grind
  rw[Int.natCast_pow] at h3
  exact ZP h3
 have xC:¬(q:Int)∣(a:Int) ^ r:=fun k=>by
  have k2:(q:Int)∣((a:Int) ^ r) ^ f:=by
   have hf0:=hf.1
   obtain⟨f',rfl⟩:∃f',f=f'+1:=⟨f-1,by exact AJ hf0⟩
   rw[Int.pow_succ]
   exact Int.dvd_mul_of_dvd_right k
  have k3:=Int.dvd_sub k2 p1
  rw[show((a:Int) ^ r) ^ f-(((a:Int) ^ r) ^ f-1)=1 by grind] at k3
  have:=hq.1
  have:=Int.le_of_dvd (by decide) k3
  omega
 have p2:=vW hq xC
 have p3:=P1.gcd f (q-1) p1 p2
 rw[g,Int.pow_one] at p3
 have p4:q∣a ^ r%n+(n-1):=by
  rw[<-Int.natCast_dvd_natCast]
  have e5:((a ^ r%n+(n-1):Nat):Int)=((a:Int) ^ r-1)+n*(1-((a ^ r/n:Nat):Int)):=by
   have:=Nat.div_add_mod (a ^ r) n
   have h3:((n*(a ^ r/n)+a ^ r%n:Nat):Int)=((a ^ r:Nat):Int):=congrArg _ this
   rw[Int.natCast_add,Int.natCast_mul,Int.natCast_pow] at h3
   rw[<-h3]
   have:((n-1:Nat):Int)=n-1:=by exact Int.ofNat_sub (Nat.le_trans (by decide) hn)
   rw[Int.natCast_add,this]
   grind
  rw[e5]
  exact Int.dvd_add p3 (Int.dvd_mul_of_dvd_left hqn)
 have p5:=Nat.dvd_gcd p4 hd
 rw[h2] at p5
 have:=Nat.le_of_dvd (by decide) p5
 have:=hq.1
 omega
noncomputable def pk(n f r a:Nat):Bool:=n-1==f*r&&(Builtin.powMod a (n-1) n==1&&Nat.gcd (Builtin.powMod a r n+(n-1)) n==1)
theorem pk_{n f r a:Nat}(h:pk n f r a=true):n-1=f*r/\a ^ (n-1)%n=1/\Nat.gcd (a ^ r%n+(n-1)) n=1:=by
 unfold pk at h
 rw[jD,jD] at h
 simp only[Bool.and_eq_true,beq_iff_eq] at h
 exact h
theorem aP{n k:Nat}(h:2<=n)(hk:n<k*k)(ht:((List.range k).all fun d=>Nat.ble d 1||n%d !=0)=true):Pr n:=by
 refine AN h fun q hq hd=>?_
 by_cases hl:q<k
 ·have h1:=List.all_eq_true.mp ht q (List.mem_range.mpr hl)
  have h2:=hq.1
  rw[Nat.mod_eq_zero_of_dvd hd] at h1
  rcases (Bool.or_eq_true _ _).mp h1 with h1|h1
  ·have:=Nat.le_of_ble_eq_true h1;exact absurd h2 (Nat.not_lt_of_le this)
  ·cases h1
 ·exact Nat.lt_of_lt_of_le hk (Nat.mul_le_mul (by exact rV hl) (by exact rV hl))
theorem eZ{n f r a:Nat}(hf:Pr f)(hn:Nat.ble 2 n=true)(h:pk n f r a=true)(hs:Nat.ble n (f*f)=true):Pr n:=by
 obtain⟨e,h1,h2⟩:=pk_ h
 have hn:=Nat.le_of_ble_eq_true hn
 have hs:=Nat.le_of_ble_eq_true hs
 refine AN hn fun q hq hd=>?_
 have h3:=Nat.le_of_dvd (by have:=hq.1;exact Nat.le_sub_of_add_le this) (AO hf e h1 h2 hn hq hd)
 have:=hq.1
 exact Nat.lt_of_le_of_lt hs (Nat.mul_lt_mul'' (by exact vR h3 this) (by exact vR h3 this))
theorem jw{n f r a g r2 a2:Nat}(hf:Pr f)(hg:Pr g)(hn:Nat.ble 2 n=true)(h:pk n f r a=true)(h':pk n g r2 a2=true)(hfg:(g%f !=0)=true)(hs:Nat.ble n (f*g*(f*g))=true):Pr n:=by
 obtain⟨e,h1,h2⟩:=pk_ h
 obtain⟨e',H6,H7⟩:=pk_ h'
 have hn:=Nat.le_of_ble_eq_true hn
 have hs:=Nat.le_of_ble_eq_true hs
 have hc:Nat.Coprime f g:=hf.Cf fun k=>by rw[Nat.mod_eq_zero_of_dvd k] at hfg;cases hfg
 refine AN hn fun q hq hd=>?_
 have h3:=Nat.le_of_dvd (by have:=hq.1;exact Nat.le_sub_of_add_le this) (hc.mul_dvd_of_dvd_of_dvd (AO hf e h1 h2 hn hq hd) (AO hg e' H6 H7 hn hq hd))
 have:=hq.1
 exact Nat.lt_of_le_of_lt hs (Nat.mul_lt_mul'' (by exact vR h3 this) (by exact vR h3 this))
theorem aeS:Pr 11:=aP (k:=4) (by decide) (by decide) (by decide +kernel)
theorem aeT:Pr 19:=aP (k:=5) (by decide) (by decide) (by decide +kernel)
theorem aeU:Pr 43:=aP (k:=7) (by decide) (by decide) (by decide +kernel)
theorem ZU:Pr 227:=aP (k:=16) (by decide) (by decide) (by decide +kernel)
theorem ZV:Pr 647:=aP (k:=26) (by decide) (by decide) (by decide +kernel)
theorem ZW:Pr 107:=aP (k:=11) (by decide) (by decide) (by decide +kernel)
theorem qS:Pr 357913931:=jw (f:=647) (r:=553190) (a:=2) (g:=107) (r2:=3344990) (a2:=2) ZV ZW (by decide +kernel) (by decide +kernel) (by decide +kernel) (by decide +kernel) (by decide +kernel)
theorem oS:Pr 2147483587:=eZ (f:=357913931) (r:=6) (a:=2) qS (by decide +kernel) (by decide +kernel) (by decide +kernel)
theorem xw:Pr 2402107:=aP (k:=1550) (by decide) (by decide) (by decide +kernel)
theorem oU:Pr 2147483659:=eZ (f:=2402107) (r:=894) (a:=2) xw (by decide +kernel) (by decide +kernel) (by decide +kernel)
theorem xx:Pr 1771423:=aP (k:=1331) (by decide) (by decide) (by decide +kernel)
theorem jX:Pr 1099511627563:=eZ (f:=1771423) (r:=620694) (a:=2) xx (by decide +kernel) (by decide +kernel) (by decide +kernel)
theorem Jk:Pr 1879:=aP (k:=44) (by decide) (by decide) (by decide +kernel)
theorem aeV:Pr 71:=aP (k:=9) (by decide) (by decide) (by decide +kernel)
theorem qT:Pr 124070371:=jw (f:=1879) (r:=66030) (a:=2) (g:=71) (r2:=1747470) (a2:=2) Jk aeV (by decide +kernel) (by decide +kernel) (by decide +kernel) (by decide +kernel) (by decide +kernel)
theorem jY:Pr 1099511627803:=eZ (f:=124070371) (r:=8862) (a:=2) qT (by decide +kernel) (by decide +kernel) (by decide +kernel)
theorem tE:Pr 12810961:=aP (k:=3580) (by decide) (by decide) (by decide +kernel)
theorem Dw:Pr 13159:=aP (k:=115) (by decide) (by decide) (by decide +kernel)
theorem iY:Pr 9007199254740571:=jw (f:=12810961) (r:=703085370) (a:=2) (g:=13159) (r2:=684489646230) (a2:=2) tE Dw (by decide +kernel) (by decide +kernel) (by decide +kernel) (by decide +kernel) (by decide +kernel)
theorem Jl:Pr 4789:=aP (k:=70) (by decide) (by decide) (by decide +kernel)
theorem aeW:Pr 31:=aP (k:=6) (by decide) (by decide) (by decide +kernel)
theorem tF:Pr 57008257:=jw (f:=4789) (r:=11904) (a:=2) (g:=31) (r2:=1838976) (a2:=2) Jl aeW (by decide +kernel) (by decide +kernel) (by decide +kernel) (by decide +kernel) (by decide +kernel)
theorem xy:Pr 1519213:=aP (k:=1233) (by decide) (by decide) (by decide +kernel)
theorem iZ:Pr 4503599627370533:=jw (f:=57008257) (r:=78999076) (a:=2) (g:=1519213) (r2:=2964429364) (a2:=2) tF xy (by decide +kernel) (by decide +kernel) (by decide +kernel) (by decide +kernel) (by decide +kernel)
theorem i6:Pr 9007199254741067:=eZ (f:=4503599627370533) (r:=2) (a:=2) iZ (by decide +kernel) (by decide +kernel) (by decide +kernel)
theorem AP:Pr 665789:=aP (k:=816) (by decide) (by decide) (by decide +kernel)
theorem Jm:Pr 2621:=aP (k:=52) (by decide) (by decide) (by decide +kernel)
theorem iy:Pr 72057594037927931:=jw (f:=665789) (r:=108228874370) (a:=2) (g:=2621) (r2:=27492405203330) (a2:=2) AP Jm (by decide +kernel) (by decide +kernel) (by decide +kernel) (by decide +kernel) (by decide +kernel)
theorem xA:Pr 5285551:=aP (k:=2300) (by decide) (by decide) (by decide +kernel)
theorem oV:Pr 1331958853:=eZ (f:=5285551) (r:=252) (a:=2) xA (by decide +kernel) (by decide +kernel) (by decide +kernel)
theorem iz:Pr 12009599006321383:=eZ (f:=1331958853) (r:=9016494) (a:=2) oV (by decide +kernel) (by decide +kernel) (by decide +kernel)
theorem iA:Pr 72057594037928299:=eZ (f:=12009599006321383) (r:=6) (a:=2) iz (by decide +kernel) (by decide +kernel) (by decide +kernel)
theorem AQ:Pr 719981:=aP (k:=849) (by decide) (by decide) (by decide +kernel)
theorem mW:Pr 16486124939:=eZ (f:=719981) (r:=22898) (a:=2) AQ (by decide +kernel) (by decide +kernel) (by decide +kernel)
theorem gg:Pr 1152921504606846883:=eZ (f:=16486124939) (r:=69932838) (a:=2) mW (by decide +kernel) (by decide +kernel) (by decide +kernel)
theorem tG:Pr 12700967:=aP (k:=3564) (by decide) (by decide) (by decide +kernel)
theorem oW:Pr 2159164391:=eZ (f:=12700967) (r:=170) (a:=2) tG (by decide +kernel) (by decide +kernel) (by decide +kernel)
theorem i7:Pr 6334733541795863:=eZ (f:=2159164391) (r:=2933882) (a:=2) oW (by decide +kernel) (by decide +kernel) (by decide +kernel)
theorem gh:Pr 1152921504606847067:=eZ (f:=6334733541795863) (r:=182) (a:=2) i7 (by decide +kernel) (by decide +kernel) (by decide +kernel)
theorem AR:Pr 421987:=aP (k:=650) (by decide) (by decide) (by decide +kernel)
theorem mX:Pr 13090036741:=eZ (f:=421987) (r:=31020) (a:=2) AR (by decide +kernel) (by decide +kernel) (by decide +kernel)
theorem AS:Pr 755057:=aP (k:=869) (by decide) (by decide) (by decide +kernel)
theorem fc:Pr 3819663927398918131021:=jw (f:=13090036741) (r:=291799328220) (a:=2) (g:=755057) (r2:=5058775598926860) (a2:=2) mX AS (by decide +kernel) (by decide +kernel) (by decide +kernel) (by decide +kernel) (by decide +kernel)
theorem cA:Pr 1125266252156850182658904441386709967:=eZ (f:=3819663927398918131021) (r:=294598235223046) (a:=2) fc (by decide +kernel) (by decide +kernel) (by decide +kernel)
theorem aT:Pr 15778400344354997994418419698270088123916926905054652752758194827714659:=eZ (f:=1125266252156850182658904441386709967) (r:=14021926201120671579994175730661374) (a:=2) cA (by decide +kernel) (by decide +kernel) (by decide +kernel)
theorem az:Pr 4002409555221667393417789825735904156556882819939007885332058136124031650490837864442687629129015664037894272559787:=eZ (f:=15778400344354997994418419698270088123916926905054652752758194827714659) (r:=253663835868735594330404923636534084567099854) (a:=2) aT (by decide +kernel) (by decide +kernel) (by decide +kernel)
theorem Jo:Pr 3557:=aP (k:=60) (by decide) (by decide) (by decide +kernel)
theorem ZX:Pr 911:=aP (k:=31) (by decide) (by decide) (by decide +kernel)
theorem oX:Pr 1263766531:=jw (f:=3557) (r:=355290) (a:=2) (g:=911) (r2:=1387230) (a2:=2) Jo ZX (by decide +kernel) (by decide +kernel) (by decide +kernel) (by decide +kernel) (by decide +kernel)
theorem mY:Pr 35385462869:=eZ (f:=1263766531) (r:=28) (a:=2) oX (by decide +kernel) (by decide +kernel) (by decide +kernel)
theorem i8:Pr 2480874801745591:=eZ (f:=35385462869) (r:=70110) (a:=2) mY (by decide +kernel) (by decide +kernel) (by decide +kernel)
theorem Dy:Pr 13327:=aP (k:=116) (by decide) (by decide) (by decide +kernel)
theorem qU:Pr 173171039:=eZ (f:=13327) (r:=12994) (a:=2) Dy (by decide +kernel) (by decide +kernel) (by decide +kernel)
theorem bS:Pr 13427688667394608761327070753331941386769:=jw (f:=2480874801745591) (r:=5412481378724403979982448) (a:=2) (g:=173171039) (r2:=77540036399473290457806115913712) (a2:=2) i8 qU (by decide +kernel) (by decide +kernel) (by decide +kernel) (by decide +kernel) (by decide +kernel)
theorem aQ:Pr 21888242871839275222246405745257275088696311157297823662689037894645226208583:=eZ (f:=13427688667394608761327070753331941386769) (r:=1630082690626329392154177744477557478) (a:=2) bS (by decide +kernel) (by decide +kernel) (by decide +kernel)
structure ff(q:Int)(n:Nat):Prop where
 e:q=(n:Int)
 pr:Pr n
 m4:n%4=3
theorem jx{q a b:Int}(h:q∣a-b)(n:Nat):q∣a ^ n-b ^ n:=by
 have h1:E q (a,0) (b,0):=⟨h,⟨0,by grind⟩⟩
 have h2:=h1.pow n
 rw[nO,nO] at h2
 exact h2.1
theorem dg{q:Int}(h:0<q)(a:Int):q∣a.fmod q-a:=by
 rw[Int.fmod_eq_emod_of_nonneg _ (by exact eT h)]
 exact⟨-(a/q),by have:=Int.emod_add_mul_ediv a q;grind⟩
theorem AU{q:Int}(a:Int):q∣a%q-a:=⟨-(a/q),by have:=Int.emod_add_mul_ediv a q;grind⟩
theorem qV{q a b:Int}(h:0<q)(hd:q∣a-b):a.fmod q=b.fmod q:=by
 rw[Int.fmod_eq_emod_of_nonneg _ (by exact eT h),Int.fmod_eq_emod_of_nonneg _ (by exact eT h)]
 exact Int.emod_eq_emod_iff_emod_sub_eq_zero.mpr (Int.emod_eq_zero_of_dvd hd)
theorem qW{q a b:Int}(a0:0<=a)(a1:a<q)(b0:0<=b)(b1:b<q)(hd:q∣a-b):a=b:=by
 have h:=qV (by exact yR a0 a1) hd
 rwa[Int.fmod_eq_of_lt a0 a1,Int.fmod_eq_of_lt b0 b1] at h
theorem kr{q:Int}(h:0<q)(a b:Int):q∣ef a b q-a ^ b.toNat:=by
 unfold ef
 obtain⟨x,hx⟩:=AU (q:=q) ((a%q) ^ b.toNat)
 obtain⟨y,hy⟩:=jx (AU (q:=q) a) b.toNat
 exact⟨x+y,by grind⟩
section
variable{q:Int}{n:Nat}
theorem ff.one(F:ff q n):2<q:=by have:=F.e;have:=F.m4;omega
theorem ff.eu(F:ff q n){a b:Int}(h:q∣a*b):q∣a\/q∣b:=by
 have e:=F.e
 subst e
 exact F.pr.vV h
theorem ff.sm(F:ff q n){a:Int}(h0:0<a)(h1:a<q):¬q∣a:=fun h=>by have:=Int.le_of_dvd h0 h;exact absurd h1 (Int.not_lt.mpr this)
theorem ff.no1(F:ff q n):¬q∣1:=F.sm (by decide) (by have:=F.one;exact qR this)
theorem ff.no2(F:ff q n):¬q∣2:=F.sm (by decide) F.one
theorem ff.half(F:ff q n):∃k:Nat,n=4*k+3/\((q+1).fdiv 4).toNat=k+1/\((q-1).fdiv 2).toNat=2*k+1:=by
 refine⟨n/4,by have:=F.m4;exact AK this,?_,?_⟩
 ·rw[Int.fdiv_eq_ediv_of_nonneg _ (by decide),F.e];have:=F.m4;exact ZQ this
 ·rw[Int.fdiv_eq_ediv_of_nonneg _ (by decide),F.e];have:=F.m4;exact ZR this
theorem ff.fer(F:ff q n){a:Int}(h:¬q∣a):q∣a ^ (n-1)-1:=by
 have e:=F.e
 subst e
 exact vW F.pr h
theorem ff.sign(F:ff q n){a:Int}(h:¬q∣a):q∣a ^ ((q-1).fdiv 2).toNat-1\/q∣a ^ ((q-1).fdiv 2).toNat+1:=by
 obtain⟨k,e1,_,e2⟩:=F.half
 have h1:=F.fer h
 rw[e2]
 rw[show n-1=(2*k+1)+(2*k+1) by exact ZS e1,Int.pow_add] at h1
 exact F.eu (show q∣(a ^ (2*k+1)-1)*(a ^ (2*k+1)+1) by
  obtain⟨x,hx⟩:=h1
  exact⟨x,by grind⟩)
theorem ff.root(F:ff q n)(a:Int):q∣ef a ((q+1).fdiv 4) q*ef a ((q+1).fdiv 4) q-a*a ^ ((q-1).fdiv 2).toNat:=by
 obtain⟨k,e1,e2,e3⟩:=F.half
 have h:=kr (show 0<q by have:=F.one;exact dW this) a ((q+1).fdiv 4)
 rw[e2] at h
 rw[e3]
 have e4:a*a ^ (2*k+1)=a ^ (k+1)*a ^ (k+1):=by rw[<-Int.pow_succ',<-Int.pow_add];congr 1;exact ZT
 rw[e4]
 obtain⟨x,hx⟩:=h
 exact⟨x*(ef a ((q+1).fdiv 4) q+a ^ (k+1)),by grind⟩
theorem ff.ZY(F:ff q n){a b:Int}(h:q∣a*a+b*b):q∣a/\q∣b:=by
 have key:∀{a b:Int},q∣a*a+b*b->q∣a->q∣b:=fun {a b} h ha=>by
  obtain⟨x,hx⟩:=h
  obtain⟨y,hy⟩:=ha
  have:q∣b*b:=⟨x-y*a,by grind⟩
  exact(F.eu this).elim id id
 by_cases ha:q∣a
 ·exact⟨ha,key h ha⟩
 ·by_cases hb:q∣b
  ·exact⟨key (by rw[Int.add_comm];exact h) hb,hb⟩
  ·exfalso
   obtain⟨k,e1,_,e3⟩:=F.half
   have h1:=F.fer ha
   have h2:=F.fer hb
   have h3:q∣(a*a) ^ (2*k+1)-(-(b*b)) ^ (2*k+1):=jx (by obtain⟨x,hx⟩:=h;exact⟨x,by grind⟩) _
   have e4:∀c:Int,(c*c) ^ (2*k+1)=c ^ (n-1):=fun c=>by
    rw[show c*c=c ^ 2 by grind,<-Int.pow_mul]
    congr 1
    exact ES e1
   have e5:(-(b*b)) ^ (2*k+1)= -((b*b) ^ (2*k+1)):=by
    rw[show 2*k+1=k+k+1 by exact congrArg (·+1) (Nat.two_mul _),Int.pow_succ,Int.pow_add,Int.pow_succ,Int.pow_add,<-Int.mul_pow]
    have: -(b*b)* -(b*b)=(b*b)*(b*b):=by grind
    rw[this,Int.mul_pow]
    grind
   rw[e5,e4,e4] at h3
   obtain⟨x,hx⟩:=h1
   obtain⟨y,hy⟩:=h2
   obtain⟨z,hz⟩:=h3
   exact F.no2 ⟨z-x-y,by grind⟩
theorem ff.Cf(F:ff q n):Cop q:=fun a h0 h1=>by
 have e:=F.e
 have:¬n∣a.toNat:=fun k=>F.sm h0 h1 (by
  rw[F.e]
  have:=Int.ofNat_dvd.mpr k
  rwa[Int.toNat_of_nonneg (by exact eT h0)] at this)
 have h2:=F.pr.Cf this
 have e2:a=((a.toNat:Nat):Int):=by exact Eq.symm (Int.toNat_of_nonneg (Int.le_of_lt h0))
 rw[e,e2,Int.gcd_comm]
 exact h2
theorem ff.qf(F:ff q n)(h:Sm 400 q):Qf q:=⟨by have:=F.one;exact qR this,F.Cf,h⟩
end
theorem oY:∀q∈aK,∃n,ff q n:=fun q hq=>by
 unfold aK at hq
 simp only[List.mem_cons,List.not_mem_nil,or_false] at hq
 rcases hq with e|e|e|e|e|e|e|e|e|e|e|e|e|e|e|e
 ·exact⟨_,e,aeS,by decide⟩
 ·exact⟨_,e,aeT,by decide⟩
 ·exact⟨_,e,aeU,by decide⟩
 ·exact⟨_,e,ZU,by decide⟩
 ·exact⟨_,e,oS,by decide⟩
 ·exact⟨_,e,oU,by decide⟩
 ·exact⟨_,e,jX,by decide⟩
 ·exact⟨_,e,jY,by decide⟩
 ·exact⟨_,e,iY,by decide⟩
 ·exact⟨_,e,i6,by decide⟩
 ·exact⟨_,e,iy,by decide⟩
 ·exact⟨_,e,iA,by decide⟩
 ·exact⟨_,e,gg,by decide⟩
 ·exact⟨_,e,gh,by decide⟩
 ·exact⟨_,e,az,by decide⟩
 ·exact⟨_,e,aQ,by decide⟩
theorem mu:∀q∈aK,q+5<2 ^ 381:=by decide +kernel
theorem hQ:∀p∈aK,Qf p:=fun p hp=>by
 obtain⟨n,F⟩:=oY p hp
 have h:=mu p hp
 have:=F.one
 refine F.qf (show p.natAbs<2 ^ 400 from ?_)
 have h2:(2:Int) ^ 381<2 ^ 400:=by decide +kernel
 have h3:((p.natAbs:Nat):Int)<((2 ^ 400:Nat):Int):=by
  rw[Int.natAbs_of_nonneg (by exact Int.le_of_lt (Int.le_of_lt (Int.le_of_lt this))),Int.natCast_pow]
  exact Int.lt_trans (by exact Int.lt_trans (Int.lt_add_of_pos_right _ (by decide)) h) h2
 exact Int.ofNat_lt.mp h3
theorem ZZ:∀{a0 a1:Int},a0<a1->a0*2<2*a1:=fun h1=>by rw[Int.mul_comm];exact Int.mul_lt_mul_of_pos_left h1 (by decide)
theorem Z0:∀{a0:Int},4<=a0->¬6<=a0->a0=4\/a0=5:=fun h1 h2=>(Int.lt_or_eq_of_le (Int.le_of_lt_add_one (Int.not_le.mp h2))).elim (fun k=>.inl (Int.le_antisymm (Int.le_of_lt_add_one k) h1)) .inr
theorem Z5:∀{a0:Int},a0=4\/a0=5->4<=a0:=fun h1=>by rcases h1 with rfl|rfl<;>decide
theorem Z6:∀{a0:Int},a0=4\/a0=5->¬6<=a0:=fun h1=>by rcases h1 with rfl|rfl<;>decide
theorem Z7:∀{a0:Int},a0=4\/a0=5->(a0=1\/a0=3\/a0=5\/a0=7↔a0=5):=fun h1=>by rcases h1 with rfl|rfl<;>decide
theorem AV:∀{a0 a1:Int},a0<a1->0<=a1-a0:=fun h1=>(Int.le_of_lt (Int.sub_pos_of_lt h1))
theorem Z8:∀{a0 a1:Int},a0%2=1->¬a0<2*a1->a0<2*(a0-a1):=fun h1 h2=>by omega
theorem vX:∀{a0:Int},2<a0->0<a0-1:=fun h1=>(Int.le_of_lt (Int.le_sub_left_of_add_le h1))
theorem EW:∀{a0 a1:Int},a0<a1-1->1+a0<a1:=fun h1=>by rw[Int.add_comm];exact Int.add_lt_of_lt_sub_right h1
theorem aaa:∀{a0:Nat},a0%2=1->a0=2*(a0/2)+1:=@fun a0 h1=>(h1▸Nat.div_add_mod a0 2:2*(a0/2)+1=a0).symm
theorem aab:∀{a0:Nat},¬a0%2=1->2*(a0/2)=a0:=@fun a0 h1=>((Nat.mod_two_eq_zero_or_one a0).resolve_right h1▸Nat.div_add_mod a0 2:2*(a0/2)+0=a0)
theorem aac:∀{a0:Int} {a1:Nat},a0%8=3->a0=(↑a1:Int)->a1%8=3:=@fun a0 a1 h1 h2=>Int.ofNat_inj.mp (Eq.trans (show((a1%8:Nat):Int)=a0%8 by rw[h2]<;>rfl) h1)
theorem aad:∀{a0:Nat},a0%8=3->a0=8*(a0/8)+3:=@fun a0 h1=>(h1▸Nat.div_add_mod a0 8:8*(a0/8)+3=a0).symm
theorem aae:∀{a0 a1:Nat},a0=8*a1+3->Int.toNat ((8*(↑a1:Int)+3-1)/2)=4*a1+1:=fun h1=>by omega
theorem aaf:∀{a0:Nat},2*a0*4=8*a0:=@fun a0=>by rw[Nat.mul_right_comm]<;>rfl
theorem aag:∀{a0:Nat},¬a0%2=0->a0=2*(a0/2)+1:=@fun a0 h1=>((Nat.mod_two_eq_zero_or_one a0).resolve_left h1▸Nat.div_add_mod a0 2:2*(a0/2)+1=a0).symm
theorem aah:∀{a0:Nat},a0%2=0->2*(a0/2)=a0:=@fun a0 h1=>(h1▸Nat.div_add_mod a0 2:2*(a0/2)+0=a0)
theorem aai:∀{a0 a1:Int},a0%2=1->¬a0-a1<a1->a0<2*(a0-a1):=fun h1 h2=>by omega
theorem aaj:∀{a0 a1:Int},a0-a1<a1->a0<2*a1:=fun h1=>by rw[Int.two_mul];exact Int.lt_add_of_sub_right_lt h1
theorem aak:∀{a0 a1:Int},a0%2=1->a1≠a0-a1:=fun h1=>by omega
theorem aal:∀{a0 a1:Int},a0<2*a1->¬a0<2*(a0-a1):=fun h1=>by omega
theorem aam:∀{a0 a1:Int},a0<2*a1->a1<a0->0<a1/\a1≠0/\a0-a1≠0:=@fun a0 a1 h1 h2=>have p:0<a1:=Int.lt_of_add_lt_add_left (a:=a1) (by rw[Int.add_zero,<-Int.two_mul];exact Int.lt_trans h2 h1);⟨p,Int.ne_of_gt p,Int.ne_of_gt (Int.sub_pos_of_lt h2)⟩
theorem back{q a s:Int}(hQ:Qf q)(a0:0<=a)(a1:a<q)(s0:0<s)(s1:s<q):((a*s).fmod q*iv q s).fmod q=a:=by
 have h:=hQ.one
 have h1:=tg hQ s0 s1
 obtain⟨x,hx⟩:=dg (show 0<q by exact jc h) (a*s)
 have h2:=Int.emod_add_mul_ediv (s*iv q s) q
 rw[h1] at h2
 have e:q∣(a*s).fmod q*iv q s-a:=⟨x*iv q s+a*(s*iv q s/q),by grind⟩
 rw[qV (by exact jc h) e,Int.fmod_eq_of_lt a0 a1]
theorem dbl{q y:Int}(hq:q%2=1)(y0:0<=y)(y1:y<q):(y*2).fdiv q=if q<2*y then 1 else 0:=by
 rw[Int.fdiv_eq_ediv_of_nonneg _ (by exact Int.le_of_lt (Int.lt_of_le_of_lt y0 y1))]
 split
 ·have:y*2/q=1:=by
   have a:1<=y*2/q:=by rw[Int.le_ediv_iff_mul_le (by exact yR y0 y1)];omega
   have b:y*2/q<2:=Int.ediv_lt_of_lt_mul (by exact yR y0 y1) (by exact ZZ y1)
   exact Int.le_antisymm (Int.le_of_lt_add_one b) a
  exact this
 ·exact Int.ediv_eq_zero_of_lt (by exact Int.mul_nonneg y0 (Int.natCast_nonneg _)) (by omega)
theorem bits{t:Int}(t0:0<=t)(t1:t<8):(decide ((t.fdiv 4).fmod 2=1)=decide (4<=t))/\(4<=t->decide ((t.fdiv 2).fmod 2=1)=decide (6<=t))/\(decide ((t.fdiv 1).fmod 2=1)=decide (t=1\/t=3\/t=5\/t=7)):=by
 have key:∀n:Fin 8,(decide ((((n.val:Nat):Int).fdiv 4).fmod 2=1)=decide (4<=((n.val:Nat):Int)))/\(4<=((n.val:Nat):Int)->decide ((((n.val:Nat):Int).fdiv 2).fmod 2=1)=decide (6<=((n.val:Nat):Int)))/\(decide ((((n.val:Nat):Int).fdiv 1).fmod 2=1)=decide (((n.val:Nat):Int)=1\/((n.val:Nat):Int)=3\/((n.val:Nat):Int)=5\/((n.val:Nat):Int)=7)):=by decide
 have e:=Int.toNat_of_nonneg t0
 have k:=key ⟨t.toNat,by exact Int.ofNat_lt.mp (by rw[e];exact t1)⟩
 rw[show(((⟨t.toNat,by exact Int.ofNat_lt.mp (by rw[e];exact t1)⟩:Fin 8).val:Nat):Int)=t from e] at k
 exact k
theorem t67{t:Int}(h:6<=t)(h8:t<8)(hn:t≠6):t=1\/t=3\/t=5\/t=7:=by exact .inr (.inr (.inr (Int.le_antisymm (Int.le_of_lt_add_one h8) (Int.lt_iff_le_and_ne.mpr ⟨h,Ne.symm hn⟩))))
theorem t45{t:Int}(h:4<=t)(hn:¬6<=t):t=4\/t=5:=by exact Z0 h hn
theorem t4{t:Int}(h:t=4\/t=5):4<=t:=by exact Z5 h
theorem t6{t:Int}(h:t=4\/t=5):¬6<=t:=by exact Z6 h
theorem t5{t:Int}(h:t=4\/t=5):(t=1\/t=3\/t=5\/t=7)↔t=5:=by exact Z7 h
theorem nn{t:Int}(h:0<=t)(hn:t≠0):0<t:=by exact Int.lt_iff_le_and_ne.mpr (And.intro h (Ne.symm hn))
theorem qm{q:Int}(h:2<q):0<q/\0<=q-1/\q-1<q:=by exact⟨Int.lt_trans (by decide) h,Int.sub_nonneg_of_le (Int.le_of_lt (Int.lt_trans (by decide) h)),Int.sub_lt_self _ (by decide)⟩
theorem ff.odd{q:Int}{n:Nat}(F:ff q n):q%2=1:=by have:=F.e;have:=F.m4;omega
noncomputable def pick(q Y:Int)(b:Bool):Int:=(if(Y*2).fdiv q≠(if b then 1 else 0) then q-Y else Y).fmod q
theorem Dz{q Y:Int}(hq:q%2=1)(y0:0<Y)(y1:Y<q)(b:Bool):0<pick q Y b/\pick q Y b<q/\(q<2*pick q Y b↔b=true)/\q∣pick q Y b*pick q Y b-Y*Y:=by
 unfold pick
 rw[dbl hq (by exact eT y0) y1]
 by_cases h:q<2*Y
 ·rw[if_pos h]
  cases b with
  |true=>
   rw[if_neg (by simp),Int.fmod_eq_of_lt (by exact eT y0) y1]
   exact⟨y0,y1,⟨fun _=>rfl,fun _=>h⟩,⟨0,by grind⟩⟩
  |false=>
   rw[if_pos (by simp),Int.fmod_eq_of_lt (by exact AV y1) (by exact Int.sub_lt_self _ y0)]
   exact⟨by exact Int.sub_pos_of_lt y1,by exact Int.sub_lt_self _ y0,⟨fun _=>by omega,fun e=>by cases e⟩,⟨q-2*Y,by grind⟩⟩
 ·rw[if_neg h]
  cases b with
  |true=>
   rw[if_pos (by simp),Int.fmod_eq_of_lt (by exact AV y1) (by exact Int.sub_lt_self _ y0)]
   exact⟨by exact Int.sub_pos_of_lt y1,by exact Int.sub_lt_self _ y0,⟨fun _=>rfl,fun _=>by exact Z8 hq h⟩,⟨q-2*Y,by grind⟩⟩
  |false=>
   rw[if_neg (by simp),Int.fmod_eq_of_lt (by exact eT y0) y1]
   exact⟨y0,y1,⟨fun _=>by omega,fun e=>by cases e⟩,⟨0,by grind⟩⟩
theorem AW{q x y sc t:Int}(hQ:Qf q)(x0:0<=x)(x1:x<q)(y0:0<=y)(y1:y<q)(s0:0<sc)(s1:sc<q)(hq:q%2=1)(ht:t=4\/t=5)(h:q<2*y↔t=5):uB q ((x*sc).fmod q) ((y*sc).fmod q) (sc.fmod q)=x+t*2 ^ 381:=by
 unfold uB
 rw[Int.fmod_eq_of_lt (by exact eT s0) s1,if_neg (by exact Int.ne_of_gt s0),back hQ x0 x1 s0 s1,back hQ y0 y1 s0 s1,dbl hq y0 y1,show(2:Int) ^ 383=4*2 ^ 381 by decide +kernel]
 generalize (2:Int) ^ 381=M
 rcases ht with e|e
 ·rw[if_neg (fun k=>by have:=h.mp k;exact absurd (e.symm.trans this) (by decide)),e];grind
 ·rw[if_pos (h.mpr e),e];grind
section
variable{q:Int}{n:Nat}
theorem aeX(F:ff q n)(hQ:Qf q){c top x sc:Int}(c0:0<c)(c1:c<q)(s0:0<sc)(s1:sc<q)(x0:0<=x)(x1:x<2 ^ 381)(t0:0<=top)(t1:top<8):HP q c top x sc:=by
 have q1:=F.one
 have bU:=(qm q1).1
 have DA:=F.odd
 obtain⟨f3,f2,f1,f0⟩:=zd x0 x1 t0
 obtain⟨b4,b2,b1⟩:=bits t0 t1
 rw[b4] at f3
 rw[b1] at f1
 have e3:x ^ 3=x*x*x:=by grind
 have DT:0<=(x*x*x+c).fmod q:=Int.fmod_nonneg_of_pos _ bU
 have G1:(x*x*x+c).fmod q<q:=Int.fmod_lt_of_pos _ bU
 have hY0:=n9 (a:=(x*x*x+c).fmod q) (b:=(q+1).fdiv 4) bU
 have hY1:=oh (a:=(x*x*x+c).fmod q) (b:=(q+1).fdiv 4) bU
 have EX:=F.root ((x*x*x+c).fmod q)
 have hpe:=kr bU ((x*x*x+c).fmod q) ((q-1).fdiv 2)
 have aeY:=n9 (a:=(x*x*x+c).fmod q) (b:=(q-1).fdiv 2) bU
 have aeZ:=oh (a:=(x*x*x+c).fmod q) (b:=(q-1).fdiv 2) bU
 have hsg:=F.sign (a:=(x*x*x+c).fmod q)
 have Jp:=kr bU (ef ((x*x*x+c).fmod q) ((q+1).fdiv 4) q) 2
 have ae0:=n9 (a:=ef ((x*x*x+c).fmod q) ((q+1).fdiv 4) q) (b:=2) bU
 have ae1:=oh (a:=ef ((x*x*x+c).fmod q) ((q+1).fdiv 4) q) (b:=2) bU
 have EY:4<=top->lz q c (x+top*2 ^ 381)=if decide (6<=top)≠decide (x=0) then none else
   if x=0 then(if decide (top=1\/top=3\/top=5\/top=7) then none else some (1,1,0)) else
   if q<=x then none else
   if ef (ef ((x*x*x+c).fmod q) ((q+1).fdiv 4) q) 2 q≠(x*x*x+c).fmod q then none else
   some (x.fmod q,pick q (ef ((x*x*x+c).fmod q) ((q+1).fdiv 4) q) (decide (top=1\/top=3\/top=5\/top=7)),1):=fun h4=>by
  unfold lz
  rw[f3,f2,b2 h4,f1,f0,e3,decide_eq_true h4]
  rfl
 have dgN:¬4<=top->lz q c (x+top*2 ^ 381)=none:=fun h4=>by
  unfold lz
  rw[f3,decide_eq_false h4]
  rfl
 have hz:(x*x*x+c).fmod q=0->(x*x*x+c).fmod q ^ ((q-1).fdiv 2).toNat=0:=fun h=>by
  obtain⟨k,_,_,e2⟩:=F.half
  rw[h,e2,Int.pow_succ,Int.mul_zero]
 suffices key:(¬(x=0/\top=6)->(x=0\/q<=x\/¬(top=4\/top=5)\/ef ((x*x*x+c).fmod q) ((q-1).fdiv 2) q=q-1)->lz q c (x+top*2 ^ 381)=none)/\
   (¬(x=0\/q<=x\/¬(top=4\/top=5)\/ef ((x*x*x+c).fmod q) ((q-1).fdiv 2) q=q-1)->(x*x*x+c).fmod q≠0->∃y,lz q c (x+top*2 ^ 381)=some (x,y,1)/\
    (y*y).fmod q=(x*x*x+c).fmod q/\0<=y/\y<q/\(q<2*y↔top=5)/\uB q ((x*sc).fmod q) ((y*sc).fmod q) (sc.fmod q)=x+top*2 ^ 381) by
  refine⟨x0,x1,t0,t1,c0,c1,s0,s1,fun hx ht=>?_,key.1,key.2⟩
  show lz q c (x+top*2 ^ 381)=_
  rw[EY (by rw[ht];decide),hx,ht]
  rfl
 generalize (x*x*x+c).fmod q=S at*
 generalize ef S ((q+1).fdiv 4) q=Y at*
 generalize ef S ((q-1).fdiv 2) q=e at*
 generalize S ^ ((q-1).fdiv 2).toNat=e' at*
 have hY2:q∣ef Y 2 q-Y*Y:=by
  obtain⟨a,ha⟩:=Jp
  exact⟨a,by rw[<-ha,show Int.toNat 2=2 from rfl];grind⟩
 generalize ef Y 2 q=Y2 at*
 refine⟨fun hn hc=>?_,fun hc hS=>?_⟩
 ·by_cases h4:4<=top
  ·rw[EY h4]
   by_cases hx:x=0
   ·by_cases h6:6<=top
    ·rw[if_neg (by simp[hx,h6]),if_pos hx,if_pos (decide_eq_true (t67 h6 t1 fun k=>hn ⟨hx,k⟩))]
    ·rw[if_pos (by simp[hx,h6])]
   ·by_cases h6:6<=top
    ·rw[if_pos (by simp[hx,h6])]
    ·rw[if_neg (by simp[hx,h6]),if_neg hx]
     by_cases Jq:q<=x
     ·rw[if_pos Jq]
     ·rw[if_neg Jq,if_pos]
      intro heq
      have he:e=q-1:=hc.elim (fun h=>absurd h hx) fun h=>h.elim (fun h=>absurd h Jq) fun h=>h.elim (fun h=>absurd (t45 h4 h6) h) id
      obtain⟨b,hb⟩:=hpe
      have cB:q∣2*S:=by
       obtain⟨a,ha⟩:=EX
       obtain⟨d,hd⟩:=hY2
       rw[heq] at hd
       exact⟨d+a+S*(1-b),by grind⟩
      have mT:q∣S:=(F.eu cB).resolve_left F.no2
      have hS:S=0:=Classical.byContradiction fun k=>F.sm (nn DT k) G1 mT
      have h0:=hz hS
      exact F.no1 ⟨1-b,by grind⟩
  ·exact dgN h4
 ·have hx:x≠0:=fun k=>hc (.inl k)
  have Jq:¬q<=x:=fun k=>hc (.inr (.inl k))
  have ht:top=4\/top=5:=Classical.byContradiction fun k=>hc (.inr (.inr (.inl k)))
  have he:e≠q-1:=fun k=>hc (.inr (.inr (.inr k)))
  have hSn:¬q∣S:=F.sm (nn DT hS) G1
  have aV:q∣e'-1:=(hsg hSn).resolve_right fun k=>he (by
   obtain⟨a,ha⟩:=hpe
   obtain⟨b,hb⟩:=k
   exact qW aeY aeZ (qm q1).2.1 (qm q1).2.2 ⟨a+b-1,by grind⟩)
  have hYS:q∣Y*Y-S:=by
   obtain⟨a,ha⟩:=EX
   obtain⟨b,hb⟩:=aV
   exact⟨a+S*b,by grind⟩
  have hYn:0<Y:=by
   rcases Int.lt_or_eq_of_le hY0 with h|h
   ·exact h
   ·rw[<-h] at hYS
    exact absurd (by obtain⟨a,ha⟩:=hYS;exact⟨-a,by grind⟩) hSn
  obtain⟨y0,y1,y2,y3⟩:=Dz DA hYn hY1 (decide (top=1\/top=3\/top=5\/top=7))
  have h5:q<2*pick q Y (decide (top=1\/top=3\/top=5\/top=7))↔top=5:=by
   rw[y2,decide_eq_true_eq]
   exact t5 ht
  have ae2:Y2=S:=qW ae0 ae1 DT G1 (by
   obtain⟨a,ha⟩:=hY2
   obtain⟨b,hb⟩:=hYS
   exact⟨a+b,by grind⟩)
  refine⟨pick q Y (decide (top=1\/top=3\/top=5\/top=7)),?_,?_,Int.le_of_lt y0,y1,h5,AW hQ x0 (Int.not_le.mp Jq) (Int.le_of_lt y0) y1 s0 s1 DA ht h5⟩
  ·rw[EY (t4 ht),if_neg (by rw[decide_eq_false (t6 ht),decide_eq_false hx];exact fun k=>k rfl),if_neg hx,if_neg Jq,if_neg (fun k=>k ae2),Int.fmod_eq_of_lt x0 (Int.not_le.mp Jq)]
  ·rw[<-Int.fmod_eq_of_lt DT G1]
   refine qV bU ?_
   obtain⟨a,ha⟩:=y3
   obtain⟨b,hb⟩:=hYS
   exact⟨a+b,by grind⟩
end
theorem lt5{a q B:Int}(h:a<q)(k:q+5<B):a<B:=by exact Int.lt_trans h (Int.lt_trans (Int.lt_add_of_pos_right _ (by decide)) k)
theorem p5{a q B:Int}(h0:0<=a)(h:a<5)(q0:0<q)(k:q+5<B):0<=q+a/\q+a<B:=by exact⟨Int.add_nonneg (Int.le_of_lt q0) h0,Int.lt_trans (Int.add_lt_add_left h _) k⟩
theorem p9{a q B:Int}(h0:0<=a)(h:a<q)(k:q+5<B):0<=q-1-a/\q-1-a<B:=by exact⟨Int.sub_nonneg_of_le (Int.le_sub_one_of_lt h),Int.lt_of_le_of_lt (Int.le_trans (Int.sub_le_self _ h0) (Int.sub_le_self _ (by decide))) (Int.lt_trans (Int.lt_add_of_pos_right _ (by decide)) k)⟩
theorem lt8:∀n:Nat,n<8->n=0\/n=1\/n=2\/n=3\/n=4\/n=5\/n=6\/n=7:=by decide
theorem mw{g q:Int}(b:Nat)(h0:0<=g)(q0:0<q)(hq:q+5<2 ^ b):0<=cZ g q b/\cZ g q b<2 ^ b:=by
 have hB:=lt5 q0 hq
 have m:=fun(a:Int) {k:Int} (h:0<k)=>And.intro (Int.fmod_nonneg_of_pos a h) (Int.fmod_lt_of_pos a h)
 have i:=m g (show(0:Int)<8 by decide)
 have a:=m (g.fdiv 8) q0
 have ab:=And.intro a.1 (lt5 a.2 hq)
 unfold cZ D3
 generalize g.fmod 8=j at*
 have e:=Int.toNat_of_nonneg i.1
 have l:j.toNat<8:=by have:=i.2;exact(Int.toNat_lt i.1).mpr i.2
 generalize j.toNat=n at*
 rcases lt8 n l with rfl|rfl|rfl|rfl|rfl|rfl|rfl|rfl
 ·exact ab
 ·exact ab
 ·exact ab
 ·exact ab
 ·exact p5 (m _ (by decide)).1 (m _ (by decide)).2 q0 hq
 ·exact m _ hB
 ·exact p9 (m _ q0).1 (m _ q0).2 hq
 ·exact⟨Int.le_refl _,hB⟩
theorem vY{g:Int}(h0:0<=g):0<=jo g/\jo g<8:=by
 unfold jo
 rw[Int.fmod_eq_emod_of_nonneg _ (by decide),Int.fmod_eq_emod_of_nonneg _ (by decide),Int.fmod_eq_emod_of_nonneg _ (by decide)]
 split<;>omega
theorem ae3:Dg:=fun p hp g2 g3 g4 g5 h2 h3 h4 h5=>by
 obtain⟨n,F⟩:=oY p hp
 have q1:=F.one
 have a0:=Int.fmod_nonneg_of_pos g2 (show 0<p-1 by exact vX q1)
 have a1:=Int.fmod_lt_of_pos g2 (show 0<p-1 by exact vX q1)
 have b0:=Int.fmod_nonneg_of_pos g5 (show 0<p-1 by exact vX q1)
 have b1:=Int.fmod_lt_of_pos g5 (show 0<p-1 by exact vX q1)
 have c:=mw 381 h4 (show 0<p by exact dW q1) (mu p hp)
 have t:=vY h3
 exact aeX F (hQ p hp) (by exact Int.lt_of_le_of_lt a0 (Int.le_of_eq (Int.add_comm _ _))) (by exact EW a1) (by exact Int.lt_of_le_of_lt b0 (Int.le_of_eq (Int.add_comm _ _))) (by exact EW b1) c.1 c.2 t.1 t.2
noncomputable def gs(v w:G):G:=(v.1-w.1,v.2-w.2)
noncomputable def gN(v:G):Int:=v.1*v.1+v.2*v.2
theorem aan(v w:G):gN (gm v w)=gN v*gN w:=by simp only[gN,gm];grind
theorem rd{q:Int}(h:0<q)(v:G):E q (aD q v) v:=⟨dg h _,dg h _⟩
theorem rdI{q:Int}(h:0<q)(v:G):bP q (aD q v):=⟨Int.fmod_nonneg_of_pos _ h,Int.fmod_lt_of_pos _ h,Int.fmod_nonneg_of_pos _ h,Int.fmod_lt_of_pos _ h⟩
theorem mI{q:Int}(h:0<q)(v w:G):bP q (aF q v w):=rdI h (gm v w)
theorem aI{q:Int}(h:0<q)(v w:G):bP q (cG q v w):=rdI h (ga v w)
theorem sI{q:Int}(h:0<q)(v w:G):bP q (qs q v w):=rdI h (gs v w)
theorem JU{q:Int}{v w:G}(hv:bP q v)(hw:bP q w)(h:E q v w):v=w:=gx (qW hv.1 hv.2.1 hw.1 hw.2.1 h.1) (qW hv.2.2.1 hv.2.2.2 hw.2.2.1 hw.2.2.2 h.2)
theorem i9{q:Int}{v:G}(hv:bP q v):aD q v=v:=gx (Int.fmod_eq_of_lt hv.1 hv.2.1) (Int.fmod_eq_of_lt hv.2.2.1 hv.2.2.2)
theorem mE{q:Int}(h:0<q)(v w:G):E q (aF q v w) (gm v w):=rd h (gm v w)
theorem aE{q:Int}(h:0<q)(v w:G):E q (cG q v w) (ga v w):=rd h (ga v w)
theorem sE{q:Int}(h:0<q)(v w:G):E q (qs q v w) (gs v w):=rd h (gs v w)
theorem cE{q:Int}(h:0<q)(v:G):E q (cz q v) (gm v (gm v v)):=(mE h _ _).trans (E.rfl.mul (mE h _ _))
theorem E.sub{q:Int}{u v w x:G}(h:E q u v)(h':E q w x):E q (gs u w) (gs v x):=⟨dS h.1 h'.1,dS h.2 h'.2⟩
theorem tH{v w:G}:dm v w=true↔v=w:=by
 unfold dm
 rw[Bool.and_eq_true,beq_iff_eq,beq_iff_eq]
 exact⟨fun h=>gx h.1 h.2,fun h=>by rw[h];exact⟨rfl,rfl⟩⟩
theorem AX{q:Int}{v w:G}(hv:bP q v)(hw:bP q w):dm v w=true↔E q v w:=tH.trans ⟨fun h=>h▸.rfl,JU hv hw⟩
theorem Jr{q:Int}(h:0<q):∀(n:Nat) (o t:G),E q (dN q n o t) (gm o (gp t n)):=fun n=>by
 induction n using Nat.strongRecOn with
 |_ n ih=>
  intro o t
  rw[j9]
  split
  ·rename_i h0
   rw[h0]
   show E q o (gm o (1,0))
   rw[eH]
   exact .rfl
  ·rename_i h0
   refine(ih (n/2) (by exact Nat.div_lt_self (Nat.pos_of_ne_zero h0) (Nat.le_refl _)) _ _).trans ?_
   have e1:E q (gp (aF q t t) (n/2)) (gp t (2*(n/2))):=by
    rw[c9]
    refine((mE h t t).pow _).trans ?_
    have:gp t 2=gm t t:=by show gm (gm (1,0) t) t=_;rw[oR]
    rw[this]
    exact .rfl
   by_cases hp:n%2=1
   ·rw[if_pos hp]
    refine((mE h o t).mul e1).trans ?_
    have:gp t n=gm t (gp t (2*(n/2))):=by
     have:n=2*(n/2)+1:=by exact aaa hp
     conv=>lhs;rw[this]
     exact ko _ _
    rw[this,<-jv]
    exact .rfl
   ·rw[if_neg hp]
    refine(E.rfl.mul e1).trans ?_
    rw[show 2*(n/2)=n by exact aab hp]
    exact .rfl
theorem pE{q:Int}(h:0<q)(n:Nat)(t:G):E q (dN q n (1,0) t) (gp t n):=by
 have:=Jr h n (1,0) t
 rwa[oR] at this
theorem pI{q:Int}(h:1<q)(n:Nat)(t:G):bP q (dN q n (1,0) t):=bP.pow (by exact jc h) n _ _ ⟨by show(0:Int)<=1;decide,h,by show(0:Int)<=0;decide,by show 0<q;exact jc h⟩
theorem gp2(t:G):gp t 2=gm t t:=by show gm (gm (1,0) t) t=_;rw[oR]
theorem gp3(t:G):gp t 3=gm t (gm t t):=by show gm (gm (gm (1,0) t) t) t=_;rw[oR,jv]
section
variable{q:Int}{n:Nat}
theorem ff.dom(F:ff q n){v w:G}(h:E q (gm v w) (0,0)):E q v (0,0)\/E q w (0,0):=by
 have z:∀{u:G},q∣gN u->E q u (0,0):=fun {u} k=>by
  obtain⟨⟨a,ha⟩,⟨b,hb⟩⟩:=F.ZY k
  exact⟨⟨a,by grind⟩,⟨b,by grind⟩⟩
 obtain⟨⟨a,ha⟩,⟨b,hb⟩⟩:=h
 have k:q∣gN v*gN w:=by
  rw[<-aan]
  refine⟨a*(gm v w).1+b*(gm v w).2,?_⟩
  simp only[gN]
  grind
 exact(F.eu k).imp z z
theorem ff.cancel(F:ff q n){v x y:G}(hv:¬E q v (0,0))(h:E q (gm x v) (gm y v)):E q x y:=by
 have k:E q (gm (gs x y) v) (0,0):=by
  obtain⟨⟨a,ha⟩,⟨b,hb⟩⟩:=h
  simp only[gm] at ha hb
  exact⟨⟨a,by simp only[gm,gs];grind⟩,⟨b,by simp only[gm,gs];grind⟩⟩
 obtain⟨⟨a,ha⟩,⟨b,hb⟩⟩:=(F.dom k).resolve_right hv
 simp only[gs] at ha hb
 exact⟨⟨a,by grind⟩,⟨b,by grind⟩⟩
theorem AY{v:G}(hv:bP q v)(h:v≠(0,0)):¬E q v (0,0):=fun k=>h (JU hv ⟨Int.le_refl _,by have:=hv.1;have:=hv.2.1;show 0<q;omega,Int.le_refl _,by have:=hv.1;have:=hv.2.1;show 0<q;omega⟩ k)
theorem Js{q:Int}(hQ:Qf q){a:Int}(h:¬q∣a):q∣a*iv q a-1:=by
 have h1:=(vA hQ a).2.2.2 fun k=>h (Int.dvd_of_emod_eq_zero k)
 have h2:=Int.emod_add_mul_ediv (a*iv q a) q
 exact⟨a*iv q a/q,by rw[h1] at h2;grind⟩
theorem i3a{q a0 a1 r w y1 y2:Int}(h1:r*w-a1=q*y1)(h2:w*a1+a0=q*y2):a0*r+a1*a1=q*(y2*r-a1*y1):=by grind
theorem i3b{q a0 a1 r y4 x7 k i3:Int}(h1:a0*r+a1*a1=q*y4)(h2:i3-(a0-r)=q*x7)(h3:i3=q*k):a0*a0+a1*a1=q*(y4+a0*(k-x7)):=by grind
theorem i3c{q a0 a1 r M i2 i3 x6 x7 y3:Int}(h1:i3-(a0-r)=q*x7)(h2:i2- -(M*r)=q*x6)(h3:M*a1+1=q*y3):a0*1-a1*i2-i3=q*(-x7-a1*x6+y3*r):=by grind
theorem i3d{q a0 a1 r M y3 y4:Int}(h1:a0*r+a1*a1=q*y4)(h3:M*a1+1=q*y3):a1*(a1-a0*M*r)=q*(y4-y3*a0*r):=by grind
theorem i3e{q a0 a1 r M i2 x6 z:Int}(h1:a1-a0*M*r=q*z)(h2:i2- -(M*r)=q*x6):a0*i2+a1*1-0=q*(z+a0*x6):=by grind
theorem i3f{q a1 u' w r x3 x4:Int}(h1:r-a1*u'=q*x4)(h2:w*u'-1=q*x3):r*w-a1=q*(x4*w+a1*x3):=by grind
theorem i3g{q a0 a1 u w x1 x2:Int}(h1:a1*u-1=q*x1)(h2:w- -(a0*u)=q*x2):w*a1+a0=q*(x2*a1-a0*x1):=by grind
theorem i3h{q a1 u M x1 x5:Int}(h1:a1*u-1=q*x1)(h2:M- -u=q*x5):M*a1+1=q*(x5*a1-x1):=by grind
theorem DB(F:ff q n)(hQ:Qf q){b:G}(hb:bP q b)(h:b≠(0,0)):E q (gm b (n7 q b)) (1,0):=by
 have q1:=F.one
 have bU:0<q:=by exact dW q1
 have key:∀i1 i2 i3:Int,¬q∣i3->E q (gm b (i1,i2)) (i3,0)->E q (gm b ((i1*iv q i3).fmod q,(i2*iv q i3).fmod q)) (1,0):=fun i1 i2 i3 h3 h4=>by
  refine(E.rfl.mul (rd bU (i1*iv q i3,i2*iv q i3))).trans ?_
  obtain⟨⟨x,hx⟩,⟨y,hy⟩⟩:=h4
  obtain⟨z,hz⟩:=Js hQ h3
  simp only[gm] at hx hy
  refine⟨⟨x*iv q i3+z,?_⟩,⟨y*iv q i3,?_⟩⟩
  ·simp only[gm];grind
  ·simp only[gm];grind
 obtain⟨a0,a1⟩:=b
 obtain⟨b0,b1,b2,b3⟩:=hb
 have b0:0<=a0:=b0
 have b1:a0<q:=b1
 have b2:0<=a1:=b2
 have b3:a1<q:=b3
 show E q (gm (a0,a1) (((fR q a0 a1).1*iv q (fR q a0 a1).2.2).fmod q,((fR q a0 a1).2.1*iv q (fR q a0 a1).2.2).fmod q)) (1,0)
 by_cases h1:a1=0
 ·have e:fR q a0 a1=(1,0,a0):=by unfold fR;rw[if_pos h1]
  rw[e]
  have h0:a0≠0:=fun k=>h (by rw[k,h1])
  refine key 1 0 a0 (F.sm (by omega) b1) ?_
  rw[h1,eH]
  exact .rfl
 ·have Jy:=Js hQ (F.sm (show 0<a1 by omega) b3)
  by_cases h2:(-(a0*iv q a1)).fmod q=0
  ·have e:fR q a0 a1=(0,(-iv q a1).fmod q,1):=by unfold fR;rw[if_neg h1,if_pos h2]
   rw[e]
   refine key 0 _ 1 F.no1 ?_
   have h3:=dg bU (-(a0*iv q a1))
   rw[h2] at h3
   refine(E.rfl.mul (w:=(0,(-iv q a1).fmod q)) (x:=(0, -iv q a1)) ⟨⟨0,by grind⟩,dg bU _⟩).trans ?_
   obtain⟨x,hx⟩:=h3
   obtain⟨y,hy⟩:=Jy
   refine⟨⟨y,?_⟩,⟨-x,?_⟩⟩
   ·simp only[gm];grind
   ·simp only[gm];grind
  ·have e:fR q a0 a1=(1,(-((-iv q a1).fmod q*(a1*iv q ((-(a0*iv q a1)).fmod q)).fmod q)).fmod q,(a0-(a1*iv q ((-(a0*iv q a1)).fmod q)).fmod q).fmod q):=by unfold fR;rw[if_neg h1,if_neg h2]
   rw[e]
   have w0:=Int.fmod_nonneg_of_pos (-(a0*iv q a1)) bU
   have w1:=Int.fmod_lt_of_pos (-(a0*iv q a1)) bU
   have hw:=dg bU (-(a0*iv q a1))
   generalize (-(a0*iv q a1)).fmod q=w at*
   have hdw:=Js hQ (F.sm (show 0<w by exact Ag h2 w0) w1)
   have hr:=dg bU (a1*iv q w)
   generalize (a1*iv q w).fmod q=r at*
   have hM:=dg bU (-iv q a1)
   generalize (-iv q a1).fmod q=M at*
   have h5:=dg bU (-(M*r))
   have h6:=dg bU (a0-r)
   generalize (-(M*r)).fmod q=i2 at*
   generalize (a0-r).fmod q=i3 at*
   generalize iv q a1=u at*
   generalize iv q w=u' at*
   obtain⟨x1,x1e⟩:=Jy
   obtain⟨x2,x2e⟩:=hw
   obtain⟨x3,x3e⟩:=hdw
   obtain⟨x4,x4e⟩:=hr
   obtain⟨x5,x5e⟩:=hM
   have y1e:=i3f x4e x3e
   have y2e:=i3g x1e x2e
   have y3e:=i3h x1e x5e
   have y4e:=i3a y1e y2e
   obtain⟨x6,x6e⟩:=h5
   obtain⟨x7,x7e⟩:=h6
   refine key 1 i2 i3 (fun⟨k,ke⟩=>F.sm (show 0<a1 by omega) b3 (F.ZY ⟨_,i3b y4e x7e ke⟩).2) ⟨⟨_,i3c x7e x6e y3e⟩,?_⟩
   obtain⟨z,hz⟩:=(F.eu ⟨_,i3d y4e y3e⟩).resolve_left (F.sm (show 0<a1 by omega) b3)
   exact⟨_,i3e hz x6e⟩
theorem oZ(F:ff q n)(hQ:Qf q){a b:G}(hb:bP q b)(h:b≠(0,0)):E q (gm (dI q a b) b) a:=by
 have q1:=F.one
 refine((mE (by exact dW q1) a (n7 q b)).mul .rfl).trans ?_
 rw[jv,ko (n7 q b)]
 refine(E.rfl.mul (DB F hQ hb h)).trans ?_
 rw[eH]
 exact .rfl
theorem vZ(F:ff q n)(hQ:Qf q){a b x:G}(hx:bP q x)(hb:bP q b)(h:b≠(0,0))(e:E q (gm x b) a):dI q a b=x:=by
 have q1:=F.one
 exact JU (bP.mul (by exact dW q1) _ _) hx (F.cancel (AY hb h) ((oZ F hQ hb h).trans e.symm))
theorem o6(h:1<q){x y z b:G}:ly q x y z b=true↔z=(0,0)\/E q (gs (gm (gm y y) z) (gm x (gm x x))) (gm b (gm z (gm z z))):=by
 have bU:0<q:=by exact jc h
 unfold ly
 by_cases hz:z=(0,0)
 ·rw[if_pos hz];exact⟨fun _=>.inl hz,fun _=>rfl⟩
 ·rw[if_neg hz,AX (q:=q) (sI bU _ _) (mI bU _ _)]
  have e1:E q (qs q (aF q (dN q 2 (1,0) y) z) (dN q 3 (1,0) x)) (gs (gm (gm y y) z) (gm x (gm x x))):=by
   refine(sE bU _ _).trans (E.sub ((mE bU _ _).trans (E.mul ?_ .rfl)) ?_)
   ·rw[<-gp2];exact pE bU 2 y
   ·rw[<-gp3];exact pE bU 3 x
  have e2:E q (aF q b (dN q 3 (1,0) z)) (gm b (gm z (gm z z))):=by
   refine(mE bU _ _).trans (E.rfl.mul ?_)
   rw[<-gp3];exact pE bU 3 z
  exact⟨fun k=>.inr (e1.symm.trans (k.trans e2)),fun k=>(k.resolve_left hz|>fun k=>e1.trans (k.trans e2.symm))⟩
end
theorem tK{q:Int}{a b c:G}:E q (gs a b) c↔E q a (ga b c):=by
 refine⟨fun⟨⟨x,hx⟩,⟨y,hy⟩⟩=>?_,fun⟨⟨x,hx⟩,⟨y,hy⟩⟩=>?_⟩
 ·simp only[gs] at hx hy
  exact⟨⟨x,by simp only[ga];grind⟩,⟨y,by simp only[ga];grind⟩⟩
 ·simp only[ga] at hx hy
  exact⟨⟨x,by simp only[gs];grind⟩,⟨y,by simp only[gs];grind⟩⟩
theorem ae4{q:Int}(h:1<q){f0 f1 f2 s:G}(i0:bP q f0)(i1:bP q f1)(i2:bP q f2)(is:bP q s):ze q f0 f1 f2 s:=by
 have bU:0<q:=by exact jc h
 have JV:=o6 h (x:=f0) (y:=f1) (z:=f2) (b:=s)
 refine⟨fun e=>?_,fun e=>?_⟩
 ·rw[i9 i0,i9 i1,i9 i2,i9 is]
  unfold lC
  rw[JV.mpr (.inl e),if_neg (by decide),if_pos e]
 ·rw[i9 i0,i9 i1,i9 i2,i9 is]
  have hr:dm (aF q (aF q f1 f1) f2) (cG q (cz q f0) (aF q s (cz q f2)))=true↔ly q f0 f1 f2 s=true:=by
   rw[JV,AX (q:=q) (mI bU _ _) (aI bU _ _),tK]
   have e1:E q (aF q (aF q f1 f1) f2) (gm (gm f1 f1) f2):=(mE bU _ _).trans ((mE bU _ _).mul .rfl)
   have e2:E q (cG q (cz q f0) (aF q s (cz q f2))) (ga (gm f0 (gm f0 f0)) (gm s (gm f2 (gm f2 f2)))):=(aE bU _ _).trans ((cE bU _).add ((mE bU _ _).trans (E.rfl.mul (cE bU _))))
   exact⟨fun k=>.inr (e1.symm.trans (k.trans e2)),fun k=>e1.trans ((k.resolve_left e).trans e2.symm)⟩
  cases ho:ly q f0 f1 f2 s with
  |true=>
   rw[hr.mpr ho]
   unfold lC
   rw[ho,if_neg (by decide),if_neg e]
   rfl
  |false=>
   unfold lC
   rw[ho,if_pos rfl]
   cases hc:dm (aF q (aF q f1 f1) f2) (cG q (cz q f0) (aF q s (cz q f2))) with
   |true=>rw[hr.mp hc] at ho;cases ho
   |false=>rfl
theorem ae5:Dj:=fun p hp f0 f1 f2 s a b c d=>ae4 (hQ p (List.mem_of_mem_take hp)).one a b c d
theorem ae6(k:Nat):gp (0,1) (4*k+3)=(0, -1):=by
 rw[iX,c9]
 have e:gp (0,1) 4=(1,0):=by decide
 rw[e,mj]
 decide
section
variable{q:Int}{n:Nat}
theorem ff.ae7(F:ff q n)(v:G):E q (gp v n) (v.1, -v.2):=by
 have e:=F.e
 have hf:∀a:Int,E q (gp (a,0) n) (a,0):=fun a=>by
  rw[nO,e]
  exact⟨AM F.pr a,⟨0,by grind⟩⟩
 have e1:v=ga (v.1,0) (0,v.2):=gx (by simp only[ga];grind) (by simp only[ga];grind)
 have e2:((0:Int),v.2)=gm (v.2,0) (0,1):=gx (by simp only[gm];grind) (by simp only[gm];grind)
 have h:=fresh F.pr (v.1,0) (0,v.2)
 rw[<-e1,<-e,e2,EU,show n=4*(n/4)+3 by have:=F.m4;exact AK this,ae6,<-show n=4*(n/4)+3 by have:=F.m4;exact AK this] at h
 refine h.trans (((hf _).add ((hf _).mul .rfl)).trans ?_)
 exact⟨⟨0,by simp only[ga,gm];grind⟩,⟨0,by simp only[ga,gm];grind⟩⟩
theorem ff.norm(F:ff q n)(v:G):E q (gp v (n+1)) (gN v,0):=by
 refine((F.ae7 v).mul (.rfl (v:=v))).trans ?_
 exact⟨⟨0,by simp only[gm,gN];grind⟩,⟨0,by simp only[gm,gN];grind⟩⟩
end
structure iG(q:Int)(n:Nat):Prop where
 F:ff q n
 Q:Qf q
 m8:n%8=3
 r:∃r:Int,q∣r*r-(q-1).fdiv 2
section
variable{q:Int}{n:Nat}
theorem iG.fE(L:iG q n):q∣2*(fE q*fE q)+1:=by
 have F:=L.F
 have q1:=F.one
 obtain⟨r,hr⟩:=L.r
 have ha:2*(q-1).fdiv 2=q-1:=by
  rw[Int.fdiv_eq_ediv_of_nonneg _ (by decide)]
  have:=F.e
  have:=F.m4
  omega
 have h:=F.root ((q-1).fdiv 2)
 have hn:¬q∣r:=fun k=>by
  obtain⟨a,ha'⟩:=k
  obtain⟨b,hb⟩:=hr
  exact F.no1 ⟨1+2*b-2*(a*r),by grind⟩
 obtain⟨k,e1,_,e3⟩:=F.half
 rw[e3] at h
 have h1:=F.fer hn
 have h2:=jx hr (2*k+1)
 have e4:(r*r) ^ (2*k+1)=r ^ (n-1):=by
  rw[show r*r=r ^ 2 by grind,<-Int.pow_mul]
  congr 1
  exact ES e1
 rw[e4] at h2
 have h3:Mine.fE q=ef ((q-1).fdiv 2) ((q+1).fdiv 4) q:=rfl
 rw[<-h3] at h
 generalize (q-1).fdiv 2=a at*
 generalize a ^ (2*k+1)=x at*
 generalize r ^ (n-1)=y at*
 obtain⟨b1,h⟩:=h
 obtain⟨b2,h1⟩:=h1
 obtain⟨b3,h2⟩:=h2
 have e5:x=1+q*(b2-b3):=by grind
 rw[e5] at h
 exact⟨2*b1+2*a*(b2-b3)+1,by grind⟩
end
theorem wc:∀q∈aK.take 14,∃n,iG q n:=fun q hq=>by
 have hm:=List.mem_of_mem_take hq
 obtain⟨n,F⟩:=oY q hm
 have h8:((aK.take 14).all fun p=>p%8==3)=true:=by decide +kernel
 have h9:((aK.take 14).all fun p=>([4,16,35,121,765654001,690411254,477081000462,204861081406,3873336583589470,2054280767802984,20586723219790500,4584977624586803,753378800432806160,273658440698127462]:List Int).any fun r=>(r*r-(p-1).fdiv 2)%p==0)=true:=by decide +kernel
 have a:=beq_iff_eq.mp (List.all_eq_true.mp h8 q hq)
 obtain⟨r,_,hr⟩:=List.any_eq_true.mp (List.all_eq_true.mp h9 q hq)
 exact⟨n,F,hQ q hm,by have:=F.e;exact aac a this,r,Int.dvd_of_emod_eq_zero (beq_iff_eq.mp hr)⟩
noncomputable def wr(q:Int):G:=(fE q,fE q)
noncomputable def rt(q:Int)(k:Nat):G:=aD q (o9 q k)
section
variable{q:Int}{n:Nat}
theorem aao(h:0<q):∀k,E q (o9 q k) (gp (wr q) k)
 |0=>.rfl
 |k+1=>(mE h _ _).trans ((aao h k).mul .rfl)
theorem rtE(h:0<q)(k:Nat):E q (rt q k) (gp (wr q) k):=(rd h _).trans (aao h k)
theorem rtI(h:0<q)(k:Nat):bP q (rt q k):=rdI h _
theorem iG.w2(L:iG q n):E q (gp (wr q) 2) (0, -1):=by
 rw[gp2]
 obtain⟨a,ha⟩:=L.fE
 exact⟨⟨0,by simp only[gm,wr];grind⟩,⟨a,by simp only[gm,wr];grind⟩⟩
theorem iG.w4(L:iG q n):E q (gp (wr q) 4) (-1,0):=by
 rw[show 4=2*2 from rfl,c9]
 refine(L.w2.pow 2).trans ?_
 rw[show gp (0, -1) 2=(-1,0) by decide]
 exact .rfl
theorem iG.w6(L:iG q n):E q (gp (wr q) 6) (0,1):=by
 rw[show 6=2*3 from rfl,c9]
 refine(L.w2.pow 3).trans ?_
 rw[show gp (0, -1) 3=(0,1) by decide]
 exact .rfl
theorem iG.w8(L:iG q n):E q (gp (wr q) 8) (1,0):=by
 rw[show 8=2*4 from rfl,c9]
 refine(L.w2.pow 4).trans ?_
 rw[show gp (0, -1) 4=(1,0) by decide]
 exact .rfl
theorem qX(v:G)(a b:Nat):gp (gp v a) b=gp (gp v b) a:=by rw[<-c9,<-c9,Nat.mul_comm]
theorem EZ{k:Nat}(hk:k<8):(aM q).getD k (0,0)=rt q k:=by
 rcases lt8 k hk with rfl|rfl|rfl|rfl|rfl|rfl|rfl|rfl<;>rfl
theorem qY:gw (aM q)=[rt q 0,rt q 2,rt q 4,rt q 6]:=rfl
theorem iG.ord(L:iG q n):∃m k:Nat,n=8*k+3/\m+1=2*((q ^ 2-1+8).fdiv 16).toNat/\m*4=(n+1)*(4*k+1)/\((q-1).fdiv 2).toNat=4*k+1:=by
 have hm:=L.m8
 obtain⟨k,hk⟩:∃k,n=8*k+3:=⟨n/8,by exact aad hm⟩
 have hq:q=8*(k:Int)+3:=by rw[L.F.e,hk];push_cast;rfl
 have e1:q ^ 2-1+8=16*((4*k*k+3*k+1:Nat):Int):=by rw[hq];push_cast;grind
 have e2:(q ^ 2-1+8).fdiv 16=((4*k*k+3*k+1:Nat):Int):=by
  rw[e1,Int.fdiv_eq_ediv_of_nonneg _ (by decide)]
  exact Int.mul_ediv_cancel_left _ (by decide)
 refine⟨8*k*k+6*k+1,k,hk,?_,?_,?_⟩
 ·rw[e2,Int.toNat_natCast];grind
 ·rw[hk];grind
 ·rw[hq,Int.fdiv_eq_ediv_of_nonneg _ (by decide)];exact aae hk
theorem iG.E0(L:iG q n){v:G}(hv:bP q v)(h:v≠(0,0)):E q (gm (iM q v) (iM q v)) (gm (gy q v) v)/\bP q (gy q v)/\E q (gp (gy q v) 4) (gN v ^ ((q-1).fdiv 2).toNat,0):=by
 have F:=L.F
 have q1:=F.one
 have bU:0<q:=by exact dW q1
 obtain⟨m,k,hk,hm,hm4,hh⟩:=L.ord
 have hK:=oZ F L.Q (a:=dN q 2 (1,0) (iM q v)) hv h
 have hp:E q (dN q 2 (1,0) (iM q v)) (gm (iM q v) (iM q v)):=by rw[<-gp2];exact pE bU _ _
 have h1:E q (gm (iM q v) (iM q v)) (gm (gy q v) v):=(hK.trans hp).symm
 refine⟨h1,bP.mul bU _ _,?_⟩
 have hc:E q (gm (iM q v) (iM q v)) (gm (gp v m) v):=by
  have h2:=pE bU ((q ^ 2-1+8).fdiv 16).toNat v
  refine(h2.mul h2).trans ?_
  rw[<-iX,<-Nat.two_mul,<-hm]
  exact .rfl
 have h3:=F.cancel (AY hv h) (h1.symm.trans hc)
 refine(h3.pow 4).trans ?_
 rw[<-c9,hm4,c9,hh]
 refine((F.norm v).pow _).trans ?_
 rw[nO]
 exact .rfl
theorem qZ(h:1<q){v:G}:gz q v=true↔E q (gN v ^ ((q-1).fdiv 2).toNat,0) (1,0):=by
 have bU:0<q:=by exact jc h
 unfold gz
 rw[beq_iff_eq]
 have h1:=kr bU ((v.1*v.1+v.2*v.2).fmod q) ((q-1).fdiv 2)
 have h2:q∣(v.1*v.1+v.2*v.2).fmod q ^ ((q-1).fdiv 2).toNat-gN v ^ ((q-1).fdiv 2).toNat:=jx (dg bU _) _
 have l0:=n9 (a:=(v.1*v.1+v.2*v.2).fmod q) (b:=(q-1).fdiv 2) bU
 have l1:=oh (a:=(v.1*v.1+v.2*v.2).fmod q) (b:=(q-1).fdiv 2) bU
 generalize ef ((v.1*v.1+v.2*v.2).fmod q) ((q-1).fdiv 2) q=e at*
 generalize (v.1*v.1+v.2*v.2).fmod q ^ ((q-1).fdiv 2).toNat=x at*
 generalize gN v ^ ((q-1).fdiv 2).toNat=y at*
 obtain⟨a,ha⟩:=h1
 obtain⟨b,hb⟩:=h2
 refine⟨fun k=>⟨⟨-a-b,by grind⟩,⟨0,by grind⟩⟩,fun⟨⟨c,hc⟩,_⟩=>qW l0 l1 (by decide) h ⟨a+b+c,by grind⟩⟩
theorem iG.four(L:iG q n){x:G}(h:E q (gp x 4) (1,0)):E q x (1,0)\/E q x (0, -1)\/E q x (-1,0)\/E q x (0,1):=by
 have F:=L.F
 have e4:gp x 4=gm (gm x x) (gm x x):=by rw[show 4=2*2 from rfl,c9,gp2,gp2]
 rw[e4] at h
 have fac:∀{y a:G},E q (gm y y) (gm a a)->E q y a\/E q y (-a.1, -a.2):=fun {y a} k=>by
  have k2:E q (gm (gs y a) (ga y a)) (0,0):=by
   obtain⟨⟨b,hb⟩,⟨c,hc⟩⟩:=k
   simp only[gm] at hb hc
   exact⟨⟨b,by simp only[gm,gs,ga];grind⟩,⟨c,by simp only[gm,gs,ga];grind⟩⟩
  rcases F.dom k2 with⟨⟨b,hb⟩,⟨c,hc⟩⟩|⟨⟨b,hb⟩,⟨c,hc⟩⟩
  ·simp only[gs] at hb hc
   exact .inl ⟨⟨b,by grind⟩,⟨c,by grind⟩⟩
  ·simp only[ga] at hb hc
   exact .inr ⟨⟨b,by grind⟩,⟨c,by grind⟩⟩
 rcases fac (y:=gm x x) (a:=(1,0)) (by rw[eH];exact h) with h|h
 ·rcases fac (y:=x) (a:=(1,0)) (by rw[eH];exact h) with h|h
  ·exact .inl h
  ·exact .inr (.inr (.inl h))
 ·rcases fac (y:=x) (a:=(0,1)) (by rw[show gm (0,1) (0,1)=(-1,0) by decide];exact h) with h|h
  ·exact .inr (.inr (.inr h))
  ·exact .inr (.inl h)
theorem iG.Jt(L:iG q n){x:G}(hx:bP q x)(h:E q (gp x 4) (1,0)):(gw (aM q)).any (fun b=>dm b x)=true:=by
 have q1:=L.F.one
 have bU:0<q:=by exact dW q1
 rw[qY]
 have go:∀{k:Nat} {a:G},E q (gp (wr q) k) a->E q x a->dm (rt q k) x=true:=fun {k a} h1 h2=>(AX (rtI bU k) hx).mpr ((rtE bU k).trans (h1.trans h2.symm))
 simp only[List.any_cons,List.any_nil,Bool.or_false,Bool.or_eq_true]
 rcases L.four h with h|h|h|h
 ·exact .inl (go .rfl h)
 ·exact .inr (.inl (go L.w2 h))
 ·exact .inr (.inr (.inl (go L.w4 h)))
 ·exact .inr (.inr (.inr (go L.w6 h)))
theorem iG.AZ(L:iG q n){x:G}(h:(gw (aM q)).any (fun b=>dm b x)=true):E q (gp x 4) (1,0):=by
 have q1:=L.F.one
 have bU:0<q:=by exact dW q1
 have go:∀j,dm (rt q (2*j)) x=true->E q (gp x 4) (1,0):=fun j k=>by
  rw[<-tH.mp k]
  refine((rtE bU _).pow 4).trans ?_
  rw[<-c9,show 2*j*4=8*j by exact aaf,c9]
  refine(L.w8.pow j).trans ?_
  rw[mj]
  exact .rfl
 rw[qY] at h
 simp only[List.any_cons,List.any_nil,Bool.or_false,Bool.or_eq_true] at h
 rcases h with h|h|h|h
 ·exact go 0 h
 ·exact go 1 h
 ·exact go 2 h
 ·exact go 3 h
theorem iG.place(L:iG q n){x:G}(h:(gw (aM q)).any (fun b=>dm b x)=true):∃j,j<4/\iL (aM q) x/2=j/\E q x (gp (wr q) (2*j)):=by
 have q1:=L.F.one
 have bU:0<q:=by exact dW q1
 obtain⟨hj,he,_⟩:=uC (es:=aM q) (v:=x) rfl h
 have hj8:iL (aM q) x<8:=hj
 have e1:(aM q)[iL (aM q) x]'hj=rt q (iL (aM q) x):=(getD_at hj).symm.trans (EZ hj8)
 have e2:rt q (iL (aM q) x)=x:=e1.symm.trans (tH.mp he)
 generalize iL (aM q) x=i at*
 have hx:E q x (gp (wr q) i):=by rw[<-e2];exact rtE bU i
 have h4:=L.AZ h
 have h5:E q (gp (-1,0) i) (1,0):=by
  refine E.trans ?_ ((hx.pow 4).symm.trans h4)
  rw[qX]
  exact(L.w4.pow i).symm
 have hev:i%2=0:=by
  refine Classical.byContradiction fun k=>?_
  have e3:gp (-1,0) i=(-1,0):=by
   rw[show i=2*(i/2)+1 by exact aag k,iX,c9,show gp (-1,0) 2=(1,0) by decide,mj]
   decide
  rw[e3] at h5
  obtain⟨⟨a,ha⟩,_⟩:=h5
  exact L.F.no2 ⟨-a,by have ha:(-1:Int)-1=q*a:=ha;grind⟩
 exact⟨i/2,by exact Nat.div_lt_of_lt_mul hj8,rfl,by rw[show 2*(i/2)=i by exact aah hev];exact hx⟩
end
theorem E1{q a:Int}(a0:0<=a)(a1:a<q):(-a).fmod q=if a=0 then 0 else q-a:=by
 split
 ·rename_i h;rw[h];exact Int.zero_fmod q
 ·have:(-a).fmod q=(q-a).fmod q:=qV (by exact yR a0 a1) ⟨-1,by grind⟩
  rw[this,Int.fmod_eq_of_lt (by exact AV a1) (by omega)]
theorem E2{q:Int}(h:0<q)(x:G):bP q (bW q x):=⟨Int.fmod_nonneg_of_pos _ h,Int.fmod_lt_of_pos _ h,Int.fmod_nonneg_of_pos _ h,Int.fmod_lt_of_pos _ h⟩
theorem E3{q:Int}(h:0<q)(x:G):E q (gm (bW q x) (bW q x)) (gm x x):=by
 have h1:E q (bW q x) (-x.1, -x.2):=⟨dg h _,dg h _⟩
 refine(h1.mul h1).trans ?_
 exact⟨⟨0,by simp only[gm];grind⟩,⟨0,by simp only[gm];grind⟩⟩
theorem E4{q:Int}{x:G}(hx:bP q x):(bW q x).1=if x.1=0 then 0 else q-x.1:=E1 hx.1 hx.2.1
theorem E5{q:Int}{x:G}(hx:bP q x):(bW q x).2=if x.2=0 then 0 else q-x.2:=E1 hx.2.2.1 hx.2.2.2
theorem gb{q a:Int}(h:q%2=1)(k:¬q-a<a):q<2*(q-a):=by exact aai h k
theorem ga1{q a:Int}(k:q-a<a):q<2*a:=by exact aaj k
theorem gc{q a:Int}(h:q%2=1):a≠q-a:=by exact aak h
theorem great{q:Int}(hq:q%2=1)(h0:0<q){x:G}(hx:bP q x)(h:x≠(0,0)){y:G}(hy:y=if HL x (bW q x) then x else bW q x):bP q y/\E q (gm y y) (gm x x)/\(q<2*y.2\/(y.2=0/\q<2*y.1)):=by
 have hI:=E2 h0 x
 have hE:=E3 h0 x
 have n1:=E4 hx
 have n2:=E5 hx
 have hg:HL x (bW q x)=(decide ((bW q x).2<x.2)||(x.2==(bW q x).2&&decide ((bW q x).1<x.1))):=rfl
 rw[hg] at hy
 generalize bW q x=z at*
 by_cases hb:x.2=0
 ·have ha:x.1≠0:=fun k=>h (gx k hb)
  rw[if_neg ha] at n1
  rw[if_pos hb] at n2
  rw[n1,n2,hb] at hy
  by_cases hl:q-x.1<x.1
  ·rw[if_pos (by rw[decide_eq_true hl];rfl)] at hy
   rw[hy]
   exact⟨hx,.rfl,.inr ⟨hb,ga1 hl⟩⟩
  ·rw[if_neg (by rw[decide_eq_false hl];decide)] at hy
   rw[hy]
   exact⟨hI,hE,.inr ⟨n2,by rw[n1];exact gb hq hl⟩⟩
 ·rw[if_neg hb] at n2
  rw[n2] at hy
  by_cases hl:q-x.2<x.2
  ·rw[if_pos (by rw[decide_eq_true hl];rfl)] at hy
   rw[hy]
   exact⟨hx,.rfl,.inl (ga1 hl)⟩
  ·rw[if_neg (by rw[decide_eq_false hl,beq_false_of_ne (gc hq)];exact Bool.false_ne_true)] at hy
   rw[hy]
   exact⟨hI,hE,.inl (by rw[n2];exact gb hq hl)⟩
section
variable{q:Int}{n:Nat}
theorem iG.lB(L:iG q n){v:G}(hv:bP q v)(h:v≠(0,0))(hm:lA q (aM q) v=none):gz q v=false:=by
 cases hs:gz q v with
 |false=>rfl
 |true=>
  have q1:=L.F.one
  obtain⟨_,hi,h4⟩:=L.E0 hv h
  have ha:=L.Jt hi (h4.trans ((qZ (by exact qR q1)).mp hs))
  rw[oj ha] at hm
  cases hm
theorem iG.odd(L:iG q n):q%2=1:=L.F.odd
theorem iG.mz(L:iG q n){v y:G}(hv:bP q v)(h:v≠(0,0))(hm:lA q (aM q) v=some y):gz q v=true/\bP q y/\E q (gm y y) v/\(q<2*y.2\/(y.2=0/\q<2*y.1)):=by
 have F:=L.F
 have q1:=F.one
 have bU:0<q:=by exact dW q1
 obtain⟨h1,hi,h4⟩:=L.E0 hv h
 cases ha:(gw (aM q)).any (fun b=>dm b (gy q v)) with
 |false=>rw[Mine.lB ha] at hm;cases hm
 |true=>
  rw[oj ha] at hm
  have hs:gz q v=true:=(qZ (by exact qR q1)).mpr (h4.symm.trans (L.AZ ha))
  obtain⟨j,hj,e,hx⟩:=L.place ha
  have hr:ig q (aM q) v=dI q (iM q v) (rt q j):=by unfold ig;rw[e,EZ (by exact Nat.le_trans hj (Nat.le_add_left _ _))]
  have hrI:=rtI bU (q:=q) j
  have hrE:=rtE bU (q:=q) j
  have ae8:¬E q ((1:Int),(0:Int)) (0,0):=fun k=>F.no1 k.1
  have CS:¬E q (rt q j) (0,0):=fun k=>ae8 (by
   have h8:E q (gm (gp (wr q) j) (gp (wr q) (8-j))) (1,0):=by
    rw[<-iX,show j+(8-j)=8 by exact Nat.add_sub_of_le (Nat.le_of_lt (Nat.le_trans hj (Nat.le_add_left _ _)))]
    exact L.w8
   refine h8.symm.trans (((hrE.symm.trans k).mul .rfl).trans ?_)
   exact⟨⟨0,by simp only[gm];grind⟩,⟨0,by simp only[gm];grind⟩⟩)
  have hrn:rt q j≠(0,0):=fun k=>CS (k▸.rfl)
  have hX:=oZ F L.Q (a:=iM q v) hrI hrn
  rw[<-hr] at hX
  have hXI:bP q (ig q (aM q) v):=bP.mul bU _ _
  have hvz:=AY hv h
  generalize ig q (aM q) v=X at*
  have JH:¬E q (gm (rt q j) (rt q j)) (0,0):=fun k=>(F.dom k).elim CS CS
  have hX2:E q (gm X X) v:=by
   refine F.cancel JH ?_
   have e1:gm (gm X X) (gm (rt q j) (rt q j))=gm (gm X (rt q j)) (gm X (rt q j)):=gx (by simp only[gm];grind) (by simp only[gm];grind)
   rw[e1]
   refine(hX.mul hX).trans (h1.trans ?_)
   rw[ko v]
   refine E.mul (hx.trans ?_) .rfl
   rw[Nat.two_mul,iX]
   exact hrE.symm.mul hrE.symm
  have hXn:X≠(0,0):=fun k=>hvz (by
   rw[k] at hX2
   exact hX2.symm.trans (by rw[show gm (0,0) (0,0)=(0,0) by decide];exact .rfl))
  obtain⟨g1,g2,g3⟩:=great L.odd bU hXI hXn (Option.some.inj hm).symm
  exact⟨hs,g1,g2.trans hX2,g3⟩
theorem iG.E6(L:iG q n){v:G}(hv:bP q v)(h:v≠(0,0)):ng q v:=by
 have q1:=L.F.one
 refine⟨fun hm=>L.lB hv h (by rwa[i9 hv] at hm),fun y hm=>?_⟩
 rw[i9 hv] at hm
 obtain⟨_,hy,h2,h3⟩:=L.mz hv h hm
 exact⟨JU (mI (by exact dW q1) _ _) hv ((mE (by exact dW q1) _ _).trans h2),h3⟩
theorem ff.aap(F:ff q n){v:G}(hv:bP q v)(h:v≠(0,0)):aF q v v≠(0,0):=fun k=>by
 have q1:=F.one
 have h1:=mE (show 0<q by exact dW q1) v v
 rw[k] at h1
 exact(F.dom h1.symm).elim (AY hv h) (AY hv h)
end
theorem aaq:nN:=fun p hp v hv h=>by
 obtain⟨n,L⟩:=wc p hp
 have q1:=L.F.one
 exact⟨L.E6 hv h,L.E6 (mI (by exact dW q1) _ _) (L.F.aap hv h)⟩
theorem q1'{q:Int}(h:2<q):1<q:=by exact qR h
theorem aar{q v:Int}(h:q<2*v)(h0:v<q):¬q<2*(q-v):=by exact aal h
theorem A0{q v:Int}(h:q<2*v)(h0:v<q):0<v/\v≠0/\q-v≠0:=by exact aam h h0
theorem aas{q:Int}(hq:q%2=1)(q0:0<q){y:G}(hy:bP q y)(hg:q<2*y.2\/(y.2=0/\q<2*y.1))(b:Bool):bP q (eB q b y)/\E q (gm (eB q b y) (eB q b y)) (gm y y)/\(q<2*(if(eB q b y).2≠0 then(eB q b y).2 else(eB q b y).1)↔b=true):=by
 have d1:=dbl hq hy.1 hy.2.1
 have d2:=dbl hq hy.2.2.1 hy.2.2.2
 cases b with
 |true=>
  have hc:¬((0<y.2/\(y.2*2).fdiv q≠(if true=true then 1 else 0))\/(y.2=0/\(y.1*2).fdiv q≠(if true=true then 1 else 0))):=by
   rw[d1,d2]
   rcases hg with h|⟨h,h'⟩
   ·rw[if_pos h];exact fun k=>k.elim (fun k=>k.2 rfl) fun k=>(A0 h hy.2.2.2).2.1 k.1
   ·rw[if_pos h'];exact fun k=>k.elim (fun k=>absurd (h▸k.1) (Int.lt_irrefl 0)) fun k=>k.2 rfl
  rw[uD hc]
  refine⟨hy,.rfl,⟨fun _=>rfl,fun _=>?_⟩⟩
  rcases hg with h|⟨h,h'⟩
  ·rw[if_pos (A0 h hy.2.2.2).2.1];exact h
  ·rw[if_neg (fun k=>k h)];exact h'
 |false=>
  have hc:(0<y.2/\(y.2*2).fdiv q≠(if false=true then 1 else 0))\/(y.2=0/\(y.1*2).fdiv q≠(if false=true then 1 else 0)):=by
   rw[d1,d2]
   rcases hg with h|⟨h,h'⟩
   ·rw[if_pos h];exact .inl ⟨(A0 h hy.2.2.2).1,by decide⟩
   ·rw[if_pos h'];exact .inr ⟨h,by decide⟩
  rw[qt hc]
  have e:∀a:Int,((a* -1).fmod q).fmod q=(-a).fmod q:=fun a=>by
   rw[Int.mul_neg,Int.mul_one]
   exact qV q0 (dg q0 _)
  have e2:(((n8 q y (-1)).1.fmod q,(n8 q y (-1)).2.fmod q):G)=bW q y:=gx (e _) (e _)
  rw[e2]
  refine⟨E2 q0 y,E3 q0 y,⟨fun h=>?_,fun h=>by cases h⟩⟩
  rw[E4 hy,E5 hy] at h
  rcases hg with k|⟨k,k'⟩
  ·have z:=A0 k hy.2.2.2
   rw[if_neg z.2.1,if_pos z.2.2] at h
   exact absurd h (aar k hy.2.2.2)
  ·have z:=A0 k' hy.2.1
   rw[if_pos k,if_neg (fun j=>j rfl),if_neg z.2.1] at h
   exact absurd h (aar k' hy.2.1)
section
variable{q:Int}{n:Nat}
theorem A2(F:ff q n)(hQ:Qf q){x y s c:G}{t:Int}(hx:bP q x)(hy:bP q y)(hs:bP q s)(hc:bP q c)(sn:s≠(0,0))(xU:E q (gm y y) (ga (gm x (gm x x)) c))(ht:t=4\/t=5)(h:q<2*(if y.2≠0 then y.2 else y.1)↔t=5):
  lC q (aD q (aF q x s)) (aD q (aF q y s)) (aD q s) (aD q c)=some (x.2+t*2 ^ 381,x.1):=by
 have q1:=F.one
 have bU:=(qm q1).1
 have DA:=F.odd
 rw[i9 (mI bU x s),i9 (mI bU y s),i9 hs,i9 hc]
 have hX:=mE bU x s
 have hY:=mE bU y s
 have JV:ly q (aF q x s) (aF q y s) s c=true:=by
  refine(o6 (q1' q1)).mpr (.inr ?_)
  refine(E.sub ((hY.mul hY).mul .rfl) (hX.mul (hX.mul hX))).trans ?_
  have e1:gs (gm (gm (gm y s) (gm y s)) s) (gm (gm x s) (gm (gm x s) (gm x s)))=gm (gs (gm y y) (gm x (gm x x))) (gm s (gm s s)):=gx (by simp only[gm,gs];grind) (by simp only[gm,gs];grind)
  rw[e1]
  exact(tK.mpr xU).mul .rfl
 have dx:dI q (aF q x s) s=x:=vZ F hQ hx hs sn hX.symm
 have dy:dI q (aF q y s) s=y:=vZ F hQ hy hs sn hY.symm
 rw[Cg (by rw[JV];decide) sn,dx,dy]
 have ey:(if 0<y.2 then y.2 else y.1)=if y.2≠0 then y.2 else y.1:=by
  have:=hy.2.2.1
  by_cases k:y.2=0
  ·rw[k,if_neg (Int.lt_irrefl 0),if_neg (fun j=>j rfl)]
  ·rw[if_pos (nn this k),if_pos k]
 rw[ey]
 have hz:0<=(if y.2≠0 then y.2 else y.1)/\(if y.2≠0 then y.2 else y.1)<q:=by
  split
  ·exact⟨hy.2.2.1,hy.2.2.2⟩
  ·exact⟨hy.1,hy.2.1⟩
 generalize (if y.2≠0 then y.2 else y.1)=z at*
 rw[dbl DA hz.1 hz.2,show(2:Int) ^ 383=4*2 ^ 381 by decide +kernel]
 generalize (2:Int) ^ 381=M
 rcases ht with e|e
 ·rw[if_neg (fun k=>absurd (e.symm.trans (h.mp k)) (by decide)),e];congr 2;grind
 ·rw[if_pos (h.mpr e),e];congr 2;grind
noncomputable def dgT(q:Int)(c:G)(x1 x2:Int)(b:Bool)(m:Option G):Option (G×G×G):=match m with
 |none=>none
 |some y=>if ly q (x2.fmod q,x1.fmod q) (eB q b y) (1,0) c=false then none else some ((x2.fmod q,x1.fmod q),eB q b y,(1,0))
theorem pairF(L:iG q n){c s:G}(hc:bP q c)(hs:bP q s)(sn:s≠(0,0)){top x1 x2:Int}(p0:0<=x1)(p1:x1<2 ^ 381)(t0:0<=top)(t1:top<8)(y0:0<=x2)(y1:Sm 1900 x2):zf q c s top x1 x2:=by
 have F:=L.F
 have q1:=F.one
 have bU:=(qm q1).1
 obtain⟨f3,f2,f1,f0⟩:=zd p0 p1 t0
 obtain⟨b4,b2,b1⟩:=bits t0 t1
 rw[b4] at f3
 rw[b1] at f1
 have hS:UU q c x1 x2=cG q (cz q (x2.fmod q,x1.fmod q)) c:=by
  refine JU (aI bU _ _) (aI bU _ _) ((aE bU _ _).trans (E.trans ?_ (aE bU _ _).symm))
  refine E.add ((pE bU 3 _).trans ?_) .rfl
  rw[gp3]
  exact(cE bU _).symm
 have hSE:E q (cG q (cz q (x2.fmod q,x1.fmod q)) c) (ga (gm (x2.fmod q,x1.fmod q) (gm (x2.fmod q,x1.fmod q) (x2.fmod q,x1.fmod q))) c):=(aE bU _ _).trans ((cE bU _).add .rfl)
 have hSI:bP q (cG q (cz q (x2.fmod q,x1.fmod q)) c):=aI bU _ _
 have EY:4<=top->jT q (aM q) (aD q c) (x1+top*2 ^ 381) x2=if decide (6<=top)≠decide (x1=0/\x2=0) then none else
   if x1=0/\x2=0 then(if decide (top=1\/top=3\/top=5\/top=7) then none else some (((1,0),(1,0),(0,0)):G×G×G)) else
   if q<=x1 then none else if q<=x2 then none else
   dgT q c x1 x2 (decide (top=1\/top=3\/top=5\/top=7)) (lA q (aM q) (cG q (cz q (x2.fmod q,x1.fmod q)) c)):=fun h4=>by
  rw[i9 hc]
  unfold jT
  rw[f3,f2,b2 h4,f1,f0,hS,decide_eq_true h4]
  rfl
 have dgN:¬4<=top->jT q (aM q) (aD q c) (x1+top*2 ^ 381) x2=none:=fun h4=>by
  unfold jT
  rw[f3,decide_eq_false h4]
  rfl
 have lows:¬((x1=0/\x2=0)\/¬(top=4\/top=5)\/q<=x1\/q<=x2)->jT q (aM q) (aD q c) (x1+top*2 ^ 381) x2=dgT q c x1 x2 (decide (top=1\/top=3\/top=5\/top=7)) (lA q (aM q) (cG q (cz q (x2.fmod q,x1.fmod q)) c)):=fun hn=>by
  have h1:¬(x1=0/\x2=0):=fun k=>hn (.inl k)
  have ht:top=4\/top=5:=Classical.byContradiction fun k=>hn (.inr (.inl k))
  have h2:¬q<=x1:=fun k=>hn (.inr (.inr (.inl k)))
  have h3:¬q<=x2:=fun k=>hn (.inr (.inr (.inr k)))
  rw[EY (t4 ht),if_neg (by rw[decide_eq_false h1,decide_eq_false (t6 ht)];exact fun k=>k rfl),if_neg h1,if_neg h2,if_neg h3]
 refine⟨p0,p1,t0,t1,y0,y1,fun⟨h1,h2,h3⟩=>?_,fun hn hcd=>?_,fun hn Jp hz=>?_,fun hn Jp hz=>?_⟩
 ·show jT q (aM q) (aD q c) (x1+top*2 ^ 381) x2=_
  rw[h3] at EY⊢
  rw[EY (by decide),if_neg (by rw[decide_eq_true (show x1=0/\x2=0 from⟨h1,h2⟩)];decide),if_pos ⟨h1,h2⟩,if_neg (by decide)]
 ·show jT q (aM q) (aD q c) (x1+top*2 ^ 381) x2=none
  by_cases h4:4<=top
  ·rw[EY h4]
   by_cases hz:x1=0/\x2=0
   ·by_cases h6:6<=top
    ·rw[if_neg (by rw[decide_eq_true hz,decide_eq_true h6];exact fun k=>k rfl),if_pos hz,if_pos (decide_eq_true (t67 h6 t1 fun k=>hn ⟨hz.1,hz.2,k⟩))]
    ·rw[if_pos (by rw[decide_eq_true hz,decide_eq_false h6];decide)]
   ·by_cases h6:6<=top
    ·rw[if_pos (by rw[decide_eq_false hz,decide_eq_true h6];decide)]
    ·rw[if_neg (by rw[decide_eq_false hz,decide_eq_false h6];exact fun k=>k rfl),if_neg hz]
     rcases hcd with h|h|h|h
     ·exact absurd h hz
     ·exact absurd (t45 h4 h6) h
     ·rw[if_pos h]
     ·by_cases h':q<=x1
      ·rw[if_pos h']
      ·rw[if_neg h',if_pos h]
  ·exact dgN h4
 ·show jT q (aM q) (aD q c) (x1+top*2 ^ 381) x2=none
  rw[lows hn]
  cases hm:lA q (aM q) (cG q (cz q (x2.fmod q,x1.fmod q)) c) with
  |none=>rfl
  |some y=>rw[(L.mz hSI hz hm).1] at Jp;cases Jp
 ·have ht:top=4\/top=5:=Classical.byContradiction fun k=>hn (.inr (.inl k))
  have h2:¬q<=x1:=fun k=>hn (.inr (.inr (.inl k)))
  have h3:¬q<=x2:=fun k=>hn (.inr (.inr (.inr k)))
  have ex2:x2.fmod q=x2:=Int.fmod_eq_of_lt y0 (Int.not_le.mp h3)
  have ex1:x1.fmod q=x1:=Int.fmod_eq_of_lt p0 (Int.not_le.mp h2)
  have hl:=lows hn
  cases hm:lA q (aM q) (cG q (cz q (x2.fmod q,x1.fmod q)) c) with
  |none=>rw[L.lB hSI hz hm] at Jp;cases Jp
  |some y=>
   rw[hm] at hl
   obtain⟨_,hy,jz,Fw⟩:=L.mz hSI hz hm
   obtain⟨k1,k2,k3⟩:=aas L.odd bU hy Fw (decide (top=1\/top=3\/top=5\/top=7))
   have hl:jT q (aM q) (aD q c) (x1+top*2 ^ 381) x2=if ly q (x2.fmod q,x1.fmod q) (eB q (decide (top=1\/top=3\/top=5\/top=7)) y) (1,0) c=false then none else some ((x2.fmod q,x1.fmod q),eB q (decide (top=1\/top=3\/top=5\/top=7)) y,(1,0)):=hl
   generalize eB q (decide (top=1\/top=3\/top=5\/top=7)) y=r at*
   have JH:E q (gm r r) (cG q (cz q (x2.fmod q,x1.fmod q)) c):=k2.trans jz
   have xU:=JH.trans hSE
   have JV:ly q (x2.fmod q,x1.fmod q) r (1,0) c=true:=by
    refine(o6 (q1' q1)).mpr (.inr ?_)
    rw[eH,eH,eH,eH]
    exact tK.mpr xU
   have h5:q<2*(if r.2≠0 then r.2 else r.1)↔top=5:=by
    rw[k3,decide_eq_true_eq]
    exact t5 ht
   rw[JV,if_neg (by decide)] at hl
   rw[ex2,ex1] at hl xU
   refine⟨r.1,r.2,hl,JU (mI bU _ _) hSI ((mE bU _ _).trans JH),h5,?_⟩
   exact A2 F L.Q (x:=(x2,x1)) (y:=r) ⟨y0,Int.not_le.mp h3,p0,Int.not_le.mp h2⟩ k1 hs hc sn xU ht h5
end
theorem aat:vN:=fun p hp c s hc _ hs sn g3 g4 g7 h3 h4 h7=>by
 obtain⟨n,L⟩:=wc p hp
 have q1:=L.F.one
 have hb:=mu p (List.mem_of_mem_take hp)
 have a:=mw 381 h4 (show 0<p by exact dW q1) hb
 have e:(2:Int) ^ 381<2 ^ 384:=by decide +kernel
 have b:=mw 384 h7 (show 0<p by exact dW q1) (Int.lt_trans hb e)
 have t:=vY h3
 refine pairF L hc hs sn a.1 a.2 t.1 t.2 b.1 ?_
 refine Sm.mono (i:=384) ?_ (by decide)
 have h2:=b.2
 show(cZ g7 p 384).natAbs<2 ^ 384
 have h3:(((cZ g7 p 384).natAbs:Nat):Int)<((2 ^ 384:Nat):Int):=by
  rw[Int.natAbs_of_nonneg b.1,Int.natCast_pow]
  exact h2
 exact Int.ofNat_lt.mp h3
end N
namespace S
theorem xB{cw:ClaimW}{cl:Str->Option Addr}{aY:ExcName->Option Value}{args:List WData}{aC s':Shared}{tabs:List (Addr×Addr)}(hT:TabsAt tabs aC.heap)(hr:∀x,cw.raises args x=false)(hp:cw.post args (.bool true) args=true)
  (hk:∀b o,(ghostOf aC.heap tabs).get? b=some o->s'.heap.get? b=some o) (hgr:∀q∈tabs,GrownAt q.2 s'.heap) (hos:s'.os=aC.os) (hg:AllBare s'.gens):GoodWG cw cl aY args aC (.ok (.ret (.bool true))) s':=by
 refine⟨.inl ⟨.bool true,.bool true,[],rfl,hr,.bool true,hp,fun _=>⟨.nil,fun a ha=>nomatch ha⟩⟩,⟨fun b o e=>?_,fun b o e=>?_⟩,hos,hg⟩
 ·by_cases hb:b∈tabs.map (·.2)
  ·obtain⟨q,hq,e1⟩:=List.mem_map.mp hb
   have e2:=(hT q hq).2
   obtain⟨ps,hP⟩:=hgr q hq
   have e3:=((hT q hq).1.tab (hT q hq).2).isCodeTable
   rw[e1] at e2 e3 hP
   rw[e] at e2
   rw[Option.some.inj e2] at e⊢
   exact .inr (.inl ⟨e3,rfl,#[],ps,rfl,by rw[Array.empty_append];exact hP⟩)
  ·exact .inl (hk b o (ghost_ne e hb))
 ·by_cases hb:b∈tabs.map (·.2)
  ·obtain⟨q,hq,e1⟩:=List.mem_map.mp hb
   obtain⟨ps,hP⟩:=hgr q hq
   exact⟨_,e1▸hP⟩
  ·exact⟨o,hk b o (ghost_ne e hb)⟩
end S
end Mine
section
set_option Elab.async true
set_option maxHeartbeats 0
open Mine Mine.S
local macro_rules | `(tactic| o_head (kHook $K $as $e)) => `(tactic| o_head (kmHook $K $as $e [277]))
namespace Mine.main
theorem tw10047389527955405517:True:=⟨⟩
theorem tw10092017014551392330:True:=⟨⟩
theorem tw10094358506670053839:True:=⟨⟩
theorem tw10149618387772673413:True:=⟨⟩
theorem tw10159738436595150677:True:=⟨⟩
theorem tw10177057350305019805:True:=⟨⟩
theorem tw10199874654664476236:True:=⟨⟩
theorem tw10231336680788121439:True:=⟨⟩
theorem tw10234815189450012239:True:=⟨⟩
theorem tw1027651156746619712:True:=⟨⟩
theorem tw10298723112805639129:True:=⟨⟩
theorem tw10363585996791799541:True:=⟨⟩
theorem tw10453263994017694363:True:=⟨⟩
theorem tw10455743928339290457:True:=⟨⟩
theorem tw1054321117371714560:True:=⟨⟩
theorem tw10609540516017602915:True:=⟨⟩
theorem tw10625486282989778954:True:=⟨⟩
theorem tw10652611922669240339:True:=⟨⟩
theorem tw10652863235454686790:True:=⟨⟩
theorem tw10663580350406149668:True:=⟨⟩
theorem tw10665089971535097683:True:=⟨⟩
theorem tw10665469846841522134:True:=⟨⟩
theorem tw10669944970481658594:True:=⟨⟩
theorem tw10707853282979444102:True:=⟨⟩
theorem tw10750994468655217958:True:=⟨⟩
theorem tw10821422270917381399:True:=⟨⟩
theorem tw10864377008497418100:True:=⟨⟩
theorem tw10876229203375891673:True:=⟨⟩
theorem tw10876375607700338302:True:=⟨⟩
theorem tw10877679251791092727:True:=⟨⟩
theorem tw10896356407431480244:True:=⟨⟩
theorem tw10924716458440934090:True:=⟨⟩
theorem tw10953687544409504101:True:=⟨⟩
theorem tw1098248734344127483:True:=⟨⟩
theorem tw1099256609624015869:True:=⟨⟩
theorem tw11001617756164336837:True:=⟨⟩
theorem tw11003572833241299968:True:=⟨⟩
theorem tw11020365191643786025:True:=⟨⟩
theorem tw11086099901593105684:True:=⟨⟩
theorem tw11092141859048813250:True:=⟨⟩
theorem tw11101190512080308003:True:=⟨⟩
theorem tw11120327062377616369:True:=⟨⟩
theorem tw11135027115929721415:True:=⟨⟩
theorem tw11156056980113079860:True:=⟨⟩
theorem tw11218778669853930896:True:=⟨⟩
theorem tw11221353774195762014:True:=⟨⟩
theorem tw11239335112260394413:True:=⟨⟩
theorem tw11251407683458634364:True:=⟨⟩
theorem tw11261727412033496967:True:=⟨⟩
theorem tw11273777480241942364:True:=⟨⟩
theorem tw1130211791997205004:True:=⟨⟩
theorem tw11324774475939008221:True:=⟨⟩
theorem tw11349898740250378076:True:=⟨⟩
theorem tw11399646045708457374:True:=⟨⟩
theorem tw11403851563620829512:True:=⟨⟩
theorem tw11409991511011244131:True:=⟨⟩
theorem tw11461230924637031220:True:=⟨⟩
theorem tw11476092923266045095:True:=⟨⟩
theorem tw11501822485730972192:True:=⟨⟩
theorem tw1150287232629052791:True:=⟨⟩
theorem tw11544348965984651327:True:=⟨⟩
theorem tw11554813239044494598:True:=⟨⟩
theorem tw1156462466702112376:True:=⟨⟩
theorem tw1157997071576566072:True:=⟨⟩
theorem tw11646826074482590764:True:=⟨⟩
theorem tw11692516046256081784:True:=⟨⟩
theorem tw11710404883906591787:True:=⟨⟩
theorem tw11712081513822626495:True:=⟨⟩
theorem tw11716418206903941319:True:=⟨⟩
theorem tw11735423636902730196:True:=⟨⟩
theorem tw11752208632293872130:True:=⟨⟩
theorem tw11774690029378154688:True:=⟨⟩
theorem tw11785714552879321826:True:=⟨⟩
theorem tw1178595665728414349:True:=⟨⟩
theorem tw11815829001073249272:True:=⟨⟩
theorem tw11857135199678951331:True:=⟨⟩
theorem tw11982392923317675503:True:=⟨⟩
theorem tw11987853993630220354:True:=⟨⟩
theorem tw12027323910402764344:True:=⟨⟩
theorem tw12093647306153771053:True:=⟨⟩
theorem tw12139096438432415106:True:=⟨⟩
theorem tw12205347405646519318:True:=⟨⟩
theorem tw12222963475772708484:True:=⟨⟩
theorem tw12252054271945606052:True:=⟨⟩
theorem tw12273490649430754879:True:=⟨⟩
theorem tw12277023271486646383:True:=⟨⟩
theorem tw12298629886278197574:True:=⟨⟩
theorem tw12343854547171428336:True:=⟨⟩
theorem tw12361340156312767134:True:=⟨⟩
theorem tw1236483940969888574:True:=⟨⟩
theorem tw1242282695825638017:True:=⟨⟩
theorem tw12431731261707249289:True:=⟨⟩
theorem tw12450111651097656602:True:=⟨⟩
theorem tw12455012482086183272:True:=⟨⟩
theorem tw12483276189755474720:True:=⟨⟩
theorem tw12518504611687188807:True:=⟨⟩
theorem tw1253437644075932092:True:=⟨⟩
theorem tw12543713266681445118:True:=⟨⟩
theorem tw12564604832814323664:True:=⟨⟩
theorem tw12590340796369385619:True:=⟨⟩
theorem tw12608185968620612914:True:=⟨⟩
theorem tw12623159325031504133:True:=⟨⟩
theorem tw12646911602827044314:True:=⟨⟩
theorem tw12675357926760492328:True:=⟨⟩
theorem tw1270039299266317192:True:=⟨⟩
theorem tw12702744160499308131:True:=⟨⟩
theorem tw12747388180105724736:True:=⟨⟩
theorem tw12748397558918655664:True:=⟨⟩
theorem tw12751799325998411230:True:=⟨⟩
theorem tw1277820614484962519:True:=⟨⟩
theorem tw12800608258095302798:True:=⟨⟩
theorem tw12872379398031375081:True:=⟨⟩
theorem tw12885385263037960081:True:=⟨⟩
theorem tw12885673836220544336:True:=⟨⟩
theorem tw1289389943133740499:True:=⟨⟩
theorem tw12900284412222446716:True:=⟨⟩
theorem tw12909650291622432550:True:=⟨⟩
theorem tw12915833801598196605:True:=⟨⟩
theorem tw12922898485456448571:True:=⟨⟩
theorem tw12927740378394474205:True:=⟨⟩
theorem tw12941917028564957548:True:=⟨⟩
theorem tw12992176717851604617:True:=⟨⟩
theorem tw1306636233014830658:True:=⟨⟩
theorem tw13110577991587790113:True:=⟨⟩
theorem tw13113777628852026922:True:=⟨⟩
theorem tw13116522157475607773:True:=⟨⟩
theorem tw13132915859168520264:True:=⟨⟩
theorem tw13154001654789283132:True:=⟨⟩
theorem tw13157206579259725088:True:=⟨⟩
theorem tw13219505800766818778:True:=⟨⟩
theorem tw13224007501803129859:True:=⟨⟩
theorem tw13227692790652741651:True:=⟨⟩
theorem tw13260870731297125680:True:=⟨⟩
theorem tw13270728482189477470:True:=⟨⟩
theorem tw13293747886898857621:True:=⟨⟩
theorem tw13313126695403321540:True:=⟨⟩
theorem tw13350764725976880583:True:=⟨⟩
theorem tw13402765919934010277:True:=⟨⟩
theorem tw13465503431842376007:True:=⟨⟩
theorem tw13503263706703578961:True:=⟨⟩
theorem tw13590572293223372214:True:=⟨⟩
theorem tw13591255225166038476:True:=⟨⟩
theorem tw13626721169425172152:True:=⟨⟩
theorem tw13642826006792871662:True:=⟨⟩
theorem tw13667920496262714385:True:=⟨⟩
theorem tw13693970394777133609:True:=⟨⟩
theorem tw13724616953566380437:True:=⟨⟩
theorem tw1372806426800153423:True:=⟨⟩
theorem tw13777938177461255882:True:=⟨⟩
theorem tw13797323745857372409:True:=⟨⟩
theorem tw13803360072150633466:True:=⟨⟩
theorem tw13876859957761632879:True:=⟨⟩
theorem tw1390771862084280389:True:=⟨⟩
theorem tw13962693860625380366:True:=⟨⟩
theorem tw13974046611088194958:True:=⟨⟩
theorem tw13980345723018547825:True:=⟨⟩
theorem tw13995172100960836882:True:=⟨⟩
theorem tw14027531716089632829:True:=⟨⟩
theorem tw14060465935940456498:True:=⟨⟩
theorem tw14061640607465278742:True:=⟨⟩
theorem tw14064073609400967072:True:=⟨⟩
theorem tw14080665800827857628:True:=⟨⟩
theorem tw14097447854668400296:True:=⟨⟩
theorem tw1409966394225722968:True:=⟨⟩
theorem tw14106445559736802775:True:=⟨⟩
theorem tw14161005256144132680:True:=⟨⟩
theorem tw14168887731352723522:True:=⟨⟩
theorem tw14216407083858561409:True:=⟨⟩
theorem tw14218914174604095658:True:=⟨⟩
theorem tw1429040668314091153:True:=⟨⟩
theorem tw14313897822631088780:True:=⟨⟩
theorem tw14364048958407549093:True:=⟨⟩
theorem tw1439166485080882:True:=⟨⟩
theorem tw14439473939278146460:True:=⟨⟩
theorem tw14457758005677747962:True:=⟨⟩
theorem tw14492832472218066102:True:=⟨⟩
theorem tw14504180641510445567:True:=⟨⟩
theorem tw1453356044741674121:True:=⟨⟩
theorem tw14539993770535171780:True:=⟨⟩
theorem tw1454224541498743561:True:=⟨⟩
theorem tw14562738103837258888:True:=⟨⟩
theorem tw14635473669698735251:True:=⟨⟩
theorem tw14639212616227390028:True:=⟨⟩
theorem tw14646587721710459877:True:=⟨⟩
theorem tw14662554035588321541:True:=⟨⟩
theorem tw14666387041718499266:True:=⟨⟩
theorem tw14672674291997333471:True:=⟨⟩
theorem tw14698033865179964774:True:=⟨⟩
theorem tw1469836325065767749:True:=⟨⟩
theorem tw14722489848711283861:True:=⟨⟩
theorem tw14759895335926876869:True:=⟨⟩
theorem tw14771111431291430275:True:=⟨⟩
theorem tw14788915703135433725:True:=⟨⟩
theorem tw14793117695081215449:True:=⟨⟩
theorem tw14798791472264738832:True:=⟨⟩
theorem tw14907226015203709474:True:=⟨⟩
theorem tw14909365282108701170:True:=⟨⟩
theorem tw1496695287857109588:True:=⟨⟩
theorem tw15017983477296125989:True:=⟨⟩
theorem tw15023316991559800185:True:=⟨⟩
theorem tw1504049600530537962:True:=⟨⟩
theorem tw15060185592220127646:True:=⟨⟩
theorem tw15079240505294077160:True:=⟨⟩
theorem tw15109750227778091905:True:=⟨⟩
theorem tw15131278010643852716:True:=⟨⟩
theorem tw15225127925928830808:True:=⟨⟩
theorem tw15270170921892066516:True:=⟨⟩
theorem tw15277975159832343749:True:=⟨⟩
theorem tw15303317825217679618:True:=⟨⟩
theorem tw15356762974548107741:True:=⟨⟩
theorem tw15365013842991253249:True:=⟨⟩
theorem tw1545906260438175962:True:=⟨⟩
theorem tw15465920861327815835:True:=⟨⟩
theorem tw15467891735981029475:True:=⟨⟩
theorem tw15485851114877660061:True:=⟨⟩
theorem tw15491723280356408159:True:=⟨⟩
theorem tw15510692781650021527:True:=⟨⟩
theorem tw15514936471743626214:True:=⟨⟩
theorem tw15558288988949320067:True:=⟨⟩
theorem tw15580989882048331800:True:=⟨⟩
theorem tw15589450922132767682:True:=⟨⟩
theorem tw15589955886551607785:True:=⟨⟩
theorem tw15595112118272840620:True:=⟨⟩
theorem tw15616401959046598769:True:=⟨⟩
theorem tw15624239662980076321:True:=⟨⟩
theorem tw15643365686152983790:True:=⟨⟩
theorem tw15734200111481486640:True:=⟨⟩
theorem tw15734660467963936456:True:=⟨⟩
theorem tw15737690656516749961:True:=⟨⟩
theorem tw15745814338397921187:True:=⟨⟩
theorem tw15768048840197415361:True:=⟨⟩
theorem tw15803610866087392283:True:=⟨⟩
theorem tw15806524323241146399:True:=⟨⟩
theorem tw1587290215689348708:True:=⟨⟩
theorem tw15928290008803537013:True:=⟨⟩
theorem tw15955573374722617477:True:=⟨⟩
theorem tw15984706205718930553:True:=⟨⟩
theorem tw16008457594558532635:True:=⟨⟩
theorem tw16049902774474827687:True:=⟨⟩
theorem tw16102231251864390963:True:=⟨⟩
theorem tw16136984950599521427:True:=⟨⟩
theorem tw1615045767204293396:True:=⟨⟩
theorem tw16153842264607907944:True:=⟨⟩
theorem tw1615956725737779560:True:=⟨⟩
theorem tw16193401482309157537:True:=⟨⟩
theorem tw16251939892948500945:True:=⟨⟩
theorem tw16305672181175384284:True:=⟨⟩
theorem tw16320215318167395912:True:=⟨⟩
theorem tw1632041292262086317:True:=⟨⟩
theorem tw16356685582667847594:True:=⟨⟩
theorem tw16411370214107742406:True:=⟨⟩
theorem tw16451033083921036709:True:=⟨⟩
theorem tw16452447596832230105:True:=⟨⟩
theorem tw1645717771770832407:True:=⟨⟩
theorem tw16480584520131690045:True:=⟨⟩
theorem tw16519101796099990279:True:=⟨⟩
theorem tw16544489699163171333:True:=⟨⟩
theorem tw16676564476587882173:True:=⟨⟩
theorem tw16689149305811164139:True:=⟨⟩
theorem tw1669084488001426689:True:=⟨⟩
theorem tw1677766988990989824:True:=⟨⟩
theorem tw16778611742570070204:True:=⟨⟩
theorem tw1678875084529416142:True:=⟨⟩
theorem tw16806246253224384389:True:=⟨⟩
theorem tw16819838333489098493:True:=⟨⟩
theorem tw16826212616301561204:True:=⟨⟩
theorem tw16832360635688203351:True:=⟨⟩
theorem tw16922381011570985944:True:=⟨⟩
theorem tw16923884221124529275:True:=⟨⟩
theorem tw16950194794029067938:True:=⟨⟩
theorem tw16952715711813285254:True:=⟨⟩
theorem tw16959884160788844718:True:=⟨⟩
theorem tw16965079339398995527:True:=⟨⟩
theorem tw17052023290607921161:True:=⟨⟩
theorem tw17057053908230417247:True:=⟨⟩
theorem tw17091655785135471103:True:=⟨⟩
theorem tw17118054049896295152:True:=⟨⟩
theorem tw17128291446047057950:True:=⟨⟩
theorem tw17146568849442343683:True:=⟨⟩
theorem tw17147588175821073265:True:=⟨⟩
theorem tw1714950047550659301:True:=⟨⟩
theorem tw17201416709059790184:True:=⟨⟩
theorem tw17223442867436993403:True:=⟨⟩
theorem tw17236958762192778904:True:=⟨⟩
theorem tw17268439761433841065:True:=⟨⟩
theorem tw17272174723667511238:True:=⟨⟩
theorem tw17292155258170135553:True:=⟨⟩
theorem tw17297283025540448806:True:=⟨⟩
theorem tw17298425922696826006:True:=⟨⟩
theorem tw17336282652733537790:True:=⟨⟩
theorem tw17353955331779342651:True:=⟨⟩
theorem tw17403364634526059139:True:=⟨⟩
theorem tw17438294365789470252:True:=⟨⟩
theorem tw17450470499104002142:True:=⟨⟩
theorem tw17453503289922162039:True:=⟨⟩
theorem tw17510229520200029679:True:=⟨⟩
theorem tw17561526911342447988:True:=⟨⟩
theorem tw17644181745481072423:True:=⟨⟩
theorem tw17679725944135375923:True:=⟨⟩
theorem tw17695171507069755227:True:=⟨⟩
theorem tw17708487481403421675:True:=⟨⟩
theorem tw17715262827843222689:True:=⟨⟩
theorem tw17725498274588495791:True:=⟨⟩
theorem tw17767330081159143506:True:=⟨⟩
theorem tw1777545030009416734:True:=⟨⟩
theorem tw17864028415675338326:True:=⟨⟩
theorem tw17871620999419790863:True:=⟨⟩
theorem tw17880189553859617996:True:=⟨⟩
theorem tw17974016328880235120:True:=⟨⟩
theorem tw18031918436515192882:True:=⟨⟩
theorem tw18063282731904131703:True:=⟨⟩
theorem tw18120430973489738927:True:=⟨⟩
theorem tw18134284020713443437:True:=⟨⟩
theorem tw18178676814319149831:True:=⟨⟩
theorem tw18238007617527299592:True:=⟨⟩
theorem tw1826329307503635854:True:=⟨⟩
theorem tw18284262389922463811:True:=⟨⟩
theorem tw18287795668848337631:True:=⟨⟩
theorem tw18302796317244248524:True:=⟨⟩
theorem tw18315214858253571532:True:=⟨⟩
theorem tw18325589031809861271:True:=⟨⟩
theorem tw18332899500509843999:True:=⟨⟩
theorem tw18392154025008590481:True:=⟨⟩
theorem tw18403998269306519403:True:=⟨⟩
theorem tw18421580907717582127:True:=⟨⟩
theorem tw18425317256667529438:True:=⟨⟩
theorem tw1850612553970854742:True:=⟨⟩
theorem tw1886080085820668685:True:=⟨⟩
theorem tw1980160206288974728:True:=⟨⟩
theorem tw2007339730380871907:True:=⟨⟩
theorem tw2019394398466159022:True:=⟨⟩
theorem tw2110754180369666209:True:=⟨⟩
theorem tw2173562974560187446:True:=⟨⟩
theorem tw2190695567426971638:True:=⟨⟩
theorem tw2195194259037543316:True:=⟨⟩
theorem tw221909299271738847:True:=⟨⟩
theorem tw223528310411579522:True:=⟨⟩
theorem tw2238316416991798583:True:=⟨⟩
theorem tw2279707942289718827:True:=⟨⟩
theorem tw2287757881348798766:True:=⟨⟩
theorem tw2341703837736514645:True:=⟨⟩
theorem tw2402762420636078793:True:=⟨⟩
theorem tw2406621943657119228:True:=⟨⟩
theorem tw2433702464844828792:True:=⟨⟩
theorem tw2456247091588846565:True:=⟨⟩
theorem tw2496676261509829067:True:=⟨⟩
theorem tw2524017781993486291:True:=⟨⟩
theorem tw2538046985915079169:True:=⟨⟩
theorem tw2544328076492683441:True:=⟨⟩
theorem tw2566753976717531306:True:=⟨⟩
theorem tw2629084897520917108:True:=⟨⟩
theorem tw2647654807098235363:True:=⟨⟩
theorem tw2702614204127132176:True:=⟨⟩
theorem tw2714283472998740243:True:=⟨⟩
theorem tw2729793432009153956:True:=⟨⟩
theorem tw2821470743931037460:True:=⟨⟩
theorem tw2852251193174398662:True:=⟨⟩
theorem tw2895952525429962455:True:=⟨⟩
theorem tw2900998541784483753:True:=⟨⟩
theorem tw2906824675625879941:True:=⟨⟩
theorem tw2921621734765799159:True:=⟨⟩
theorem tw2921958311620399285:True:=⟨⟩
theorem tw302440914744352476:True:=⟨⟩
theorem tw3027586509356016917:True:=⟨⟩
theorem tw3137596982192898869:True:=⟨⟩
theorem tw3160845607165458772:True:=⟨⟩
theorem tw3234112476842188716:True:=⟨⟩
theorem tw3298483428156984901:True:=⟨⟩
theorem tw3299218664060906527:True:=⟨⟩
theorem tw330327031418712150:True:=⟨⟩
theorem tw3314904115985164895:True:=⟨⟩
theorem tw33456957511925785:True:=⟨⟩
theorem tw3370190323706015969:True:=⟨⟩
theorem tw3394367416137920725:True:=⟨⟩
theorem tw341453280667917650:True:=⟨⟩
theorem tw3454311308915712629:True:=⟨⟩
theorem tw3466206800631347469:True:=⟨⟩
theorem tw3491332818749588091:True:=⟨⟩
theorem tw3549514262204291990:True:=⟨⟩
theorem tw3557749057250611081:True:=⟨⟩
theorem tw3562595001068472590:True:=⟨⟩
theorem tw3583811862363856187:True:=⟨⟩
theorem tw358491910552652209:True:=⟨⟩
theorem tw3613476055612923068:True:=⟨⟩
theorem tw3626430660855392483:True:=⟨⟩
theorem tw365850788961202214:True:=⟨⟩
theorem tw3706830351922483016:True:=⟨⟩
theorem tw3796207824708393856:True:=⟨⟩
theorem tw3848698983108048278:True:=⟨⟩
theorem tw387501639795913443:True:=⟨⟩
theorem tw3905226178654972811:True:=⟨⟩
theorem tw3958507339218470045:True:=⟨⟩
theorem tw3960113756560652017:True:=⟨⟩
theorem tw3994622017586750766:True:=⟨⟩
theorem tw4009796111205994722:True:=⟨⟩
theorem tw4026956272090484662:True:=⟨⟩
theorem tw4038153913678941442:True:=⟨⟩
theorem tw4039676971129161736:True:=⟨⟩
theorem tw4044139247061151142:True:=⟨⟩
theorem tw4126091431370883743:True:=⟨⟩
theorem tw4139100593308808776:True:=⟨⟩
theorem tw4156125974679941130:True:=⟨⟩
theorem tw4189750870438640210:True:=⟨⟩
theorem tw4261964983698606537:True:=⟨⟩
theorem tw4297412468100583042:True:=⟨⟩
theorem tw4324958949535026087:True:=⟨⟩
theorem tw4365514962571936147:True:=⟨⟩
theorem tw4386525302292870143:True:=⟨⟩
theorem tw4452170602077327944:True:=⟨⟩
theorem tw4458048076830672230:True:=⟨⟩
theorem tw4475767826048309731:True:=⟨⟩
theorem tw4490809748136132443:True:=⟨⟩
theorem tw4500915450034043215:True:=⟨⟩
theorem tw451873465583785326:True:=⟨⟩
theorem tw4519675537479396349:True:=⟨⟩
theorem tw452746233719593009:True:=⟨⟩
theorem tw453184122279072053:True:=⟨⟩
theorem tw4573282807186111410:True:=⟨⟩
theorem tw4585930131862741453:True:=⟨⟩
theorem tw4605139254293405059:True:=⟨⟩
theorem tw4637267157515435788:True:=⟨⟩
theorem tw4638281056170512193:True:=⟨⟩
theorem tw4650958065196391918:True:=⟨⟩
theorem tw4651154628705390771:True:=⟨⟩
theorem tw4749052000479324790:True:=⟨⟩
theorem tw4775608329324902142:True:=⟨⟩
theorem tw4812270449578504274:True:=⟨⟩
theorem tw4817600198373253283:True:=⟨⟩
theorem tw4839478117068044826:True:=⟨⟩
theorem tw48596604365144762:True:=⟨⟩
theorem tw4900431672193113347:True:=⟨⟩
theorem tw4946776927847147119:True:=⟨⟩
theorem tw4990475226369331113:True:=⟨⟩
theorem tw5061512775090418087:True:=⟨⟩
theorem tw5084117380071580128:True:=⟨⟩
theorem tw5127751686995613262:True:=⟨⟩
theorem tw5160751907100791332:True:=⟨⟩
theorem tw5181119749688162637:True:=⟨⟩
theorem tw5203219222101121401:True:=⟨⟩
theorem tw52199770228462824:True:=⟨⟩
theorem tw5234446048077146213:True:=⟨⟩
theorem tw5240536507193477226:True:=⟨⟩
theorem tw5243159528196176124:True:=⟨⟩
theorem tw5287059835090251167:True:=⟨⟩
theorem tw5363903885879670357:True:=⟨⟩
theorem tw5378808338967829844:True:=⟨⟩
theorem tw5396188567872606041:True:=⟨⟩
theorem tw5396361742852586263:True:=⟨⟩
theorem tw5400957986263281647:True:=⟨⟩
theorem tw5401703158475992631:True:=⟨⟩
theorem tw5418533224930618480:True:=⟨⟩
theorem tw5436791530062809996:True:=⟨⟩
theorem tw5450094653865882931:True:=⟨⟩
theorem tw5473700226181020891:True:=⟨⟩
theorem tw5517759331935216279:True:=⟨⟩
theorem tw5518243967957118194:True:=⟨⟩
theorem tw5532463470591059822:True:=⟨⟩
theorem tw5571399437266216444:True:=⟨⟩
theorem tw5585478044538960755:True:=⟨⟩
theorem tw5605486342743554106:True:=⟨⟩
theorem tw5609922119721441362:True:=⟨⟩
theorem tw5613160597433933154:True:=⟨⟩
theorem tw5623159541915647742:True:=⟨⟩
theorem tw5638201095994319732:True:=⟨⟩
theorem tw5649967823195072380:True:=⟨⟩
theorem tw5665406974723832613:True:=⟨⟩
theorem tw5665735395497279834:True:=⟨⟩
theorem tw5677329702179833609:True:=⟨⟩
theorem tw5781596087445459943:True:=⟨⟩
theorem tw5790326737455844299:True:=⟨⟩
theorem tw5797031442667253490:True:=⟨⟩
theorem tw5871769198996169552:True:=⟨⟩
theorem tw5921134243170700561:True:=⟨⟩
theorem tw5995161000843957690:True:=⟨⟩
theorem tw6044114016751833949:True:=⟨⟩
theorem tw6053611964639427726:True:=⟨⟩
theorem tw6075091234017535682:True:=⟨⟩
theorem tw6112859857366181021:True:=⟨⟩
theorem tw6161133996638707016:True:=⟨⟩
theorem tw6164561884633627433:True:=⟨⟩
theorem tw6183352029847204284:True:=⟨⟩
theorem tw6222487380544312443:True:=⟨⟩
theorem tw6237627108579964202:True:=⟨⟩
theorem tw6334894449686545209:True:=⟨⟩
theorem tw6361450105264607166:True:=⟨⟩
theorem tw6385024630547198690:True:=⟨⟩
theorem tw6449824600675878752:True:=⟨⟩
theorem tw645136716886899192:True:=⟨⟩
theorem tw6508729118710982530:True:=⟨⟩
theorem tw6511744376749373798:True:=⟨⟩
theorem tw6541472054586571296:True:=⟨⟩
theorem tw6542085627976250192:True:=⟨⟩
theorem tw6545385358150927430:True:=⟨⟩
theorem tw6557543464795787104:True:=⟨⟩
theorem tw6584820252761975732:True:=⟨⟩
theorem tw6596593509180878263:True:=⟨⟩
theorem tw66260789543402106:True:=⟨⟩
theorem tw6635558491612396129:True:=⟨⟩
theorem tw6655696309031964122:True:=⟨⟩
theorem tw6660377722381337597:True:=⟨⟩
theorem tw6663778134991626487:True:=⟨⟩
theorem tw6674386428176565332:True:=⟨⟩
theorem tw6674893403203295414:True:=⟨⟩
theorem tw6690441779611380620:True:=⟨⟩
theorem tw6702130215012162313:True:=⟨⟩
theorem tw6785657489111691699:True:=⟨⟩
theorem tw6788530277367551627:True:=⟨⟩
theorem tw6788695710022549768:True:=⟨⟩
theorem tw6855474311058116810:True:=⟨⟩
theorem tw6862492499505807319:True:=⟨⟩
theorem tw6877560268529008848:True:=⟨⟩
theorem tw6880717277089553138:True:=⟨⟩
theorem tw6886502059237256666:True:=⟨⟩
theorem tw6907636171062424033:True:=⟨⟩
theorem tw6909042917933305093:True:=⟨⟩
theorem tw6910295442248876197:True:=⟨⟩
theorem tw6912675738884088206:True:=⟨⟩
theorem tw6981815665589151136:True:=⟨⟩
theorem tw7074144079889050967:True:=⟨⟩
theorem tw7083192437325867461:True:=⟨⟩
theorem tw7093617532817203218:True:=⟨⟩
theorem tw7113585516715319716:True:=⟨⟩
theorem tw7153082081811710619:True:=⟨⟩
theorem tw716429049611869786:True:=⟨⟩
theorem tw7165207203227711834:True:=⟨⟩
theorem tw7173623326730630234:True:=⟨⟩
theorem tw7186131708394509389:True:=⟨⟩
theorem tw7235775444256392728:True:=⟨⟩
theorem tw7268301785047649679:True:=⟨⟩
theorem tw7273056430967151046:True:=⟨⟩
theorem tw7293298908176781663:True:=⟨⟩
theorem tw7298748307773712898:True:=⟨⟩
theorem tw7308723440029596264:True:=⟨⟩
theorem tw7332330508316399935:True:=⟨⟩
theorem tw7332552209862256014:True:=⟨⟩
theorem tw73751810991705359:True:=⟨⟩
theorem tw7411558596216406370:True:=⟨⟩
theorem tw7439787175107056256:True:=⟨⟩
theorem tw7514964652732493775:True:=⟨⟩
theorem tw7590696779544312186:True:=⟨⟩
theorem tw7647378279178456250:True:=⟨⟩
theorem tw765107192605250810:True:=⟨⟩
theorem tw7691172733374981047:True:=⟨⟩
theorem tw7698036289167662538:True:=⟨⟩
theorem tw7699798408344515789:True:=⟨⟩
theorem tw7742616358663508648:True:=⟨⟩
theorem tw7761410557224570781:True:=⟨⟩
theorem tw7884331609784382070:True:=⟨⟩
theorem tw7904437144335635152:True:=⟨⟩
theorem tw7974275031393228247:True:=⟨⟩
theorem tw8079908401900000222:True:=⟨⟩
theorem tw8127475511531132179:True:=⟨⟩
theorem tw8207831470162742035:True:=⟨⟩
theorem tw8228058824784995430:True:=⟨⟩
theorem tw8260724100714396741:True:=⟨⟩
theorem tw8302014573352188303:True:=⟨⟩
theorem tw832900586485598795:True:=⟨⟩
theorem tw834873547066669988:True:=⟨⟩
theorem tw8436210846270712021:True:=⟨⟩
theorem tw8440099810896429113:True:=⟨⟩
theorem tw8466321980469482115:True:=⟨⟩
theorem tw8467378866343419333:True:=⟨⟩
theorem tw8475525182357872103:True:=⟨⟩
theorem tw8478376212529829071:True:=⟨⟩
theorem tw8484041278411425421:True:=⟨⟩
theorem tw8546124895413445307:True:=⟨⟩
theorem tw8557395850702784662:True:=⟨⟩
theorem tw8627561154394265716:True:=⟨⟩
theorem tw8652556701797213591:True:=⟨⟩
theorem tw8695962584148753250:True:=⟨⟩
theorem tw869908214046079982:True:=⟨⟩
theorem tw8729708805864041840:True:=⟨⟩
theorem tw8748973510418095054:True:=⟨⟩
theorem tw8834365191522931223:True:=⟨⟩
theorem tw8844999433837080629:True:=⟨⟩
theorem tw8905464785575363620:True:=⟨⟩
theorem tw892681787802806017:True:=⟨⟩
theorem tw8930851030842425676:True:=⟨⟩
theorem tw8947760058931562597:True:=⟨⟩
theorem tw9069182735580402390:True:=⟨⟩
theorem tw9121559901702372667:True:=⟨⟩
theorem tw9155575984036265788:True:=⟨⟩
theorem tw917386388269078853:True:=⟨⟩
theorem tw9189880136782149556:True:=⟨⟩
theorem tw9190990891756207365:True:=⟨⟩
theorem tw9253799994812790149:True:=⟨⟩
theorem tw9265829497004654079:True:=⟨⟩
theorem tw9268297945177815525:True:=⟨⟩
theorem tw9360745474812902239:True:=⟨⟩
theorem tw9361300454564663673:True:=⟨⟩
theorem tw9368617206455126095:True:=⟨⟩
theorem tw9369988214560726041:True:=⟨⟩
theorem tw9376575566392132001:True:=⟨⟩
theorem tw9381277316556691805:True:=⟨⟩
theorem tw9392487213469676918:True:=⟨⟩
theorem tw9406782406253462049:True:=⟨⟩
theorem tw9417822746687237092:True:=⟨⟩
theorem tw9470667924834194258:True:=⟨⟩
theorem tw9483120023164983764:True:=⟨⟩
theorem tw9488428017035680116:True:=⟨⟩
theorem tw9498315638749924794:True:=⟨⟩
theorem tw9508770018378322450:True:=⟨⟩
theorem tw9557352009045844224:True:=⟨⟩
theorem tw9561784451562097942:True:=⟨⟩
theorem tw9563168847844234846:True:=⟨⟩
theorem tw9573086628692744296:True:=⟨⟩
theorem tw961187720498965250:True:=⟨⟩
theorem tw962032349192862916:True:=⟨⟩
theorem tw962193829226610041:True:=⟨⟩
theorem tw9656510801202774680:True:=⟨⟩
theorem tw9670510015898674028:True:=⟨⟩
theorem tw9681375758050803366:True:=⟨⟩
theorem tw9682133043923132273:True:=⟨⟩
theorem tw9730157408454304684:True:=⟨⟩
theorem tw979501456738626862:True:=⟨⟩
theorem tw9808303207383738048:True:=⟨⟩
theorem tw9840939614602229412:True:=⟨⟩
theorem tw9848185148710128376:True:=⟨⟩
theorem tw9897820754763898449:True:=⟨⟩
theorem tw9925469786538053656:True:=⟨⟩
theorem tw9957550378297406723:True:=⟨⟩
theorem tw9964214247947446159:True:=⟨⟩
theorem tw9976160756891316704:True:=⟨⟩
theorem tw9994787619460420439:True:=⟨⟩
end Mine.main
theorem Mine.main:PySem.Challenge.rw_lh0036_01.Holds:=by
 w_on
 o_law
 k_head
 (case hw=>w_witness2)
 have hQ:=N.hQ
 have hN:=N.ae3
 have hW:=N.ae5
 have hP:=N.aat
 have hR:=N.aaq
 intro w s₀ aC mg mb G Y fa o pm cd doc dV kV ho hd hcd hD hmg hg args vals as ae9 afa hrd hwl Fq
 have KX:=km_in_of Y
 km_tabs Y
 have X:=(Ground.X G).1
 have V:=(Ground.X G).2
 refine Ground.open G ?_
 intro T B D TE TW
 try (refine guard_noD D (by decide +kernel) ?_;clear D)
 have Ju:TabsAt ([(279,277)]:List (Addr×Addr)) aC.heap:=List.forall_mem_cons.mpr ⟨⟨codeHd_of_K (c:=279) (P:=277) KX (by kernel_rfl),hT8 277 (by simp)⟩,fun _ h=>nomatch h⟩
 clear hmg
 wrow_args ae9 afa hrd hwl Fq
 refine enter_call ?_
 w_top on
 w_call any ho hd hcd hD T F
 clear hd
 rename News _ _ _ _=>N
 rename CellsAre _ _ _=>C
 rename Heap.IsList _ _ _=>hL
 rename IntsAre _ _=>hI
 rename ¬(_:Int)<_=>hlen
 have cO:=ghost_lt Ju F
 have F1:=ghost_fr Ju F
 have N1:=ghost_news Ju F N
 have X1:=ghost_K Ju KX (by kernel_rfl)
 have T1:=ghost_top Ju T
 have L1:=ghost_list Ju hL
 rename_i aq tk ob hc
 have hob:ob.data=.cell (some (.ref _)):=hc
 have F2:Fr (ghostOf aC.heap [(279,277)]) aC.heap.objs.size aq (dB []):=by rw[<-nV];exact F1
 have h7:@LT.lt Nat _ 277 aC.heap.objs.size:=cO (277,tabObj #[]) (.head _)
 refine Dv (base:=ghostOf aC.heap [(279,277)]) hQ hN hW hP hR ?_ rfl X1 T1 F2 h7 N1 hob ⟨_,L1,hI⟩ (by omega) (by rw[hg];exact AllBare.of_eq rfl) fun h' bB aN keep hgr hg'=>xB Ju (fun _=>rfl) ?_ keep (fun q hq=>by rw[List.mem_singleton.mp hq];exact hgr) rfl hg'
 ·kernel_rfl
 ·refine' postW_of ?q1 ?q2 ?q3
  case q1=>o_shape
  case q2=>wtm_val
  case q3=>w_fin
end
theorem PySem.Challenge.cw_lh0036_01_holds : PySem.Challenge.rw_lh0036_01.Holds :=
 Mine.main
