/- The laws' trees as parts of syntax: of the right kinds, as many nodes, as deep, with as many ways. -/
import Derived.Test.YtleolbpibjnedaaGreatQWkA
import Derived.Test.YtleolbpibjnedaaGreatQLsB
import Derived.Test.YtleolbpibjnedaaGreatQBdE
import Derived.Test.YtleolbpibjnedaaGreatQBdF
import Derived.Test.YtleolbpibjnedaaGreatQBdG
import Derived.Test.YtleolbpibjnedaaGreatQBdH
import Derived.Test.YtleolbpibjnedaaGreatQBdI
import Derived.Test.YtleolbpibjnedaaGreatQBdJ
import Derived.Test.YtleolbpibjnedaaGreatQBdK
import Derived.Test.YtleolbpibjnedaaGreatQBdD
set_option linter.unusedSimpArgs false
set_option linter.unusedVariables false
set_option maxRecDepth 100000
set_option maxHeartbeats 4000000
namespace Gc
open Go
def wK:K→Str→Nat
 | .func,_ | .if_,_ | .for_,_ | .range,_ | .case_,_ | .comm,_=>1
 | .bin,t=>if isLogic t=true then 1 else 0
 | _,_=>0
theorem cyc_str(k:K)(t:Str)(i:Int)(kids:N):(N.n k.str t i kids).cyc=wK k t+kids.cyc:=by
 cases k
 case bin =>
  simp only[N.cyc,wK]
  rw[if_neg (by decide)]
  by_cases h:isLogic t=true
  · rw[if_pos ⟨rfl,h⟩,if_pos h]
  · rw[if_neg (fun hh=>h hh.2),if_neg h]
 all_goals first
  | (simp only[N.cyc,wK];rw[if_pos (by decide)])
  | (simp only[N.cyc,wK];rw[if_neg (by decide),if_neg (fun h=>absurd h.1 (by decide))])
theorem co_(t:Str)(i:Int)(kids:N):(N.n kIdent t i kids).cost=1+kids.cost∧(N.n kLit t i kids).cost=1+kids.cost∧(N.n kFuncLit t i kids).cost=1+kids.cost∧(N.n kParen t i kids).cost=1+kids.cost∧(N.n kCall t i kids).cost=1+kids.cost∧(N.n kUn t i kids).cost=1+kids.cost∧(N.n kBin t i kids).cost=1+kids.cost∧(N.n kFuncType t i kids).cost=1+kids.cost∧(N.n kFieldList t i kids).cost=1+kids.cost∧(N.n kExprS t i kids).cost=1+kids.cost∧(N.n kInc t i kids).cost=1+kids.cost∧(N.n kAssign t i kids).cost=1+kids.cost∧(N.n kReturn t i kids).cost=1+kids.cost∧(N.n kBranch t i kids).cost=1+kids.cost∧(N.n kBlock t i kids).cost=1+kids.cost∧(N.n kIf t i kids).cost=1+kids.cost∧(N.n kCase t i kids).cost=1+kids.cost∧(N.n kSwitch t i kids).cost=1+kids.cost∧(N.n kComm t i kids).cost=1+kids.cost∧(N.n kSelect t i kids).cost=1+kids.cost∧(N.n kFor t i kids).cost=1+kids.cost∧(N.n kRange t i kids).cost=1+kids.cost∧(N.n kLabeled t i kids).cost=1+kids.cost∧(N.n kFuncDecl t i kids).cost=1+kids.cost∧(N.n kList t i kids).cost=kids.cost∧(N.n sE t i kids).cost=kids.cost:=⟨cost_real (k:=.ident) trivial _ _ _,cost_real (k:=.lit) trivial _ _ _,cost_real (k:=.flit) trivial _ _ _,cost_real (k:=.paren) trivial _ _ _,cost_real (k:=.call) trivial _ _ _,cost_real (k:=.un) trivial _ _ _,cost_real (k:=.bin) trivial _ _ _,cost_real (k:=.ftype) trivial _ _ _,cost_real (k:=.flist) trivial _ _ _,cost_real (k:=.exprS) trivial _ _ _,cost_real (k:=.inc) trivial _ _ _,cost_real (k:=.assign) trivial _ _ _,cost_real (k:=.ret) trivial _ _ _,cost_real (k:=.branch) trivial _ _ _,cost_real (k:=.block) trivial _ _ _,cost_real (k:=.if_) trivial _ _ _,cost_real (k:=.case_) trivial _ _ _,cost_real (k:=.switch) trivial _ _ _,cost_real (k:=.comm) trivial _ _ _,cost_real (k:=.select) trivial _ _ _,cost_real (k:=.for_) trivial _ _ _,cost_real (k:=.range) trivial _ _ _,cost_real (k:=.labeled) trivial _ _ _,cost_real (k:=.func) trivial _ _ _,by simp only[N.cost];rw[if_pos (by decide)];omega,by simp only[N.cost];rw[if_pos (by decide)];omega⟩
theorem de_(t:Str)(i:Int)(kids:N):(N.n kIdent t i kids).deep=1+kids.deep∧(N.n kLit t i kids).deep=1+kids.deep∧(N.n kFuncLit t i kids).deep=1+kids.deep∧(N.n kParen t i kids).deep=1+kids.deep∧(N.n kCall t i kids).deep=1+kids.deep∧(N.n kUn t i kids).deep=1+kids.deep∧(N.n kBin t i kids).deep=1+kids.deep∧(N.n kFuncType t i kids).deep=1+kids.deep∧(N.n kFieldList t i kids).deep=1+kids.deep∧(N.n kExprS t i kids).deep=1+kids.deep∧(N.n kInc t i kids).deep=1+kids.deep∧(N.n kAssign t i kids).deep=1+kids.deep∧(N.n kReturn t i kids).deep=1+kids.deep∧(N.n kBranch t i kids).deep=1+kids.deep∧(N.n kBlock t i kids).deep=1+kids.deep∧(N.n kIf t i kids).deep=1+kids.deep∧(N.n kCase t i kids).deep=1+kids.deep∧(N.n kSwitch t i kids).deep=1+kids.deep∧(N.n kComm t i kids).deep=1+kids.deep∧(N.n kSelect t i kids).deep=1+kids.deep∧(N.n kFor t i kids).deep=1+kids.deep∧(N.n kRange t i kids).deep=1+kids.deep∧(N.n kLabeled t i kids).deep=1+kids.deep∧(N.n kFuncDecl t i kids).deep=1+kids.deep∧(N.n kList t i kids).deep=kids.deep∧(N.n sE t i kids).deep=kids.deep:=⟨deep_real (k:=.ident) trivial _ _ _,deep_real (k:=.lit) trivial _ _ _,deep_real (k:=.flit) trivial _ _ _,deep_real (k:=.paren) trivial _ _ _,deep_real (k:=.call) trivial _ _ _,deep_real (k:=.un) trivial _ _ _,deep_real (k:=.bin) trivial _ _ _,deep_real (k:=.ftype) trivial _ _ _,deep_real (k:=.flist) trivial _ _ _,deep_real (k:=.exprS) trivial _ _ _,deep_real (k:=.inc) trivial _ _ _,deep_real (k:=.assign) trivial _ _ _,deep_real (k:=.ret) trivial _ _ _,deep_real (k:=.branch) trivial _ _ _,deep_real (k:=.block) trivial _ _ _,deep_real (k:=.if_) trivial _ _ _,deep_real (k:=.case_) trivial _ _ _,deep_real (k:=.switch) trivial _ _ _,deep_real (k:=.comm) trivial _ _ _,deep_real (k:=.select) trivial _ _ _,deep_real (k:=.for_) trivial _ _ _,deep_real (k:=.range) trivial _ _ _,deep_real (k:=.labeled) trivial _ _ _,deep_real (k:=.func) trivial _ _ _,by simp only[N.deep];rw[if_pos (by decide)];omega,by simp only[N.deep];rw[if_pos (by decide)];omega⟩
theorem cy_(t:Str)(i:Int)(kids:N):(N.n kIdent t i kids).cyc=wK .ident t+kids.cyc∧(N.n kLit t i kids).cyc=wK .lit t+kids.cyc∧(N.n kFuncLit t i kids).cyc=wK .flit t+kids.cyc∧(N.n kParen t i kids).cyc=wK .paren t+kids.cyc∧(N.n kCall t i kids).cyc=wK .call t+kids.cyc∧(N.n kUn t i kids).cyc=wK .un t+kids.cyc∧(N.n kBin t i kids).cyc=wK .bin t+kids.cyc∧(N.n kFuncType t i kids).cyc=wK .ftype t+kids.cyc∧(N.n kFieldList t i kids).cyc=wK .flist t+kids.cyc∧(N.n kExprS t i kids).cyc=wK .exprS t+kids.cyc∧(N.n kInc t i kids).cyc=wK .inc t+kids.cyc∧(N.n kAssign t i kids).cyc=wK .assign t+kids.cyc∧(N.n kReturn t i kids).cyc=wK .ret t+kids.cyc∧(N.n kBranch t i kids).cyc=wK .branch t+kids.cyc∧(N.n kBlock t i kids).cyc=wK .block t+kids.cyc∧(N.n kIf t i kids).cyc=wK .if_ t+kids.cyc∧(N.n kCase t i kids).cyc=wK .case_ t+kids.cyc∧(N.n kSwitch t i kids).cyc=wK .switch t+kids.cyc∧(N.n kComm t i kids).cyc=wK .comm t+kids.cyc∧(N.n kSelect t i kids).cyc=wK .select t+kids.cyc∧(N.n kFor t i kids).cyc=wK .for_ t+kids.cyc∧(N.n kRange t i kids).cyc=wK .range t+kids.cyc∧(N.n kLabeled t i kids).cyc=wK .labeled t+kids.cyc∧(N.n kFuncDecl t i kids).cyc=wK .func t+kids.cyc∧(N.n kList t i kids).cyc=kids.cyc∧(N.n sE t i kids).cyc=kids.cyc:=⟨cyc_str .ident _ _ _,cyc_str .lit _ _ _,cyc_str .flit _ _ _,cyc_str .paren _ _ _,cyc_str .call _ _ _,cyc_str .un _ _ _,cyc_str .bin _ _ _,cyc_str .ftype _ _ _,cyc_str .flist _ _ _,cyc_str .exprS _ _ _,cyc_str .inc _ _ _,cyc_str .assign _ _ _,cyc_str .ret _ _ _,cyc_str .branch _ _ _,cyc_str .block _ _ _,cyc_str .if_ _ _ _,cyc_str .case_ _ _ _,cyc_str .switch _ _ _,cyc_str .comm _ _ _,cyc_str .select _ _ _,cyc_str .for_ _ _ _,cyc_str .range _ _ _,cyc_str .labeled _ _ _,cyc_str .func _ _ _,by rw[show(N.n kList t i kids).cyc=wK .list t+kids.cyc from cyc_str .list _ _ _];simp[wK],by rw[show(N.n sE t i kids).cyc=wK .none t+kids.cyc from cyc_str .none _ _ _];simp[wK]⟩
theorem nU:(∀ k l,N.part k l=.n k sE 0 l)∧(∀ l,N.list l=.part kList l)∧(∀ l,N.block l=.part kBlock (.one (.list l)))∧(∀ x,N.one x=.cons x .nil)∧(∀ x y,N.two x y=.cons x (.cons y .nil))∧(∀ x y z,N.three x y z=.cons x (.cons y (.cons z .nil)))∧(∀ x y z u,N.four x y z u=.cons x (.cons y (.cons z (.cons u .nil))))∧(∀ s i,N.name s i=.n kIdent s i .nil)∧N.none=.n sE sE 0 .nil∧N.ftype=.part kFuncType (.three .none (.part kFieldList (.one .none)) .none) :=
 ⟨fun _ _=>rfl,fun _=>rfl,fun _=>rfl,fun _=>rfl,fun _ _=>rfl,fun _ _ _=>rfl,fun _ _ _ _=>rfl,fun _ _=>rfl,rfl,rfl⟩
theorem co_nil:N.nil.cost=0:=rfl
theorem de_nil:N.nil.deep=0:=rfl
theorem cy_nil:N.nil.cyc=0:=rfl
theorem co_cons(a b:N):(N.cons a b).cost=a.cost+b.cost:=rfl
theorem de_cons(a b:N):(N.cons a b).deep=max a.deep b.deep:=rfl
theorem cy_cons(a b:N):(N.cons a b).cyc=a.cyc+b.cyc:=rfl
def M3(n:N)(a b c:Nat):Prop:=n.cost≤a∧n.deep≤b∧n.cyc=c
def GoodV(o:So)(t:T):Prop :=
 WV o t∧match o with
 | .Cs=>∀ m,(t.N (m+1)).cost≤t.cost+4*t.len∧(m%2=0→(t.N (m+1)).deep≤1+max 1 t.deep)∧(t.N (m+1)).deep≤1+max 3 t.deep∧(t.N (m+1)).cyc=t.cyc+t.len
 | _=>(t.N 0).cost≤t.cost∧(t.N 0).deep≤t.deep∧(t.N 0).cyc=t.cyc
theorem logic_eq(op:Str):logic op=isLogic op:=by unfold logic isLogic;rw[Go.ByteArray.toList_eq]
end Gc
namespace Go.Proofs.YtleolbpibjnedaaGreat
open Go Go.RowKit Gc
theorem lab_ne'(k:Nat):¬ lab k=ByteArray.empty:=fun e=>lab_ne k (by rw[e];rfl)
theorem br_no(op:Str):(T.s 8 0 op sE (.x 0 0 sE .nil .nil) .nil .nil false false .nil).N 0=.n kBranch op 0 (.one .none):=by simp[T.N,sE]
theorem br_to(op:Str)(k:Nat):(T.s 8 0 op (lab k) (.x 0 0 sE .nil .nil) .nil .nil false false .nil).N 0=.n kBranch op 0 (.one (.label (lab k))):=by simp only[T.N];simp[lab_ne',lab_ne]
theorem lab_le(k:Nat)(hk:k≤1000):labNum (lab k)≤10000:=by
 have h1:=pf_all k
 have h2:=pf_lt k (dec k).length (Nat.le_refl _)
 have h3:=dec_len 3 k (by omega)
 have h4:10 ^ (dec k).length≤10 ^ 4:=Nat.pow_le_pow_right (by omega) h3
 rw[← h1]
 omega
theorem V_lab(k:Nat)(hk:k≤1000):V (.k .ident) (.label (lab k)):=.ident _ _ (by have:=lab_le k hk;omega) (by have:=lab_le k hk;omega)
theorem good_V{fl:Bool}{o:So}{t:T}(h:W fl o t):GoodV o t:=by
 induction h with
 | num =>
   refine⟨⟨.lit,trivial,.lit _⟩,?_⟩
   simp[T.N,nU,N.var,N.lit,N.label,co_nil,de_nil,cy_nil,co_cons,de_cons,cy_cons,T.cost,T.deep,T.cyc,T.len,wK,co_,de_,cy_]
   try (refine⟨?_,?_,?_⟩<;>omega)
 | var n h =>
   refine⟨⟨.ident,trivial,V_var n h⟩,?_⟩
   simp[T.N,nU,N.var,N.lit,N.label,co_nil,de_nil,cy_nil,co_cons,de_cons,cy_cons,T.cost,T.deep,T.cyc,T.len,wK,co_,de_,cy_]
   try (refine⟨?_,?_,?_⟩<;>omega)
 | bin op a b h ha hb hx hy ih1 ih2 =>
   obtain⟨⟨k1,e1,v1⟩,c1,d1,y1⟩:=ih1
   obtain⟨⟨k2,e2,v2⟩,c2,d2,y2⟩:=ih2
   refine⟨⟨.bin,trivial,.bin op h k1 k2 _ _ e1 e2 v1 v2⟩,?_⟩
   simp[logic_eq,T.N,nU,N.var,N.lit,N.label,co_nil,de_nil,cy_nil,co_cons,de_cons,cy_cons,T.cost,T.deep,T.cyc,T.len,wK,co_,de_,cy_]
   refine⟨?_,?_,?_⟩<;>omega
 | not a ha ih1 =>
   obtain⟨⟨k1,e1,v1⟩,c1,d1,y1⟩:=ih1
   refine⟨⟨.un,trivial,.un _ (.inl rfl) k1 _ e1 v1⟩,?_⟩
   simp[T.N,nU,N.var,N.lit,N.label,co_nil,de_nil,cy_nil,co_cons,de_cons,cy_cons,T.cost,T.deep,T.cyc,T.len,wK,co_,de_,cy_]
   try (refine⟨?_,?_,?_⟩<;>omega)
 | par a ha ih1 =>
   obtain⟨⟨k1,e1,v1⟩,c1,d1,y1⟩:=ih1
   refine⟨⟨.paren,trivial,.paren k1 _ e1 v1⟩,?_⟩
   simp[T.N,nU,N.var,N.lit,N.label,co_nil,de_nil,cy_nil,co_cons,de_cons,cy_cons,T.cost,T.deep,T.cyc,T.len,wK,co_,de_,cy_]
   try (refine⟨?_,?_,?_⟩<;>omega)
 | call f args h ha ih1 =>
   obtain⟨v1,c1,d1,y1⟩:=ih1
   refine⟨⟨.call,trivial,.call f _ h v1⟩,?_⟩
   simp[T.N,nU,N.var,N.lit,N.label,co_nil,de_nil,cy_nil,co_cons,de_cons,cy_cons,T.cost,T.deep,T.cyc,T.len,wK,co_,de_,cy_]
   try (refine⟨?_,?_,?_⟩<;>omega)
 | lit body h hb ih1 =>
   obtain⟨v1,c1,d1,y1⟩:=ih1
   refine⟨⟨.flit,trivial,.flit _ v1⟩,?_⟩
   simp[T.N,nU,N.var,N.lit,N.label,co_nil,de_nil,cy_nil,co_cons,de_cons,cy_cons,T.cost,T.deep,T.cyc,T.len,wK,co_,de_,cy_]
   try (refine⟨?_,?_,?_⟩<;>omega)
 | enil =>
   refine⟨.enil,?_⟩
   simp[T.N,nU,N.var,N.lit,N.label,co_nil,de_nil,cy_nil,co_cons,de_cons,cy_cons,T.cost,T.deep,T.cyc,T.len,wK,co_,de_,cy_]
   try (refine⟨?_,?_,?_⟩<;>omega)
 | econs a t ha ht ih1 ih2 =>
   obtain⟨⟨k1,e1,v1⟩,c1,d1,y1⟩:=ih1
   obtain⟨v2,c2,d2,y2⟩:=ih2
   refine⟨.econs k1 _ _ e1 v1 v2,?_⟩
   simp[T.N,nU,N.var,N.lit,N.label,co_nil,de_nil,cy_nil,co_cons,de_cons,cy_cons,T.cost,T.deep,T.cyc,T.len,wK,co_,de_,cy_]
   try (refine⟨?_,?_,?_⟩<;>omega)
 | expr f args h ha ih1 =>
   obtain⟨v1,c1,d1,y1⟩:=ih1
   refine⟨⟨.exprS,trivial,.exprS .call _ trivial (.call f _ h v1)⟩,?_⟩
   simp[T.N,nU,N.var,N.lit,N.label,co_nil,de_nil,cy_nil,co_cons,de_cons,cy_cons,T.cost,T.deep,T.cyc,T.len,wK,co_,de_,cy_]
   try (refine⟨?_,?_,?_⟩<;>omega)
 | assign n op a hn h ha ih1 =>
   obtain⟨⟨k1,e1,v1⟩,c1,d1,y1⟩:=ih1
   refine⟨⟨.assign,trivial,.assign _ (by rcases h with rfl | rfl;exact .inl rfl;exact .inr rfl) _ _ (.econs .ident _ _ trivial (V_var n hn) .enil) (.econs k1 _ _ e1 v1 .enil)⟩,?_⟩
   simp[T.N,nU,N.var,N.lit,N.label,co_nil,de_nil,cy_nil,co_cons,de_cons,cy_cons,T.cost,T.deep,T.cyc,T.len,wK,co_,de_,cy_]
   try (refine⟨?_,?_,?_⟩<;>omega)
 | count n op hn h =>
   refine⟨⟨.inc,trivial,.inc op h .ident _ trivial (V_var n hn)⟩,?_⟩
   simp[T.N,nU,N.var,N.lit,N.label,co_nil,de_nil,cy_nil,co_cons,de_cons,cy_cons,T.cost,T.deep,T.cyc,T.len,wK,co_,de_,cy_]
   try (refine⟨?_,?_,?_⟩<;>omega)
 | ifNo a body ha hb ih1 ih2 =>
   obtain⟨⟨k1,e1,v1⟩,c1,d1,y1⟩:=ih1
   obtain⟨v2,c2,d2,y2⟩:=ih2
   refine⟨⟨.if_,trivial,.ifNo k1 _ _ e1 v1 v2⟩,?_⟩
   simp[T.N,nU,N.var,N.lit,N.label,co_nil,de_nil,cy_nil,co_cons,de_cons,cy_cons,T.cost,T.deep,T.cyc,T.len,wK,co_,de_,cy_]
   try (refine⟨?_,?_,?_⟩<;>omega)
 | ifElse a body els ha hb he ih1 ih2 ih3 =>
   obtain⟨⟨k1,e1,v1⟩,c1,d1,y1⟩:=ih1
   obtain⟨v2,c2,d2,y2⟩:=ih2
   obtain⟨v3,c3,d3,y3⟩:=ih3
   refine⟨⟨.if_,trivial,.ifElse k1 .block _ _ _ e1 trivial v1 v2 (.block _ v3)⟩,?_⟩
   simp[T.N,nU,N.var,N.lit,N.label,co_nil,de_nil,cy_nil,co_cons,de_cons,cy_cons,T.cost,T.deep,T.cyc,T.len,wK,co_,de_,cy_]
   try (refine⟨?_,?_,?_⟩<;>omega)
 | ifChain a body a' body' els' has' chain' ha hb he ih1 ih2 ih3 =>
   obtain⟨⟨k1,e1,v1⟩,c1,d1,y1⟩:=ih1
   obtain⟨v2,c2,d2,y2⟩:=ih2
   obtain⟨⟨k3,e3,v3⟩,c3,d3,y3⟩:=ih3
   have hd3:=he
   generalize T.s 3 0 sE sE a' body' els' has' chain' .nil=inner at *
   refine⟨⟨.if_,trivial,.ifElse k1 k3 _ _ _ e1 e3 v1 v2 v3⟩,?_⟩
   simp[Gc.N.first,T.N,nU,N.var,N.lit,N.label,co_nil,de_nil,cy_nil,co_cons,de_cons,cy_cons,T.cost,T.deep,T.cyc,T.len,wK,co_,de_,cy_]
   try (refine⟨?_,?_,?_⟩<;>omega)
 | for_ a body ha hb ih1 ih2 =>
   obtain⟨⟨k1,e1,v1⟩,c1,d1,y1⟩:=ih1
   obtain⟨v2,c2,d2,y2⟩:=ih2
   refine⟨⟨.for_,trivial,.for_ k1 _ _ e1 v1 v2⟩,?_⟩
   simp[T.N,nU,N.var,N.lit,N.label,co_nil,de_nil,cy_nil,co_cons,de_cons,cy_cons,T.cost,T.deep,T.cyc,T.len,wK,co_,de_,cy_]
   try (refine⟨?_,?_,?_⟩<;>omega)
 | range a body ha hb ih1 ih2 =>
   obtain⟨⟨k1,e1,v1⟩,c1,d1,y1⟩:=ih1
   obtain⟨v2,c2,d2,y2⟩:=ih2
   refine⟨⟨.range,trivial,.range k1 _ _ e1 v1 v2⟩,?_⟩
   simp[T.N,nU,N.var,N.lit,N.label,co_nil,de_nil,cy_nil,co_cons,de_cons,cy_cons,T.cost,T.deep,T.cyc,T.len,wK,co_,de_,cy_]
   try (refine⟨?_,?_,?_⟩<;>omega)
 | switch a cases ha hcs h ih1 ih2 =>
   obtain⟨⟨k1,e1,v1⟩,c1,d1,y1⟩:=ih1
   obtain⟨v2,z2⟩:=ih2
   obtain⟨c2,d2,d2',y2⟩:=z2 0
   have d2:=d2 rfl
   have c2:(cases.N 1).cost≤_:=c2
   have d2:(cases.N 1).deep≤_:=d2
   have y2:(cases.N 1).cyc=_:=y2
   refine⟨⟨.switch,trivial,.switch k1 _ _ e1 v1 ((v2 0).1 rfl)⟩,?_⟩
   simp[T.N,nU,N.var,N.lit,N.label,co_nil,de_nil,cy_nil,co_cons,de_cons,cy_cons,T.cost,T.deep,T.cyc,T.len,wK,co_,de_,cy_]
   try (refine⟨?_,?_,?_⟩<;>omega)
 | select cases hf hcs h ih2 =>
   obtain⟨v2,z2⟩:=ih2
   obtain⟨c2,d2',d2,y2⟩:=z2 1
   have c2:(cases.N 2).cost≤_:=c2
   have d2:(cases.N 2).deep≤_:=d2
   have y2:(cases.N 2).cyc=_:=y2
   refine⟨⟨.select,trivial,.select _ ((v2 1).2 rfl)⟩,?_⟩
   simp[T.N,nU,N.var,N.lit,N.label,co_nil,de_nil,cy_nil,co_cons,de_cons,cy_cons,T.cost,T.deep,T.cyc,T.len,wK,co_,de_,cy_]
   try (refine⟨?_,?_,?_⟩<;>omega)
 | branch op h =>
   refine⟨⟨.branch,trivial,br_no op▸.branch op h⟩,?_⟩
   show((T.s 8 0 op sE (.x 0 0 sE .nil .nil) .nil .nil false false .nil).N 0).cost≤_∧((T.s 8 0 op sE (.x 0 0 sE .nil .nil) .nil .nil false false .nil).N 0).deep≤_∧((T.s 8 0 op sE (.x 0 0 sE .nil .nil) .nil .nil false false .nil).N 0).cyc=_
   rw[br_no]
   simp[T.N,nU,N.var,N.lit,N.label,co_nil,de_nil,cy_nil,co_cons,de_cons,cy_cons,T.cost,T.deep,T.cyc,T.len,wK,co_,de_,cy_]
 | branchTo op k h hk =>
   refine⟨⟨.branch,trivial,br_to op k▸.branchTo op h _ (V_lab k hk)⟩,?_⟩
   show((T.s 8 0 op (lab k) (.x 0 0 sE .nil .nil) .nil .nil false false .nil).N 0).cost≤_∧((T.s 8 0 op (lab k) (.x 0 0 sE .nil .nil) .nil .nil false false .nil).N 0).deep≤_∧((T.s 8 0 op (lab k) (.x 0 0 sE .nil .nil) .nil .nil false false .nil).N 0).cyc=_
   rw[br_to]
   simp[T.N,nU,N.var,N.lit,N.label,co_nil,de_nil,cy_nil,co_cons,de_cons,cy_cons,T.cost,T.deep,T.cyc,T.len,wK,co_,de_,cy_]
 | ret a ha ih1 =>
   obtain⟨⟨k1,e1,v1⟩,c1,d1,y1⟩:=ih1
   refine⟨⟨.ret,trivial,.ret _ (.econs k1 _ _ e1 v1 .enil)⟩,?_⟩
   simp[T.N,nU,N.var,N.lit,N.label,co_nil,de_nil,cy_nil,co_cons,de_cons,cy_cons,T.cost,T.deep,T.cyc,T.len,wK,co_,de_,cy_]
   try (refine⟨?_,?_,?_⟩<;>omega)
 | block body hb ih1 =>
   obtain⟨v1,c1,d1,y1⟩:=ih1
   refine⟨⟨.block,trivial,.block _ v1⟩,?_⟩
   simp[T.N,nU,N.var,N.lit,N.label,co_nil,de_nil,cy_nil,co_cons,de_cons,cy_cons,T.cost,T.deep,T.cyc,T.len,wK,co_,de_,cy_]
   try (refine⟨?_,?_,?_⟩<;>omega)
 | labelled k kind a body hk h ha hb ih1 ih2 =>
   obtain⟨⟨k1,e1,v1⟩,c1,d1,y1⟩:=ih1
   obtain⟨v2,c2,d2,y2⟩:=ih2
   rcases h with rfl|rfl
   · refine⟨⟨.labeled,trivial,.labeled _ .for_ _ trivial (V_lab k hk) (.for_ k1 _ _ e1 v1 v2)⟩,?_⟩
     simp[Gc.N.first,T.N,nU,N.var,N.lit,N.label,co_nil,de_nil,cy_nil,co_cons,de_cons,cy_cons,T.cost,T.deep,T.cyc,T.len,wK,co_,de_,cy_]
     all_goals omega
   · refine⟨⟨.labeled,trivial,.labeled _ .range _ trivial (V_lab k hk) (.range k1 _ _ e1 v1 v2)⟩,?_⟩
     simp[Gc.N.first,T.N,nU,N.var,N.lit,N.label,co_nil,de_nil,cy_nil,co_cons,de_cons,cy_cons,T.cost,T.deep,T.cyc,T.len,wK,co_,de_,cy_]
     all_goals omega
 | snil =>
   refine⟨.snil,?_⟩
   simp[T.N,nU,N.var,N.lit,N.label,co_nil,de_nil,cy_nil,co_cons,de_cons,cy_cons,T.cost,T.deep,T.cyc,T.len,wK,co_,de_,cy_]
   try (refine⟨?_,?_,?_⟩<;>omega)
 | scons a t ha ht ih1 ih2 =>
   obtain⟨⟨k1,e1,v1⟩,c1,d1,y1⟩:=ih1
   obtain⟨v2,c2,d2,y2⟩:=ih2
   refine⟨.scons k1 _ _ e1 v1 v2,?_⟩
   simp[T.N,nU,N.var,N.lit,N.label,co_nil,de_nil,cy_nil,co_cons,de_cons,cy_cons,T.cost,T.deep,T.cyc,T.len,wK,co_,de_,cy_]
   try (refine⟨?_,?_,?_⟩<;>omega)
 | cnil =>
   refine⟨fun m=>⟨fun _=>.cnil,fun _=>.mnil⟩,?_⟩
   intro m
   simp[T.N,nU,N.var,N.lit,N.label,co_nil,de_nil,cy_nil,co_cons,de_cons,cy_cons,T.cost,T.deep,T.cyc,T.len,wK,co_,de_,cy_]
 | ccons a t ha ht ih1 ih2 =>
   obtain⟨v1,c1,d1,y1⟩:=ih1
   obtain⟨v2,z2⟩:=ih2
   refine⟨fun m=>⟨fun h=>.ccons _ _ ((V_clause v1).1 h) ((v2 (m+2)).1 (by omega)),fun h=>.mcons _ _ ((V_clause v1).2 h) ((v2 (m+2)).2 (by omega))⟩,?_⟩
   intro m
   obtain⟨c2,d2,d2',y2⟩:=z2 (m+2)
   change (t.N (m+3)).cost≤_ at c2
   change _→(t.N (m+3)).deep≤_ at d2
   change (t.N (m+3)).deep≤_ at d2'
   change (t.N (m+3)).cyc=_ at y2
   have e:(T.cons a t).N (m+1)=.cons (.clause m t.isNil (a.N 0)) (t.N (m+3)):=rfl
   rw[e]
   by_cases hm:m%2=0
   · have d2:=d2 (by omega)
     simp only[Gc.N.clause,hm,if_true]
     cases t.isNil<;>simp[hm,T.N,nU,N.var,N.lit,N.label,co_nil,de_nil,cy_nil,co_cons,de_cons,cy_cons,T.cost,T.deep,T.cyc,T.len,wK,co_,de_,cy_]<;>(repeat' (first | apply And.intro | intro _))<;>omega
   · simp only[Gc.N.clause,hm,if_false]
     cases t.isNil<;>simp[hm,T.N,nU,N.var,N.lit,N.label,co_nil,de_nil,cy_nil,co_cons,de_cons,cy_cons,T.cost,T.deep,T.cyc,T.len,wK,co_,de_,cy_]<;>(repeat' (first | apply And.intro | intro _))<;>omega
theorem str_ne{k:K}(h:k.real):k.str≠sE:=by
 intro e
 have:=dK_str k
 rw[e]at this
 cases k<;>first | exact h | (cases this)
theorem node_of{k:K}(hk:k.real)(hkf:k≠.func){t:Str}{i:Int}{kids:N}(hM:MadeB (.n k.str t i kids) k)(hA:AllowedB (.n k.str t i kids) k):NodeB (.n k.str t i kids) k :=
 node_any _ k hk hkf hM hA (by rw[cost_real hk];omega) (by rw[deep_real hk];omega)
structure BN (k:K) (n:N):Prop where
 nb:NodeB n k
 isn:n.isN
 form:∃ t i ks,n=.n k.str t i ks
 c1:1≤n.cost
def GoodN(s:VS)(n:N):Prop :=
 match s with
 | .k k=>BN k n
 | .Es=>n.isList∧n.len≤n.cost∧n.All (fun x=>Gc.N.isN x∧∃ k,NodeB x k∧isE k)
 | .Ss=>n.isList∧n.len≤n.cost∧n.All (fun x=>Gc.N.isN x∧∃ k,NodeB x k∧isS k)
 | .Cs=>n.isList∧n.len≤n.cost∧n.All (fun x=>Gc.N.isN x∧∃ k,NodeB x k∧isS k)∧∀ j,j<n.len→∃ t i ks,n.get j=.n (K.str .case_) t i ks
 | .Ms=>n.isList∧n.len≤n.cost∧n.All (fun x=>Gc.N.isN x∧∃ k,NodeB x k∧isS k)∧∀ j,j<n.len→∃ t i ks,n.get j=.n (K.str .comm) t i ks
theorem BN.mk'{k:K}(hk:k.real)(hkf:k≠.func){t:Str}{i:Int}{kids:N}(hl:kids.isList)(hM:MadeB (.n k.str t i kids) k)(hA:AllowedB (.n k.str t i kids) k):BN k (.n k.str t i kids) :=
 ⟨node_of hk hkf hM hA,hl,⟨t,i,kids,rfl⟩,by rw[cost_real hk];omega⟩
theorem BN.ne{k:K}(hk:k.real){n:N}(h:BN k n):∀ tx i ks,n≠.n sE tx i ks:=by
 intro tx i ks e
 obtain⟨t,i',ks',e'⟩:=h.form
 rw[e']at e
 exact str_ne hk (congrArg (fun x=>match x with | Gc.N.n k _ _ _=>k | _=>sE) e)
theorem realE{k:K}(h:isEk k):k.real:=by cases k<;>first | exact h.elim | trivial
theorem realS{k:K}(h:isSk k):k.real:=by cases k<;>first | exact h.elim | trivial
theorem noN:Gc.N.none.isN:=trivial
theorem listN{l:N}(h:l.isList):(Gc.N.list l).isN:=h
theorem flist_ok:BN .flist (.n (K.str .flist) sE 0 (.one .none)) :=
 by
 have:BN .flist (.n (K.str .flist) sE 0 (.one .none)):=BN.mk' (k:=.flist) trivial (by intro h;cases h) trivial (made_flist sE Gc.N.none noN (cb_noLF (kids:=(Gc.N.one Gc.N.none)) (j:=0) (show 0<1 by decide) trivial ⟨noN,trivial⟩ (show 1≤100000 by decide) rfl)) (allowed_flist _)
 exact this
theorem ftype_ok:BN .ftype Gc.N.ftype :=
 BN.mk' (k:=.ftype) trivial (by intro h;cases h) trivial (made_ftype sE Gc.N.none (Gc.N.n (K.str .flist) sE 0 (.one .none)) Gc.N.none noN flist_ok.isn noN (cb_noFL (kids:=(Gc.N.three Gc.N.none (Gc.N.n (K.str .flist) sE 0 (.one .none)) Gc.N.none)) (j:=0) (show 0<3 by decide) trivial ⟨noN,flist_ok.isn,noN,trivial⟩ (show 3≤100000 by decide) rfl) (cb_mustFL (kids:=(Gc.N.three Gc.N.none (Gc.N.n (K.str .flist) sE 0 (.one .none)) Gc.N.none)) (j:=1) (show 1<3 by decide) trivial ⟨noN,flist_ok.isn,noN,trivial⟩ (show 3≤100000 by decide) flist_ok.nb) (cb_noFL (kids:=(Gc.N.three Gc.N.none (Gc.N.n (K.str .flist) sE 0 (.one .none)) Gc.N.none)) (j:=2) (show 2<3 by decide) trivial ⟨noN,flist_ok.isn,noN,trivial⟩ (show 3≤100000 by decide) rfl)) (allowed_ftype _)
theorem block_ok{l:N}(h:l.isList)(hm:l.len≤100000)(ha:l.All (fun x=>Gc.N.isN x∧∃ k,NodeB x k∧isS k)):BN .block (.block l) :=
 BN.mk' (k:=.block) trivial (by intro h;cases h) trivial (made_block sE (Gc.N.list l) (listN h) l rfl h (cb_listS (kids:=(Gc.N.one (Gc.N.list l))) (j:=0) (show 0<1 by decide) trivial ⟨(listN h),trivial⟩ (show 1≤100000 by decide) (l:=l) rfl h ha hm)) (allowed_block _)
theorem good_N{s:VS}{n:N}(h:V s n):n.cost≤100000→GoodN s n:=by
 induction h with
 | ident s i h0 h1 =>
   intro hc
   simp[nU,N.len,co_nil,co_cons,co_]at hc
   exact BN.mk' (k:=.ident) trivial (by intro h;cases h) trivial (made_ident s i h0 h1) (allowed_ident _)
 | lit s =>
   intro hc
   simp[nU,N.len,co_nil,co_cons,co_]at hc
   exact BN.mk' (k:=.lit) trivial (by intro h;cases h) trivial (made_lit s 1 (by decide) (by decide)) (allowed_lit _ _ _ _ (by decide) (by decide))
 | flit l hl ih =>
   intro hc
   simp[nU,N.len,co_nil,co_cons,co_]at hc
   have H:=ih (by omega)
   have BB:=block_ok H.1 (by have:=H.2.1;omega) H.2.2
   exact BN.mk' (k:=.flit) trivial (by intro h;cases h) trivial (made_flit sE Gc.N.ftype (Gc.N.block l) ftype_ok.isn BB.isn (cb_mustFT (kids:=(Gc.N.two Gc.N.ftype (Gc.N.block l))) (j:=0) (show 0<2 by decide) trivial ⟨ftype_ok.isn,BB.isn,trivial⟩ (show 2≤100000 by decide) ftype_ok.nb) (cb_mustB (kids:=(Gc.N.two Gc.N.ftype (Gc.N.block l))) (j:=1) (show 1<2 by decide) trivial ⟨ftype_ok.isn,BB.isn,trivial⟩ (show 2≤100000 by decide) BB.nb)) (allowed_flit _)
 | paren k x hk hx ih =>
   intro hc
   simp[nU,N.len,co_nil,co_cons,co_]at hc
   have H:BN k x:=ih (by omega)
   exact BN.mk' (k:=.paren) trivial (by intro h;cases h) trivial (made_paren sE x k (realE hk) H.isn (cb_mustE (kids:=(Gc.N.one x)) (j:=0) (show 0<1 by decide) trivial ⟨H.isn,trivial⟩ (show 1≤100000 by decide) (isEk_E hk) H.nb)) (allowed_paren _)
 | call f args hf h ih =>
   intro hc
   simp[nU,N.len,co_nil,co_cons,co_]at hc
   have ih_args:=ih (by omega)
   have h2:=ih_args.2.1
   have BI:BN .ident (Gc.N.name f 0):=BN.mk' (k:=.ident) trivial (by intro h;cases h) trivial (made_ident f 0 (by decide) (by decide)) (allowed_ident _)
   exact BN.mk' (k:=.call) trivial (by intro h;cases h) trivial (made_call sE (Gc.N.name f 0) (Gc.N.list args) .ident trivial BI.isn (listN ih_args.1) (cb_mustE (kids:=(Gc.N.two (Gc.N.name f 0) (Gc.N.list args))) (j:=0) (show 0<2 by decide) trivial ⟨BI.isn,(listN ih_args.1),trivial⟩ (show 2≤100000 by decide) (k:=.ident) trivial BI.nb) args rfl ih_args.1 (cb_listE (kids:=(Gc.N.two (Gc.N.name f 0) (Gc.N.list args))) (j:=1) (show 1<2 by decide) trivial ⟨BI.isn,(listN ih_args.1),trivial⟩ (show 2≤100000 by decide) (l:=args) rfl ih_args.1 ih_args.2.2 (by omega))) (allowed_call _)
 | un op h k x hk hx ih =>
   intro hc
   simp[nU,N.len,co_nil,co_cons,co_]at hc
   have H:BN k x:=ih (by omega)
   exact BN.mk' (k:=.un) trivial (by intro h;cases h) trivial (made_un op x k (realE hk) H.isn (cb_mustE (kids:=(Gc.N.one x)) (j:=0) (show 0<1 by decide) trivial ⟨H.isn,trivial⟩ (show 1≤100000 by decide) (isEk_E hk) H.nb)) (allowed_un _ _ _ _ (by rcases h with rfl | rfl<;>simp[sNot,sArrow]))
 | bin op h ka kb a b hka hkb ha hb ih1 ih2 =>
   intro hc
   simp[nU,N.len,co_nil,co_cons,co_]at hc
   have H1:BN ka a:=ih1 (by omega)
   have H2:BN kb b:=ih2 (by omega)
   have hA:AllowedB (.n (K.str .bin) op 0 (.two a b)) .bin:=by
    rcases h with rfl|rfl|rfl|rfl
    · exact allowed_bin_0 a b H1.isn H2.isn
    · exact allowed_bin_1 a b H1.isn H2.isn
    · exact allowed_bin_2 a b H1.isn H2.isn
    · exact allowed_bin_3 a b H1.isn H2.isn
   exact BN.mk' (k:=.bin) trivial (by intro h;cases h) trivial (made_bin op a b ka (realE hka) kb (realE hkb) H1.isn H2.isn (cb_mustE (kids:=(Gc.N.two a b)) (j:=0) (show 0<2 by decide) trivial ⟨H1.isn,H2.isn,trivial⟩ (show 2≤100000 by decide) (isEk_E hka) H1.nb) (cb_mustE (kids:=(Gc.N.two a b)) (j:=1) (show 1<2 by decide) trivial ⟨H1.isn,H2.isn,trivial⟩ (show 2≤100000 by decide) (isEk_E hkb) H2.nb)) (hA)
 | exprS k x hk hx ih =>
   intro hc
   simp[nU,N.len,co_nil,co_cons,co_]at hc
   have H:BN k x:=ih (by omega)
   exact BN.mk' (k:=.exprS) trivial (by intro h;cases h) trivial (made_exprS sE x k (realE hk) H.isn (cb_mustE (kids:=(Gc.N.one x)) (j:=0) (show 0<1 by decide) trivial ⟨H.isn,trivial⟩ (show 1≤100000 by decide) (isEk_E hk) H.nb)) (allowed_exprS _)
 | assign op h a b ha hb ih1 ih2 =>
   intro hc
   simp[nU,N.len,co_nil,co_cons,co_]at hc
   have ih_a:=ih1 (by omega)
   have ih_b:=ih2 (by omega)
   have h2a:=ih_a.2.1
   have h2b:=ih_b.2.1
   have hA:AllowedB (.n (K.str .assign) op 0 (.two (.list a) (.list b))) .assign:=by
    rcases h with rfl|rfl
    · exact allowed_assign_0 _ _ (listN ih_a.1) (listN ih_b.1)
    · exact allowed_assign_1 _ _ (listN ih_a.1) (listN ih_b.1)
   exact BN.mk' (k:=.assign) trivial (by intro h;cases h) trivial (made_assign op (Gc.N.list a) (Gc.N.list b) (listN ih_a.1) (listN ih_b.1) a rfl ih_a.1 (cb_listE (kids:=(Gc.N.two (Gc.N.list a) (Gc.N.list b))) (j:=0) (show 0<2 by decide) trivial ⟨(listN ih_a.1),(listN ih_b.1),trivial⟩ (show 2≤100000 by decide) (l:=a) rfl ih_a.1 ih_a.2.2 (by omega)) b rfl ih_b.1 (cb_listE (kids:=(Gc.N.two (Gc.N.list a) (Gc.N.list b))) (j:=1) (show 1<2 by decide) trivial ⟨(listN ih_a.1),(listN ih_b.1),trivial⟩ (show 2≤100000 by decide) (l:=b) rfl ih_b.1 ih_b.2.2 (by omega))) (hA)
 | inc op h k x hk hx ih =>
   intro hc
   simp[nU,N.len,co_nil,co_cons,co_]at hc
   have H:BN k x:=ih (by omega)
   exact BN.mk' (k:=.inc) trivial (by intro h;cases h) trivial (made_inc op x k (realE hk) H.isn (cb_mustE (kids:=(Gc.N.one x)) (j:=0) (show 0<1 by decide) trivial ⟨H.isn,trivial⟩ (show 1≤100000 by decide) (isEk_E hk) H.nb)) (allowed_inc _ _ _ _ (by rcases h with rfl | rfl<;>simp[sInc,sDec]))
 | ifNo k x l hk hx hl ih ihl =>
   intro hc
   simp[nU,N.len,co_nil,co_cons,co_]at hc
   have H:BN k x:=ih (by omega)
   have HL:=ihl (by omega)
   have h2:=HL.2.1
   have BB:=block_ok HL.1 (by omega) HL.2.2
   exact BN.mk' (k:=.if_) trivial (by intro h;cases h) trivial (made_if_ sE Gc.N.none x (Gc.N.block l) Gc.N.none k (realE hk) noN H.isn BB.isn noN (cb_noS (kids:=(Gc.N.four Gc.N.none x (Gc.N.block l) Gc.N.none)) (j:=0) (show 0<4 by decide) trivial ⟨noN,H.isn,BB.isn,noN,trivial⟩ (show 4≤100000 by decide) rfl) (cb_mustE (kids:=(Gc.N.four Gc.N.none x (Gc.N.block l) Gc.N.none)) (j:=1) (show 1<4 by decide) trivial ⟨noN,H.isn,BB.isn,noN,trivial⟩ (show 4≤100000 by decide) (isEk_E hk) H.nb) (cb_mustB (kids:=(Gc.N.four Gc.N.none x (Gc.N.block l) Gc.N.none)) (j:=2) (show 2<4 by decide) trivial ⟨noN,H.isn,BB.isn,noN,trivial⟩ (show 4≤100000 by decide) BB.nb) (cb_noS (kids:=(Gc.N.four Gc.N.none x (Gc.N.block l) Gc.N.none)) (j:=3) (show 3<4 by decide) trivial ⟨noN,H.isn,BB.isn,noN,trivial⟩ (show 4≤100000 by decide) rfl)) (allowed_if_ _)
 | ifElse k ks x l y hk hks hx hl hy ih ihl ihy =>
   intro hc
   simp[nU,N.len,co_nil,co_cons,co_]at hc
   have H:BN k x:=ih (by omega)
   have HY:BN ks y:=ihy (by omega)
   have HL:=ihl (by omega)
   have h2:=HL.2.1
   have BB:=block_ok HL.1 (by omega) HL.2.2
   exact BN.mk' (k:=.if_) trivial (by intro h;cases h) trivial (made_if__else sE Gc.N.none x (Gc.N.block l) y k (realE hk) ks (realS hks) noN H.isn BB.isn HY.isn (cb_noS (kids:=(Gc.N.four Gc.N.none x (Gc.N.block l) y)) (j:=0) (show 0<4 by decide) trivial ⟨noN,H.isn,BB.isn,HY.isn,trivial⟩ (show 4≤100000 by decide) rfl) (cb_mustE (kids:=(Gc.N.four Gc.N.none x (Gc.N.block l) y)) (j:=1) (show 1<4 by decide) trivial ⟨noN,H.isn,BB.isn,HY.isn,trivial⟩ (show 4≤100000 by decide) (isEk_E hk) H.nb) (cb_mustB (kids:=(Gc.N.four Gc.N.none x (Gc.N.block l) y)) (j:=2) (show 2<4 by decide) trivial ⟨noN,H.isn,BB.isn,HY.isn,trivial⟩ (show 4≤100000 by decide) BB.nb) (cb_maybeS (kids:=(Gc.N.four Gc.N.none x (Gc.N.block l) y)) (j:=3) (show 3<4 by decide) trivial ⟨noN,H.isn,BB.isn,HY.isn,trivial⟩ (show 4≤100000 by decide) (isSk_S hks) HY.nb (HY.ne (realS hks)))) (allowed_if_ _)
 | for_ k x l hk hx hl ih ihl =>
   intro hc
   simp[nU,N.len,co_nil,co_cons,co_]at hc
   have H:BN k x:=ih (by omega)
   have HL:=ihl (by omega)
   have h2:=HL.2.1
   have BB:=block_ok HL.1 (by omega) HL.2.2
   exact BN.mk' (k:=.for_) trivial (by intro h;cases h) trivial (made_for_ sE Gc.N.none x Gc.N.none (Gc.N.block l) k (realE hk) noN H.isn noN BB.isn (cb_noS (kids:=(Gc.N.four Gc.N.none x Gc.N.none (Gc.N.block l))) (j:=0) (show 0<4 by decide) trivial ⟨noN,H.isn,noN,BB.isn,trivial⟩ (show 4≤100000 by decide) rfl) (cb_maybeE (kids:=(Gc.N.four Gc.N.none x Gc.N.none (Gc.N.block l))) (j:=1) (show 1<4 by decide) trivial ⟨noN,H.isn,noN,BB.isn,trivial⟩ (show 4≤100000 by decide) (isEk_E hk) H.nb (H.ne (realE hk))) (cb_noS (kids:=(Gc.N.four Gc.N.none x Gc.N.none (Gc.N.block l))) (j:=2) (show 2<4 by decide) trivial ⟨noN,H.isn,noN,BB.isn,trivial⟩ (show 4≤100000 by decide) rfl) (cb_mustB (kids:=(Gc.N.four Gc.N.none x Gc.N.none (Gc.N.block l))) (j:=3) (show 3<4 by decide) trivial ⟨noN,H.isn,noN,BB.isn,trivial⟩ (show 4≤100000 by decide) BB.nb)) (allowed_for_ _)
 | range k x l hk hx hl ih ihl =>
   intro hc
   simp[nU,N.len,co_nil,co_cons,co_]at hc
   have H:BN k x:=ih (by omega)
   have HL:=ihl (by omega)
   have h2:=HL.2.1
   have BB:=block_ok HL.1 (by omega) HL.2.2
   exact BN.mk' (k:=.range) trivial (by intro h;cases h) trivial (made_range sE Gc.N.none Gc.N.none x (Gc.N.block l) k (realE hk) noN noN H.isn BB.isn (cb_noE (kids:=(Gc.N.four Gc.N.none Gc.N.none x (Gc.N.block l))) (j:=0) (show 0<4 by decide) trivial ⟨noN,noN,H.isn,BB.isn,trivial⟩ (show 4≤100000 by decide) rfl) (cb_noE (kids:=(Gc.N.four Gc.N.none Gc.N.none x (Gc.N.block l))) (j:=1) (show 1<4 by decide) trivial ⟨noN,noN,H.isn,BB.isn,trivial⟩ (show 4≤100000 by decide) rfl) (cb_mustE (kids:=(Gc.N.four Gc.N.none Gc.N.none x (Gc.N.block l))) (j:=2) (show 2<4 by decide) trivial ⟨noN,noN,H.isn,BB.isn,trivial⟩ (show 4≤100000 by decide) (isEk_E hk) H.nb) (cb_mustB (kids:=(Gc.N.four Gc.N.none Gc.N.none x (Gc.N.block l))) (j:=3) (show 3<4 by decide) trivial ⟨noN,noN,H.isn,BB.isn,trivial⟩ (show 4≤100000 by decide) BB.nb)) (allowed_range _ _ _ _ (by simp[sE]))
 | switch k x l hk hx hl ih ihl =>
   intro hc
   simp[nU,N.len,co_nil,co_cons,co_]at hc
   have H:BN k x:=ih (by omega)
   have HL:=ihl (by omega)
   have h2:=HL.2.1
   have BB:=block_ok HL.1 (by omega) HL.2.2.1
   exact BN.mk' (k:=.switch) trivial (by intro h;cases h) trivial (made_switch sE Gc.N.none x (Gc.N.block l) k (realE hk) noN H.isn BB.isn (cb_noS (kids:=(Gc.N.three Gc.N.none x (Gc.N.block l))) (j:=0) (show 0<3 by decide) trivial ⟨noN,H.isn,BB.isn,trivial⟩ (show 3≤100000 by decide) rfl) (cb_maybeE (kids:=(Gc.N.three Gc.N.none x (Gc.N.block l))) (j:=1) (show 1<3 by decide) trivial ⟨noN,H.isn,BB.isn,trivial⟩ (show 3≤100000 by decide) (isEk_E hk) H.nb (H.ne (realE hk))) (cb_mustB (kids:=(Gc.N.three Gc.N.none x (Gc.N.block l))) (j:=2) (show 2<3 by decide) trivial ⟨noN,H.isn,BB.isn,trivial⟩ (show 3≤100000 by decide) BB.nb)) (allowed_switch_any _ _ l noN H.isn HL.1 (by omega) HL.2.2.2)
 | select l hl ihl =>
   intro hc
   simp[nU,N.len,co_nil,co_cons,co_]at hc
   have HL:=ihl (by omega)
   have h2:=HL.2.1
   have BB:=block_ok HL.1 (by omega) HL.2.2.1
   exact BN.mk' (k:=.select) trivial (by intro h;cases h) trivial (made_select sE (Gc.N.block l) BB.isn (cb_mustB (kids:=(Gc.N.one (Gc.N.block l))) (j:=0) (show 0<1 by decide) trivial ⟨BB.isn,trivial⟩ (show 1≤100000 by decide) BB.nb)) (allowed_select_any l HL.1 (by omega) HL.2.2.2)
 | branch op h =>
   intro hc
   simp[nU,N.len,co_nil,co_cons,co_]at hc
   exact BN.mk' (k:=.branch) trivial (by intro h;cases h) trivial (made_branch op Gc.N.none noN (cb_noI (kids:=(Gc.N.one Gc.N.none)) (j:=0) (show 0<1 by decide) trivial ⟨noN,trivial⟩ (show 1≤100000 by decide) rfl)) (allowed_branch _ _ _ _ (by rcases h with rfl | rfl<;>simp[sBreak,sContinue]))
 | branchTo op h x hx ih =>
   intro hc
   simp[nU,N.len,co_nil,co_cons,co_]at hc
   have H:BN .ident x:=ih (by omega)
   exact BN.mk' (k:=.branch) trivial (by intro h;cases h) trivial (made_branch_to op x H.isn (cb_maybeI (kids:=(Gc.N.one x)) (j:=0) (show 0<1 by decide) trivial ⟨H.isn,trivial⟩ (show 1≤100000 by decide) H.nb (BN.ne (k:=.ident) trivial H))) (allowed_branch _ _ _ _ (by rcases h with rfl | rfl<;>simp[sBreak,sContinue]))
 | ret a ha ih =>
   intro hc
   simp[nU,N.len,co_nil,co_cons,co_]at hc
   have ih_a:=ih (by omega)
   have h2:=ih_a.2.1
   exact BN.mk' (k:=.ret) trivial (by intro h;cases h) trivial (made_ret sE (Gc.N.list a) (listN ih_a.1) a rfl ih_a.1 (cb_listE (kids:=(Gc.N.one (Gc.N.list a))) (j:=0) (show 0<1 by decide) trivial ⟨(listN ih_a.1),trivial⟩ (show 1≤100000 by decide) (l:=a) rfl ih_a.1 ih_a.2.2 (by omega))) (allowed_ret _)
 | block l hl ihl =>
   intro hc
   simp[nU,N.len,co_nil,co_cons,co_]at hc
   have HL:=ihl (by omega)
   have h2:=HL.2.1
   have BB:=block_ok HL.1 (by omega) HL.2.2
   exact BB
 | labeled x ks y hks hx hy ihx ihy =>
   intro hc
   simp[nU,N.len,co_nil,co_cons,co_]at hc
   have HX:BN .ident x:=ihx (by omega)
   have HY:BN ks y:=ihy (by omega)
   exact BN.mk' (k:=.labeled) trivial (by intro h;cases h) trivial (made_labeled sE x y ks (realS hks) HX.isn HY.isn (cb_mustI (kids:=(Gc.N.two x y)) (j:=0) (show 0<2 by decide) trivial ⟨HX.isn,HY.isn,trivial⟩ (show 2≤100000 by decide) HX.nb) (cb_mustS (kids:=(Gc.N.two x y)) (j:=1) (show 1<2 by decide) trivial ⟨HX.isn,HY.isn,trivial⟩ (show 2≤100000 by decide) (isSk_S hks) HY.nb)) (allowed_labeled _)
 | caseNo l hl ihl =>
   intro hc
   simp[nU,N.len,co_nil,co_cons,co_]at hc
   have HL:=ihl (by omega)
   have h2:=HL.2.1
   exact BN.mk' (k:=.case_) trivial (by intro h;cases h) trivial (made_case__no sE Gc.N.none (Gc.N.list l) noN (listN HL.1) (cb_noLE (kids:=(Gc.N.two Gc.N.none (Gc.N.list l))) (j:=0) (show 0<2 by decide) trivial ⟨noN,(listN HL.1),trivial⟩ (show 2≤100000 by decide) rfl) l rfl HL.1 (cb_listS (kids:=(Gc.N.two Gc.N.none (Gc.N.list l))) (j:=1) (show 1<2 by decide) trivial ⟨noN,(listN HL.1),trivial⟩ (show 2≤100000 by decide) (l:=l) rfl HL.1 HL.2.2 (by omega))) (allowed_case_ _)
 | case_ a l ha hl ih ihl =>
   intro hc
   simp[nU,N.len,co_nil,co_cons,co_]at hc
   have ih_a:=ih (by omega)
   have h3:=ih_a.2.1
   have HL:=ihl (by omega)
   have h2:=HL.2.1
   exact BN.mk' (k:=.case_) trivial (by intro h;cases h) trivial (made_case_ sE (Gc.N.list a) (Gc.N.list l) (listN ih_a.1) (listN HL.1) a rfl ih_a.1 (cb_listE (kids:=(Gc.N.two (Gc.N.list a) (Gc.N.list l))) (j:=0) (show 0<2 by decide) trivial ⟨(listN ih_a.1),(listN HL.1),trivial⟩ (show 2≤100000 by decide) (l:=a) rfl ih_a.1 ih_a.2.2 (by omega)) l rfl HL.1 (cb_listS (kids:=(Gc.N.two (Gc.N.list a) (Gc.N.list l))) (j:=1) (show 1<2 by decide) trivial ⟨(listN ih_a.1),(listN HL.1),trivial⟩ (show 2≤100000 by decide) (l:=l) rfl HL.1 HL.2.2 (by omega))) (allowed_case_ _)
 | commNo l hl ihl =>
   intro hc
   simp[nU,N.len,co_nil,co_cons,co_]at hc
   have HL:=ihl (by omega)
   have h2:=HL.2.1
   exact BN.mk' (k:=.comm) trivial (by intro h;cases h) trivial (made_comm_no sE Gc.N.none (Gc.N.list l) noN (listN HL.1) (cb_noS (kids:=(Gc.N.two Gc.N.none (Gc.N.list l))) (j:=0) (show 0<2 by decide) trivial ⟨noN,(listN HL.1),trivial⟩ (show 2≤100000 by decide) rfl) l rfl HL.1 (cb_listS (kids:=(Gc.N.two Gc.N.none (Gc.N.list l))) (j:=1) (show 1<2 by decide) trivial ⟨noN,(listN HL.1),trivial⟩ (show 2≤100000 by decide) (l:=l) rfl HL.1 HL.2.2 (by omega))) (allowed_comm_no _ (listN HL.1))
 | comm x l hx hl ih ihl =>
   intro hc
   simp[nU,N.len,co_nil,co_cons,co_]at hc
   have H:BN .exprS x:=ih (by omega)
   have HL:=ihl (by omega)
   have h2:=HL.2.1
   obtain⟨tp,ip,kp,hp⟩:=H.form
   exact BN.mk' (k:=.comm) trivial (by intro h;cases h) trivial (made_comm sE x (Gc.N.list l) .exprS trivial H.isn (listN HL.1) (cb_maybeS (kids:=(Gc.N.two x (Gc.N.list l))) (j:=0) (show 0<2 by decide) trivial ⟨H.isn,(listN HL.1),trivial⟩ (show 2≤100000 by decide) (k:=.exprS) trivial H.nb (BN.ne (k:=.exprS) trivial H)) l rfl HL.1 (cb_listS (kids:=(Gc.N.two x (Gc.N.list l))) (j:=1) (show 1<2 by decide) trivial ⟨H.isn,(listN HL.1),trivial⟩ (show 2≤100000 by decide) (l:=l) rfl HL.1 HL.2.2 (by omega))) (allowed_comm_some x _ tp ip kp hp H.isn (listN HL.1))
 | enil =>
   intro hc
   simp[nU,N.len,co_nil,co_cons,co_]at hc
   exact⟨trivial,by simp[N.len],trivial⟩
 | snil =>
   intro hc
   simp[nU,N.len,co_nil,co_cons,co_]at hc
   exact⟨trivial,by simp[N.len],trivial⟩
 | cnil =>
   intro hc
   simp[nU,N.len,co_nil,co_cons,co_]at hc
   exact⟨trivial,by simp[N.len],trivial,fun j hj=>by simp[N.len]at hj⟩
 | mnil =>
   intro hc
   simp[nU,N.len,co_nil,co_cons,co_]at hc
   exact⟨trivial,by simp[N.len],trivial,fun j hj=>by simp[N.len]at hj⟩
 | econs k x t hk hx ht ih1 ih2 =>
   intro hc
   simp[nU,N.len,co_nil,co_cons,co_]at hc
   have H:BN k x:=ih1 (by omega)
   have HT:=ih2 (by omega)
   have h1:=H.c1
   have h2:=HT.2.1
   exact⟨HT.1,by simp only[N.len,co_cons];omega,⟨H.isn,k,H.nb,isEk_E hk⟩,HT.2.2⟩
 | scons k x t hk hx ht ih1 ih2 =>
   intro hc
   simp[nU,N.len,co_nil,co_cons,co_]at hc
   have H:BN k x:=ih1 (by omega)
   have HT:=ih2 (by omega)
   have h1:=H.c1
   have h2:=HT.2.1
   exact⟨HT.1,by simp only[N.len,co_cons];omega,⟨H.isn,k,H.nb,isSk_S hk⟩,HT.2.2⟩
 | ccons x t hx ht ih1 ih2 =>
   intro hc
   simp[nU,N.len,co_nil,co_cons,co_]at hc
   have H:BN .case_ x:=ih1 (by omega)
   have HT:=ih2 (by omega)
   have h1:=H.c1
   have h2:=HT.2.1
   exact⟨HT.1,by simp only[N.len,co_cons];omega,⟨⟨H.isn,.case_,H.nb,trivial⟩,HT.2.2.1⟩,fun j hj=>by cases j with | zero=>exact H.form | succ j=>exact HT.2.2.2 j (by simp only[N.len]at hj;omega)⟩
 | mcons x t hx ht ih1 ih2 =>
   intro hc
   simp[nU,N.len,co_nil,co_cons,co_]at hc
   have H:BN .comm x:=ih1 (by omega)
   have HT:=ih2 (by omega)
   have h1:=H.c1
   have h2:=HT.2.1
   exact⟨HT.1,by simp only[N.len,co_cons];omega,⟨⟨H.isn,.comm,H.nb,trivial⟩,HT.2.2.1⟩,fun j hj=>by cases j with | zero=>exact H.form | succ j=>exact HT.2.2.2 j (by simp only[N.len]at hj;omega)⟩
end Go.Proofs.YtleolbpibjnedaaGreat
