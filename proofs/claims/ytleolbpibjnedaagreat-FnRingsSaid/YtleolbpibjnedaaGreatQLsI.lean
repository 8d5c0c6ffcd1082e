/- Every tree that the maker makes becomes syntax. -/
import Derived.Test.YtleolbpibjnedaaGreatQLsF
import Derived.Test.YtleolbpibjnedaaGreatQLsE
import Derived.Test.YtleolbpibjnedaaGreatQLsH
import Derived.Deep.DeepMust
set_option linter.unusedSimpArgs false
set_option linter.unusedVariables false
set_option maxRecDepth 100000
set_option maxHeartbeats 4000000
namespace Go.Proofs.YtleolbpibjnedaaGreat
open Go Go.RowKit Gc
def GoodT(o:So)(t:T):Prop :=
 match o with
 | .E=>ExprX t∧1≤t.cost
 | .S=>StmtX t∧1≤t.cost
 | .Es=>t.isList∧t.len≤t.cost∧t.All ExprX
 | .Ss=>t.isList∧t.len≤t.cost∧t.All StmtX
 | .Cs=>t.isList∧t.All CaseX
theorem good_S{fl:Bool}{o:So}{t:T}(h:W fl o t):t.cost≤100000→GoodT o t:=by
 induction h with
 | num=>intro _;exact⟨⟨expr_litN 0 0 rfl sE .nil .nil trivial trivial,_,_,_,_,_,rfl,trivial,trivial⟩,by simp[T.cost]⟩
 | var n h=>intro _;exact⟨⟨expr_var n h sE .nil .nil trivial trivial,_,_,_,_,_,rfl,trivial,trivial⟩,by simp[T.cost]⟩
 | bin op a b h ha hb hx hy ih1 ih2 =>
   intro hc
   simp only[T.cost]at hc
   obtain⟨⟨h1,k1,n1,o1,kd1,b1,rfl,_,_⟩,_⟩:=ih1 (by(try simp only[T.cost]);(try simp only[T.cost]at hc);omega)
   obtain⟨⟨h2,k2,n2,o2,kd2,b2,rfl,_,_⟩,_⟩:=ih2 (by(try simp only[T.cost]);(try simp only[T.cost]at hc);omega)
   exact⟨⟨expr_two _ _ _ _ _ _ _ _ _ _ h1 h2 0 op,_,_,_,_,_,rfl,trivial,trivial⟩,by simp[T.cost,T.len]<;>omega⟩
 | not a ha ih =>
   intro hc
   simp only[T.cost]at hc
   obtain⟨⟨h1,k1,n1,o1,kd1,b1,rfl,_,_⟩,_⟩:=ih (by(try simp only[T.cost]);(try simp only[T.cost]at hc);omega)
   exact⟨⟨expr_notN _ _ _ _ _ h1 0 sE,_,_,_,_,_,rfl,trivial,trivial⟩,by simp[T.cost,T.len]<;>omega⟩
 | par a ha ih =>
   intro hc
   simp only[T.cost]at hc
   obtain⟨⟨h1,k1,n1,o1,kd1,b1,rfl,_,_⟩,_⟩:=ih (by(try simp only[T.cost]);(try simp only[T.cost]at hc);omega)
   exact⟨⟨expr_parN _ _ _ _ _ h1 0 sE,_,_,_,_,_,rfl,trivial,trivial⟩,by simp[T.cost,T.len]<;>omega⟩
 | call f args h ha ih =>
   intro hc
   simp only[T.cost]at hc
   obtain⟨h1,h2,h3⟩:=ih (by omega)
   exact⟨⟨expr_callN 0 f args h1 (by omega) h3,_,_,_,_,_,rfl,h1,trivial⟩,by simp[T.cost,T.len]<;>omega⟩
 | lit body h hb ih =>
   intro hc
   simp only[T.cost]at hc
   obtain⟨h1,h2,h3⟩:=ih (by omega)
   exact⟨⟨expr_funN 0 sE body h1 (by omega) h3,_,_,_,_,_,rfl,trivial,h1⟩,by simp[T.cost,T.len]<;>omega⟩
 | enil | snil=>intro _;exact⟨trivial,by simp[T.len],trivial⟩
 | cnil=>intro _;exact⟨trivial,trivial⟩
 | econs a t ha ht ih1 ih2 =>
   intro hc
   simp only[T.cost]at hc
   obtain⟨h1,h1'⟩:=ih1 (by omega)
   obtain⟨h2,h3,h4⟩:=ih2 (by omega)
   exact⟨h2,by simp only[T.len,T.cost];omega,h1,h4⟩
 | scons a t ha ht ih1 ih2 =>
   intro hc
   simp only[T.cost]at hc
   obtain⟨h1,h1'⟩:=ih1 (by omega)
   obtain⟨h2,h3,h4⟩:=ih2 (by omega)
   exact⟨h2,by simp only[T.len,T.cost];omega,h1,h4⟩
 | ccons a t ha ht ih1 ih2 =>
   intro hc
   simp only[T.cost]at hc
   obtain⟨h1,h1',h1''⟩:=ih1 (by omega)
   obtain⟨h2,h4⟩:=ih2 (by omega)
   exact⟨h2,⟨h1,by omega,h1''⟩,h4⟩
 | expr f args h ha ih =>
   intro hc
   simp only[T.cost]at hc
   obtain⟨h1,h2,h3⟩:=ih (by omega)
   exact⟨⟨stmt_exprN _ _ _ _ _ _ _ _ _ _ _ _ _ (expr_callN 0 f args h1 (by omega) h3),_,_,_,_,_,_,_,_,_,_,_,_,_,_,rfl,h1,trivial,trivial,trivial,trivial⟩,by simp[T.cost,T.len]<;>omega⟩
 | assign n op a hn h ha ih =>
   intro hc
   simp only[T.cost]at hc
   obtain⟨⟨h1,k1,n1,o1,kd1,b1,rfl,l1,l2⟩,_⟩:=ih (by(try simp only[T.cost]);(try simp only[T.cost]at hc);omega)
   exact⟨⟨stmt_assignN _ _ _ _ _ _ _ _ _ _ _ _ _ hn (by rcases h with rfl | rfl<;>decide) h1,_,_,_,_,_,_,_,_,_,_,_,_,_,_,rfl,l1,l2,trivial,trivial,trivial⟩,by simp[T.cost,T.len]<;>omega⟩
 | count n op hn h=>intro _;exact⟨⟨stmt_countN _ _ _ _ _ _ _ _ _ _ _ _ _ hn,_,_,_,_,_,_,_,_,_,_,_,_,_,_,rfl,trivial,trivial,trivial,trivial,trivial⟩,by simp only[T.cost];omega⟩
 | ifNo a body ha hb ih1 ih2 =>
   intro hc
   simp only[T.cost]at hc
   obtain⟨⟨h1,k1,n1,o1,kd1,b1,rfl,l1,l2⟩,_⟩:=ih1 (by(try simp only[T.cost]);(try simp only[T.cost]at hc);omega)
   obtain⟨h2,h3,h4⟩:=ih2 (by omega)
   exact⟨⟨stmt_ifN _ _ _ _ _ _ _ _ _ _ _ h1 h2 (by omega) h4,_,_,_,_,_,_,_,_,_,_,_,_,_,_,rfl,l1,l2,h2,trivial,trivial⟩,by simp[T.cost,T.len]<;>omega⟩
 | ifElse a body els ha hb he ih1 ih2 ih3 =>
   intro hc
   simp only[T.cost]at hc
   obtain⟨⟨h1,k1,n1,o1,kd1,b1,rfl,l1,l2⟩,_⟩:=ih1 (by(try simp only[T.cost]);(try simp only[T.cost]at hc);omega)
   obtain⟨h2,h3,h4⟩:=ih2 (by omega)
   obtain⟨h5,h6,h7⟩:=ih3 (by omega)
   exact⟨⟨stmt_elseN _ _ _ _ _ _ _ _ _ _ _ h1 h2 (by omega) h4 h5 (by omega) h7,_,_,_,_,_,_,_,_,_,_,_,_,_,_,rfl,l1,l2,h2,h5,trivial⟩,by simp[T.cost,T.len]<;>omega⟩
 | ifChain a body a' body' els' has' chain' ha hb he ih1 ih2 ih3 =>
   intro hc
   simp only[T.cost]at hc
   obtain⟨⟨h1,k1,n1,o1,kd1,b1,rfl,l1,l2⟩,_⟩:=ih1 (by(try simp only[T.cost]);(try simp only[T.cost]at hc);omega)
   obtain⟨h2,h3,h4⟩:=ih2 (by omega)
   obtain⟨h5,_⟩:=ih3 (by(try simp only[T.cost]);(try simp only[T.cost]at hc);omega)
   exact⟨⟨stmt_chainN _ _ _ _ _ _ _ _ _ _ _ _ h1 h2 (by omega) h4 h5,_,_,_,_,_,_,_,_,_,_,_,_,_,_,rfl,l1,l2,h2,trivial,trivial⟩,by simp[T.cost,T.len]<;>omega⟩
 | for_ a body ha hb ih1 ih2 =>
   intro hc
   simp only[T.cost]at hc
   obtain⟨⟨h1,k1,n1,o1,kd1,b1,rfl,l1,l2⟩,_⟩:=ih1 (by(try simp only[T.cost]);(try simp only[T.cost]at hc);omega)
   obtain⟨h2,h3,h4⟩:=ih2 (by omega)
   exact⟨⟨stmt_forN _ _ _ _ _ _ _ _ _ _ _ _ _ h1 h2 (by omega) h4,_,_,_,_,_,_,_,_,_,_,_,_,_,_,rfl,l1,l2,h2,trivial,trivial⟩,by simp[T.cost,T.len]<;>omega⟩
 | range a body ha hb ih1 ih2 =>
   intro hc
   simp only[T.cost]at hc
   obtain⟨⟨h1,k1,n1,o1,kd1,b1,rfl,l1,l2⟩,_⟩:=ih1 (by(try simp only[T.cost]);(try simp only[T.cost]at hc);omega)
   obtain⟨h2,h3,h4⟩:=ih2 (by omega)
   exact⟨⟨stmt_rangeN _ _ _ _ _ _ _ _ _ _ _ _ _ h1 h2 (by omega) h4,_,_,_,_,_,_,_,_,_,_,_,_,_,_,rfl,l1,l2,h2,trivial,trivial⟩,by simp[T.cost,T.len]<;>omega⟩
 | switch a cases ha hcs h ih1 ih2 =>
   intro hc
   simp only[T.cost]at hc
   obtain⟨⟨h1,k1,n1,o1,kd1,b1,rfl,l1,l2⟩,_⟩:=ih1 (by(try simp only[T.cost]);(try simp only[T.cost]at hc);omega)
   obtain⟨h2,h4⟩:=ih2 (by omega)
   exact⟨⟨stmt_switchN _ _ _ _ _ _ _ _ _ _ _ _ _ h2 h.2 h.1 h4 h1,_,_,_,_,_,_,_,_,_,_,_,_,_,_,rfl,l1,l2,trivial,trivial,h2⟩,by simp[T.cost,T.len]<;>omega⟩
 | select cases hf hcs h ih =>
   intro hc
   simp only[T.cost]at hc
   obtain⟨h2,h4⟩:=ih (by omega)
   exact⟨⟨stmt_selectN _ _ _ _ _ _ _ _ _ _ _ _ _ h2 h.2 h.1 h4,_,_,_,_,_,_,_,_,_,_,_,_,_,_,rfl,trivial,trivial,trivial,trivial,h2⟩,by simp[T.cost,T.len]<;>omega⟩
 | branch op h=>intro _;exact⟨⟨stmt_branchN _ _ _ _ _ _ _ _ _ _ _ _ _ rfl,_,_,_,_,_,_,_,_,_,_,_,_,_,_,rfl,trivial,trivial,trivial,trivial,trivial⟩,by simp only[T.cost];omega⟩
 | branchTo op k h hk=>intro _;exact⟨⟨stmt_gotoN _ _ _ _ _ _ _ _ _ _ _ _ _ k hk rfl,_,_,_,_,_,_,_,_,_,_,_,_,_,_,rfl,trivial,trivial,trivial,trivial,trivial⟩,by simp only[T.cost];omega⟩
 | ret a ha ih =>
   intro hc
   simp only[T.cost]at hc
   obtain⟨⟨h1,k1,n1,o1,kd1,b1,rfl,l1,l2⟩,_⟩:=ih (by(try simp only[T.cost]);(try simp only[T.cost]at hc);omega)
   exact⟨⟨stmt_retN _ _ _ _ _ _ _ _ _ _ _ _ _ h1,_,_,_,_,_,_,_,_,_,_,_,_,_,_,rfl,l1,l2,trivial,trivial,trivial⟩,by simp[T.cost,T.len]<;>omega⟩
 | block body hb ih =>
   intro hc
   simp only[T.cost]at hc
   obtain⟨h2,h3,h4⟩:=ih (by omega)
   exact⟨⟨stmt_blockN _ _ _ _ _ _ _ _ _ _ _ _ _ h2 (by omega) h4,_,_,_,_,_,_,_,_,_,_,_,_,_,_,rfl,trivial,trivial,h2,trivial,trivial⟩,by simp[T.cost,T.len]<;>omega⟩
 | labelled k kind a body hk h ha hb ih1 ih2 =>
   intro hc
   simp only[T.cost]at hc
   obtain⟨⟨h1,k1,n1,o1,kd1,b1,rfl,l1,l2⟩,_⟩:=ih1 (by(try simp only[T.cost]);(try simp only[T.cost]at hc);omega)
   obtain⟨h2,h3,h4⟩:=ih2 (by omega)
   refine⟨⟨stmt_labelN _ _ _ _ _ _ _ _ _ _ _ _ _ k hk rfl ⟨?_,_,_,_,_,_,_,_,_,_,_,_,_,_,_,rfl,l1,l2,h2,trivial,trivial⟩,_,_,_,_,_,_,_,_,_,_,_,_,_,_,rfl,trivial,trivial,trivial,trivial,trivial⟩,by simp[T.cost,T.len]<;>omega⟩
   rcases h with rfl|rfl
   · exact stmt_forN _ _ _ _ _ _ _ _ _ _ _ _ _ h1 h2 (by omega) h4
   · exact stmt_rangeN _ _ _ _ _ _ _ _ _ _ _ _ _ h1 h2 (by omega) h4
theorem func_any{fl:Bool}(f:Str)(body:T)(hW:W fl .Ss body)(hc:body.cost≤100000)(w:World)(D:Nat→Prop)(a4:Option Addr)(n4 c4:Nat)(h4:Rep w D body.g [.slice a4 n4 c4]) :
 Calls Tryz.prog 9 #[.string f,.slice a4 n4 c4] w (NodeP w (N.func f (body.N 0))):=by
 obtain⟨h1,h2,h3⟩:=good_S hW hc
 exact func_N f body h1 (by omega) h3 w D a4 n4 c4 h4
end Go.Proofs.YtleolbpibjnedaaGreat
namespace Gc
open Go
end Gc
namespace Go.Proofs.YtleolbpibjnedaaGreat
open Go Go.RowKit Gc
end Go.Proofs.YtleolbpibjnedaaGreat
