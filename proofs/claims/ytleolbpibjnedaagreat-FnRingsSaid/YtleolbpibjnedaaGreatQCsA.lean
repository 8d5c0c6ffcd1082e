/- spec.operators. -/
import Derived.Test.YtleolbpibjnedaaGreatQLsI
import Derived.Laws.OwnMore
set_option linter.unusedSimpArgs false
set_option linter.unusedVariables false
set_option maxRecDepth 100000
set_option maxHeartbeats 4000000
namespace Gc
open Go
theorem wpList_append_done{P:Program}{ops:Array Oper}{rest:List Oper}{o:Oper}{A:Act}{Q:Exit→Act→World→Prop}{w w':World}{v x v':Value}(hgd:o.guard=none)(s y:Operand)(t:TypeId)
 (ho:o.op=.call { callee:=.builtin .append,args:=#[s,y],argTypes:=#[t,t] }) (hs:A.eval s=v) (hy:A.eval y=x) (hr:(Builtin.append_ #[t,t] o.type #[v,x]).run P w=.ok v' w')
 (h:wpList P ops Q rest (A.put o.dst v') w'):wpList P ops Q (o :: rest) A w:=by
 refine wpList_plain hgd fun K hK=>?_
 unfold Oper.wp execOp
 simp only[ho,resolve,invoke,builtin,Sem.run_bind,Sem.run_pure,Result.andThen_ok,List.map_toArray,List.map_cons,List.map_nil,hs,hy,hr]
 exact hK _ _ h
end Gc
namespace Go.Proofs.YtleolbpibjnedaaGreat
open Go Go.RowKit Gc
end Go.Proofs.YtleolbpibjnedaaGreat
