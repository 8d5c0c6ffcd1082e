/- The names that calls name, in order; which of them a body has. -/
import Derived.Test.YtleolbpibjnedaaGreatQVn
import Derived.Test.YtleolbpibjnedaaGreatQWkA
import Derived.Test.YtleolbpibjnedaaGreatQBdA
import Derived.StringKeys
import Derived.LaidEql
import Derived.Deep.DeepMust
import Derived.Test.YtleolbpibjnedaaGreatQBdC
import Derived.Test.YtleolbpibjnedaaGreatQWkG
import Derived.Deep.RegionHeld3
import Derived.Deep.RegionWith
set_option linter.unusedSimpArgs false
set_option linter.unusedVariables false
set_option maxRecDepth 100000
set_option maxHeartbeats 4000000
namespace Gc
open Go
def N.txt:N→Str
 | .n _ text _ _=>text
 | _=>sE
def A.txt:A→Str
 | .n _ text ..=>text
 | _=>sE
theorem A.txt_N:∀ (a:A),a.N.txt=a.txt
 | .nil | .cons .. | .n ..=>rfl
def N.names:N→List Str
 | .nil=>[]
 | .cons h t=>h.names++t.names
 | .n kind _ _ kids=>if kind.data.toList=kCall.data.toList then kids.first.txt :: kids.names else kids.names
theorem nm_call(t:Str)(i:Int)(kids:N):(N.n kCall t i kids).names=kids.first.txt :: kids.names:=by simp[N.names]
theorem nm_(t:Str)(i:Int)(kids:N):(N.n kIdent t i kids).names=kids.names∧(N.n kList t i kids).names=kids.names∧(N.n kBin t i kids).names=kids.names∧(N.n kUn t i kids).names=kids.names∧(N.n kParen t i kids).names=kids.names∧(N.n kFuncLit t i kids).names=kids.names∧(N.n kFuncType t i kids).names=kids.names∧(N.n kFieldList t i kids).names=kids.names∧(N.n kBlock t i kids).names=kids.names∧(N.n kAssign t i kids).names=kids.names∧(N.n kInc t i kids).names=kids.names∧(N.n kIf t i kids).names=kids.names∧(N.n kFor t i kids).names=kids.names∧(N.n kRange t i kids).names=kids.names∧(N.n kLit t i kids).names=kids.names∧(N.n kCase t i kids).names=kids.names∧(N.n kSwitch t i kids).names=kids.names∧(N.n kExprS t i kids).names=kids.names∧(N.n kComm t i kids).names=kids.names∧(N.n kSelect t i kids).names=kids.names∧(N.n kBranch t i kids).names=kids.names∧(N.n kReturn t i kids).names=kids.names∧(N.n kLabeled t i kids).names=kids.names∧(N.n kFuncDecl t i kids).names=kids.names∧(N.n sE t i kids).names=kids.names :=
 ⟨by simp[N.names,kIdent,kCall],by simp[N.names,kList,kCall],by simp[N.names,kBin,kCall],by simp[N.names,kUn,kCall],by simp[N.names,kParen,kCall],by simp[N.names,kFuncLit,kCall],by simp[N.names,kFuncType,kCall],by simp[N.names,kFieldList,kCall],by simp[N.names,kBlock,kCall],by simp[N.names,kAssign,kCall],by simp[N.names,kInc,kCall],by simp[N.names,kIf,kCall],by simp[N.names,kFor,kCall],by simp[N.names,kRange,kCall],by simp[N.names,kLit,kCall],by simp[N.names,kCase,kCall],by simp[N.names,kSwitch,kCall],by simp[N.names,kExprS,kCall],by simp[N.names,kComm,kCall],by simp[N.names,kSelect,kCall],by simp[N.names,kBranch,kCall],by simp[N.names,kReturn,kCall],by simp[N.names,kLabeled,kCall],by simp[N.names,kFuncDecl,kCall],by simp[N.names,sE,kCall]⟩
theorem nm_nil:N.nil.names=[]:=rfl
theorem nm_cons(h t:N):(N.cons h t).names=h.names++t.names:=rfl
theorem names_kind(k:K)(hk:k≠.call)(t:Str)(i:Int)(kids:N):(N.n k.str t i kids).names=kids.names:=by
 cases k<;>first | exact absurd rfl hk | simp only[K.str,nm_call,nm_,nm_nil,nm_cons]
theorem names_clause(m:Nat)(last:Bool)(l:N):(N.clause m last l).names=l.names:=by
 unfold N.clause
 split<;>cases last<;>simp[nm_call,nm_,nm_nil,nm_cons,nU,N.var,N.lit,N.label,N.first,N.txt]
def rstep(f:Str→Option Addr)(a:A)(s:List Addr):List Addr :=
 match a with
 | .n .call _ _ _ _ f0 _ _ _=>s++(f f0.txt).toList
 | _=>s
theorem walk_names(f:Str→Option Addr):∀ (a:A) (s:List Addr),a.walk (rstep f) s=s++a.N.names.filterMap f
 | .nil,s=>by simp[A.walk,A.N,N.names]
 | .cons h t,s=>by
   simp only[A.walk,A.N,N.names,List.filterMap_append]
   rw[walk_names f h,walk_names f t,List.append_assoc]
 | .n k text num o b f0 f1 f2 f3,s=>by
   have h0:=walk_names f f0
   have h1:=walk_names f f1
   have h2:=walk_names f f2
   have h3:=walk_names f f3
   by_cases hk:k=.call
   · subst hk
     have e:(A.n K.call text num o b f0 f1 f2 f3).N.names=f0.txt :: (f0.N.names++f1.N.names):=by
      simp only[A.N,K.str,K.arity,nm_call,N.two,N.first,nm_cons,nm_nil,List.append_nil,A.txt_N]
     rw[e]
     simp only[A.walk,K.arity,rstep,h0,h1,List.filterMap_cons,List.filterMap_append]
     cases f f0.txt<;>simp
   · have e:=names_kind k hk text num
     cases k<;>first
      | exact absurd rfl hk
      | simp only[A.walk,A.N,K.arity,rstep,e,h0,h1,h2,h3,N.one,N.two,N.three,N.four,nm_cons,nm_nil,List.append_nil,List.filterMap_append,List.append_assoc,List.filterMap_nil]
theorem name_eq{f name:Str}(hf:isName f)(hn:isName name):(f.toList == name.toList)=true↔name=f:=by
 constructor
 · intro h
   have e:f.toList=name.toList:=by simpa using h
   rw[Go.ByteArray.toList_eq,Go.ByteArray.toList_eq]at e
   cases f;cases name
   simp only[]at e
   have:=Array.toList_inj.1 e
   rw[this]
 · rintro rfl
   simp
def GoodNm(name:Str)(o:So)(t:T):Prop :=
 match o with
 | .Cs=>∀ m,name∈(t.N (m+1)).names↔t.calls name=true
 | _=>name∈(t.N 0).names↔t.calls name=true
theorem names_calls{name:Str}(hn:isName name){fl:Bool}{o:So}{t:T}(h:W fl o t):GoodNm name o t:=by
 have e5:∀ {f:Str},isName f→((f.toList == name.toList)=true↔name=f):=fun hf=>name_eq hf hn
 induction h with
 | num =>
   simp only[GoodNm]
   simp[T.N,T.calls,nU,N.var,N.lit,N.label,N.first,N.txt,nm_call,nm_,nm_nil,nm_cons]
 | var n h =>
   simp only[GoodNm]
   simp[T.N,T.calls,nU,N.var,N.lit,N.label,N.first,N.txt,nm_call,nm_,nm_nil,nm_cons]
 | bin op a b h ha hb hx hy ih1 ih2 =>
   simp only[GoodNm]at ih1
   simp only[GoodNm]at ih2
   simp only[GoodNm]
   simp[T.N,T.calls,nU,N.var,N.lit,N.label,N.first,N.txt,nm_call,nm_,nm_nil,nm_cons,ih1,ih2]
 | not a ha ih =>
   simp only[GoodNm]at ih
   simp only[GoodNm]
   simp[T.N,T.calls,nU,N.var,N.lit,N.label,N.first,N.txt,nm_call,nm_,nm_nil,nm_cons,ih]
 | par a ha ih =>
   simp only[GoodNm]at ih
   simp only[GoodNm]
   simp[T.N,T.calls,nU,N.var,N.lit,N.label,N.first,N.txt,nm_call,nm_,nm_nil,nm_cons,ih]
 | call f args h ha ih =>
   simp only[GoodNm]at ih
   simp only[GoodNm]
   simp[T.N,T.calls,nU,N.var,N.lit,N.label,N.first,N.txt,nm_call,nm_,nm_nil,nm_cons,ih,e5 h]
 | lit body h hb ih =>
   simp only[GoodNm]at ih
   simp only[GoodNm]
   simp[T.N,T.calls,nU,N.var,N.lit,N.label,N.first,N.txt,nm_call,nm_,nm_nil,nm_cons,ih]
 | enil =>
   simp only[GoodNm]
   simp[T.N,T.calls,nU,N.var,N.lit,N.label,N.first,N.txt,nm_call,nm_,nm_nil,nm_cons]
 | econs a t ha ht ih1 ih2 =>
   simp only[GoodNm]at ih1
   simp only[GoodNm]at ih2
   simp only[GoodNm]
   simp[T.N,T.calls,nU,N.var,N.lit,N.label,N.first,N.txt,nm_call,nm_,nm_nil,nm_cons,ih1,ih2]
 | expr f args h ha ih =>
   simp only[GoodNm]at ih
   simp only[GoodNm]
   simp[T.N,T.calls,nU,N.var,N.lit,N.label,N.first,N.txt,nm_call,nm_,nm_nil,nm_cons,ih,e5 h]
 | assign n op a hn h ha ih =>
   simp only[GoodNm]at ih
   simp only[GoodNm]
   simp[T.N,T.calls,nU,N.var,N.lit,N.label,N.first,N.txt,nm_call,nm_,nm_nil,nm_cons,ih]
 | count n op hn h =>
   simp only[GoodNm]
   simp[T.N,T.calls,nU,N.var,N.lit,N.label,N.first,N.txt,nm_call,nm_,nm_nil,nm_cons]
 | ifNo a body ha hb ih1 ih2 =>
   simp only[GoodNm]at ih1
   simp only[GoodNm]at ih2
   simp only[GoodNm]
   simp[T.N,T.calls,nU,N.var,N.lit,N.label,N.first,N.txt,nm_call,nm_,nm_nil,nm_cons,ih1,ih2]
 | ifElse a body els ha hb he ih1 ih2 ih3 =>
   simp only[GoodNm]at ih1
   simp only[GoodNm]at ih2
   simp only[GoodNm]at ih3
   simp only[GoodNm]
   simp[T.N,T.calls,nU,N.var,N.lit,N.label,N.first,N.txt,nm_call,nm_,nm_nil,nm_cons,ih1,ih2,ih3,or_assoc]
 | ifChain a body a' body' els' has' chain' ha hb he ih1 ih2 ih3 =>
   simp only[GoodNm]at ih1 ih2 ih3 ⊢
   have e:(T.s 3 0 sE sE a body (.cons (.s 3 0 sE sE a' body' els' has' chain' .nil) .nil) false true .nil).N 0=.part kIf (.four .none (a.N 0) (.block (body.N 0)) ((T.s 3 0 sE sE a' body' els' has' chain' .nil).N 0)):=rfl
   have e2:(T.s 3 0 sE sE a body (.cons (.s 3 0 sE sE a' body' els' has' chain' .nil) .nil) false true .nil).calls name=(a.calls name || body.calls name || ((T.s 3 0 sE sE a' body' els' has' chain' .nil).calls name || false) || false):=rfl
   rw[e,e2]
   generalize T.s 3 0 sE sE a' body' els' has' chain' .nil=y at ih3
   simp[nU,N.var,N.lit,N.label,N.first,N.txt,nm_call,nm_,nm_nil,nm_cons,ih1,ih2,ih3,or_assoc]
 | for_ a body ha hb ih1 ih2 =>
   simp only[GoodNm]at ih1
   simp only[GoodNm]at ih2
   simp only[GoodNm]
   simp[T.N,T.calls,nU,N.var,N.lit,N.label,N.first,N.txt,nm_call,nm_,nm_nil,nm_cons,ih1,ih2]
 | range a body ha hb ih1 ih2 =>
   simp only[GoodNm]at ih1
   simp only[GoodNm]at ih2
   simp only[GoodNm]
   simp[T.N,T.calls,nU,N.var,N.lit,N.label,N.first,N.txt,nm_call,nm_,nm_nil,nm_cons,ih1,ih2]
 | switch a cases ha hc h ih1 ih2 =>
   simp only[GoodNm]at ih1 ih2 ⊢
   have:=ih2 0
   simp[T.N,T.calls,nU,N.var,N.lit,N.label,N.first,N.txt,nm_call,nm_,nm_nil,nm_cons,ih1,this]
 | select cases h hc h2 ih =>
   simp only[GoodNm]at ih ⊢
   have:=ih 1
   simp[T.N,T.calls,nU,N.var,N.lit,N.label,N.first,N.txt,nm_call,nm_,nm_nil,nm_cons,this]
 | branch op h =>
   simp only[GoodNm]
   simp[T.N,T.calls,nU,N.var,N.lit,N.label,N.first,N.txt,nm_call,nm_,nm_nil,nm_cons]
   split<;>simp[nm_call,nm_,nm_nil,nm_cons]
 | branchTo op k h hk =>
   simp only[GoodNm]
   simp[T.N,T.calls,nU,N.var,N.lit,N.label,N.first,N.txt,nm_call,nm_,nm_nil,nm_cons]
   split<;>simp[nm_call,nm_,nm_nil,nm_cons]
 | ret a ha ih =>
   simp only[GoodNm]at ih
   simp only[GoodNm]
   simp[T.N,T.calls,nU,N.var,N.lit,N.label,N.first,N.txt,nm_call,nm_,nm_nil,nm_cons,ih]
 | block body hb ih =>
   simp only[GoodNm]at ih
   simp only[GoodNm]
   simp[T.N,T.calls,nU,N.var,N.lit,N.label,N.first,N.txt,nm_call,nm_,nm_nil,nm_cons,ih]
 | labelled k kind a body hk h ha hb ih1 ih2 =>
   simp only[GoodNm]at ih1 ih2 ⊢
   rcases h with rfl | rfl<;>simp[T.N,T.calls,nU,N.var,N.lit,N.label,N.first,N.txt,nm_call,nm_,nm_nil,nm_cons,ih1,ih2]
 | snil =>
   simp only[GoodNm]
   simp[T.N,T.calls,nU,N.var,N.lit,N.label,N.first,N.txt,nm_call,nm_,nm_nil,nm_cons]
 | scons a t ha ht ih1 ih2 =>
   simp only[GoodNm]at ih1
   simp only[GoodNm]at ih2
   simp only[GoodNm]
   simp[T.N,T.calls,nU,N.var,N.lit,N.label,N.first,N.txt,nm_call,nm_,nm_nil,nm_cons,ih1,ih2]
 | cnil=>intro m;simp[T.N,T.calls,nm_nil]
 | ccons a t ha ht ih1 ih2 =>
   simp only[GoodNm]at ih1 ih2 ⊢
   intro m
   have:=ih2 (m+2)
   simp[T.N,T.calls,nm_cons,names_clause,ih1,this]
theorem names_cost:∀ (n:N),n.names.length≤n.cost
 | .nil=>Nat.le_refl _
 | .cons h t=>by
   have:=names_cost h
   have:=names_cost t
   simp only[N.names,N.cost,List.length_append]
   omega
 | .n kind text num kids=>by
   have:=names_cost kids
   simp only[N.names,N.cost]
   split
   · rename_i h
     have h1:¬ kind.data.toList=[]:=by rw[h];decide
     have h2:¬ kind.data.toList=kList.data.toList:=by rw[h];decide
     simp only[h1,h2,or_self,if_false,List.length_cons]
     omega
   · omega
end Gc
namespace Go.Proofs.YtleolbpibjnedaaGreat
open Go Go.RowKit Gc
theorem ul_mapF:Tryz.prog.underlying 119=some (.map 9 54):=by kernel_rfl
theorem ul_str:Tryz.prog.underlying 9=some .string:=by kernel_rfl
theorem zero_pF(w:World):(zeroValue 54).run Tryz.prog w=.ok (.pointer none) w:=by kernel_rfl
def MapS(w:World)(mb:Nat)(f:Str→Option Addr):Prop :=
 ∃ es clock,w.heap[mb]?=some (.map es clock)∧(∀ e∈es.toList,∃ s a,e.key=.string s∧s.size≤1000∧e.val=.pointer (some a)∧f s=some a)∧(∀ s a,f s=some a→∃ e∈es.toList,e.key=.string s)
theorem MapS.kept{w w':World}{mb:Nat}{f:Str→Option Addr}(h:MapS w mb f){M:Nat→Prop}(hk:Kept M w w')(hM:¬ M mb):MapS w' mb f:=by
 obtain⟨es,clock,h1,h2,h3⟩:=h
 exact⟨es,clock,hk.obj h1 hM,h2,h3⟩
theorem MapS.new(w:World):MapS (w.alloc (.map #[] 0)) w.heap.size (fun _=>none) :=
 ⟨#[],0,heap_alloc_new w _,by simp,fun s a h=>by cases h⟩
theorem keyS{s:Str}(h:s.size≤1000):∃ l,keyOf Tryz.prog 9 (.string s)=some l:=⟨_,WideMaps.keyOf_string_mk ul_str (by unfold maxLen;omega)⟩
theorem MapS.find{w:World}{f:Str→Option Addr}{es:Array MapEntry}(h2:∀ e∈es.toList,∃ s a,e.key=.string s∧s.size≤1000∧e.val=.pointer (some a)∧f s=some a)(h3:∀ s a,f s=some a→∃ e∈es.toList,e.key=.string s)
 {s:Str} (h0:s.size≤1000) :
 ((Instr.findKey 9 (.string s) es.toList).run Tryz.prog w=.ok none w∧f s=none)∨∃ j a,(Instr.findKey 9 (.string s) es.toList).run Tryz.prog w=.ok (some (j,.pointer (some a))) w∧f s=some a:=by
 obtain⟨l,hl⟩:=keyS h0
 rcases(Maps.string_keyed (P:=Tryz.prog) ul_str).find w hl es.toList (fun e he=>by obtain⟨j,a,hj,p0,_⟩:=h2 e he;rw[hj];exact keyS p0) with ⟨hr,hn⟩ | ⟨j,e,hr,hj,he⟩
 · refine .inl ⟨hr,?_⟩
   cases hf:f s with
   | none=>rfl
   | some a=>obtain⟨e,he,hk⟩:=h3 s a hf;exact absurd hk (hn e he)
 · obtain⟨i',a,hk,_,hv,hf⟩:=h2 e (List.mem_of_getElem? hj)
   rw[he]at hk
   cases hk
   rw[hv]at hr
   exact .inr ⟨j,a,hr,hf⟩
theorem MapS.check(w:World){s:Str}(h0:s.size≤1000)(em:Bool):(Instr.checkKey em 10000 9 (.string s)).run Tryz.prog w=.ok () w:=by
 obtain⟨l,hl⟩:=keyS h0
 exact(Maps.string_keyed (P:=Tryz.prog) ul_str).check w em hl
theorem MapS.look{w:World}{mb:Nat}{f:Str→Option Addr}(h:MapS w mb f){s:Str}(h0:s.size≤1000) :
 (Instr.lookup 119 (.map (some mb)) (.string s) false).run Tryz.prog w=.ok (.pointer (f s)) w:=by
 obtain⟨es,clock,hb,h2,h3⟩:=h
 rcases MapS.find (w:=w) h2 h3 h0 with ⟨hr,hf⟩|⟨j,a,hr,hf⟩
 · simp[Instr.lookup,run_underlying ul_mapF,MapKept.run_getObj_map hb,MapS.check w h0,hr,zero_pF,Result.andThen,hf]
 · simp[Instr.lookup,run_underlying ul_mapF,MapKept.run_getObj_map hb,MapS.check w h0,hr,Result.andThen,hf]
theorem MapS.store{w:World}{mb:Nat}{f:Str→Option Addr}(h:MapS w mb f){s:Str}(h0:s.size≤1000)(hf:f s=none)(a:Addr) :
 ∃ w',(Instr.mapUpdate 119 (.map (some mb)) (.string s) (.pointer (some a))).run Tryz.prog w=.ok () w'∧MapS w' mb (fun t=>if t=s then some a else f t)∧Kept (fun b=>b=mb) w w':=by
 obtain⟨es,clock,hb,h2,h3⟩:=h
 rcases MapS.find (w:=w) h2 h3 h0 with ⟨hr,_⟩|⟨j,a',hr,hf'⟩
 · refine⟨ChangeMaps.setBlock w mb (.map (es.push ⟨.string s,.pointer (some a),clock⟩) (clock+1)),?_,⟨_,_,ChangeMaps.heap_setBlock_same hb _,?_,?_⟩,⟨rfl,rfl,rfl,by simp[ChangeMaps.setBlock],fun k _ hk=>ChangeMaps.heap_setBlock_other hb _ hk⟩⟩
   · simp[Instr.mapUpdate,run_underlying ul_mapF,MapKept.run_getObj_map hb,MapS.check w h0,hr,MapKept.run_setObj_map _ hb,Result.andThen,ChangeMaps.setBlock]
   · intro e he
     simp only[Array.toList_push,List.mem_append,List.mem_singleton]at he
     rcases he with he|rfl
     · obtain⟨t,b,p1,p2,p3,p4⟩:=h2 e he
       refine⟨t,b,p1,p2,p3,?_⟩
       have hts:t≠s:=fun e=>by rw[e,hf]at p4;cases p4
       simp only[hts,if_false]
       exact p4
     · exact⟨s,a,rfl,h0,rfl,by simp⟩
   · intro t b hj
     by_cases e:t=s
     · subst e;exact⟨⟨.string t,.pointer (some a),clock⟩,by simp,rfl⟩
     · simp only[e,if_false]at hj
       obtain⟨x,hx,hk⟩:=h3 t b hj
       exact⟨x,by simp[hx],hk⟩
 · rw[hf]at hf';cases hf'
theorem un_pF:Tryz.prog.underlying 54=some (.pointer 125):=by kernel_rfl
theorem size_F:(Tryz.prog.info? 125).map (fun i=>decide (i.size≠0))=some true:=by kernel_rfl
theorem eqIn_same(a:Addr)(d:Nat)(w:World):(Op.equalIn (d+1) 54 (.pointer (some a)) (.pointer (some a))).run Tryz.prog w=.ok true w:=by
 have h2:=size_F
 cases hi2:Tryz.prog.info? 125 with
 | none=>rw[hi2]at h2;cases h2
 | some j=>simp[Op.equalIn,run_underlying un_pF,typeInfo,sizeOf,run_sameAddr_same,hi2]
theorem eqIn_other{a b:Addr}{ca cb:Array Value}{ta tb:TypeId}(d:Nat){w:World}(hne:a≠b)(ha:w.heap[a.block]?=some (.cells ca ta (0,0)))(hb:w.heap[b.block]?=some (.cells cb tb (0,0))):(Op.equalIn (d+1) 54 (.pointer (some a)) (.pointer (some b))).run Tryz.prog w=.ok false w:=by
 have h2:=size_F
 cases hi2:Tryz.prog.info? 125 with
 | none=>rw[hi2]at h2;cases h2
 | some j =>
   have c2:j.size≠0:=by rw[hi2]at h2;simpa using h2
   simp[Op.equalIn,run_underlying un_pF,typeInfo,sizeOf,run_sameAddr_other w hne ha hb,hi2,c2]
theorem resolve_ident(b0:Nat)(text:Str)(cur:Value)(mb:Nat)(f:Str→Option Addr)(w:World)(hb:w.heap[b0]?=some (.cells #[.string text,.pointer none] 128 (0,0)))(hm:MapS w mb f)(h0:text.size≤1000) :
 Calls Tryz.prog 64 #[.iface 121 (.pointer (some ⟨b0,0,none⟩)),cur,.map (some mb)] w (fun e w'=>e=.returned (.pointer (f text))∧w=w'):=by
 have p0:=cell_of_cells (cs:=[_,_]) hb 0 rfl
 have p1:=cell_of_cells (cs:=[_,_]) hb 1 rfl
 have z0:b0<w.heap.size:=lt_of_heap hb
 have hl:=hm.look h0
 have t_ParenExpr:=nob (P:=Tryz.prog) 121 b0 153 un_ParenExpr zp_ParenExpr (by decide)
 have t_IndexExpr:=nob (P:=Tryz.prog) 121 b0 153 un_IndexExpr zp_IndexExpr (by decide)
 have t_IndexListExpr:=nob (P:=Tryz.prog) 121 b0 153 un_IndexListExpr zp_IndexListExpr (by decide)
 have t_Ident:∀ w,(Instr.typeAssert (.iface 121 (.pointer (some ⟨b0,0,none⟩))) 153 121 true).run Tryz.prog w=.ok (.tuple #[.pointer (some ⟨b0,0,none⟩),.bool true]) w:=fun w=>as_ident _ _ w
 clear hb hm h0
 go_enter Tryz.func64,Tryz.ntmps64
 go_wp2_with fail
 go_ret
 exact⟨rfl,rfl⟩
end Go.Proofs.YtleolbpibjnedaaGreat
namespace Gc
open Go
def ptrs:List Addr→G
 | []=>.nil
 | a :: l=>.cons (.at (.pointer (some a)) .fin) (ptrs l)
theorem ptrs_len:∀ l,(ptrs l).len=l.length
 | []=>rfl
 | _ :: l=>by simp[ptrs,G.len,ptrs_len l]
theorem ptrs_snoc(a:Addr):∀ l,(ptrs l).snoc (.at (.pointer (some a)) .fin)=ptrs (l++[a])
 | []=>rfl
 | _ :: l=>by simp[ptrs,G.snoc,ptrs_snoc a l]
theorem ptrs_at{w:World}{D:Nat→Prop}:∀ {l:List Addr} {a:Option Addr} {n c k:Nat},Rep w D (ptrs l) [.slice a n c]→(h:k<l.length) →
 ∃ g o,a=some ⟨g,o,none⟩∧D g∧g<w.heap.size∧w.cell? ⟨g,o+k,none⟩=some (.pointer (some l[k]))
 | x :: l,a,n,c,k,hr,h=>by
   obtain⟨g,o,n',c',hs,e,⟨hD,hg⟩,hx,hc,ht⟩:=hr
   obtain⟨rs,rfl,rfl⟩:=hx
   simp only[List.cons.injEq,Value.slice.injEq,and_true]at e
   obtain⟨rfl,rfl,rfl⟩:=e
   cases k with
   | zero=>exact⟨g,o,rfl,hD,hg,hc 0 _ rfl⟩
   | succ k =>
     obtain⟨g',o',e,-,-,h4⟩:=ptrs_at (k:=k) ht (by simp at h;omega)
     simp only[Option.some.injEq,Addr.mk.injEq,and_true]at e
     obtain⟨rfl,rfl⟩:=e
     refine⟨g,o,rfl,hD,hg,?_⟩
     simp only[List.length_cons,List.length_nil,Nat.zero_add]at h4
     rw[show o+(k+1)=o+1+k by omega]
     exact h4
 | [],_,_,_,_,_,h=>by simp at h
end Gc
namespace Go.Proofs.YtleolbpibjnedaaGreat
open Go Go.RowKit Gc
theorem ul_sF:Tryz.prog.underlying 118=some (.slice 54):=by kernel_rfl
theorem info_pF:(Tryz.prog.info? 54).map (fun i=>(i.zero,i.size,i.bytes))=some (some (.pointer none),1,8):=by kernel_rfl
structure RInv (cf cm co mb fb:Nat) (f:Str→Option Addr) (B:Nat) (s:List Addr) (w:World):Prop where
 hf:w.heap[cf]?=some (.cells #[.pointer (some ⟨fb,0,none⟩)] 54 (0,0))
 hm:w.heap[cm]?=some (.cells #[.map (some mb)] 119 (0,0))
 map:MapS w mb f
 out:∃ a c,w.heap[co]?=some (.cells #[.slice a s.length c] 118 (0,0))∧OwnL w (fun b=>B≤b) B 54 1 (.slice a s.length c) (ptrs s)
 lt:cf<B∧cm<B∧co<B∧mb<B
 ne:cf≠co∧cm≠co∧mb≠co
 size:B≤w.heap.size
theorem callee_nil(cf cm co:Nat)(w:World):Calls Tryz.prog 63 #[.nilIface,.pointer (some ⟨cf,0,none⟩),.pointer (some ⟨cm,0,none⟩),.pointer (some ⟨co,0,none⟩)] w (fun e w'=>e=.returned (.bool true)∧w=w'):=by
 have t:∀ w,(Instr.typeAssert .nilIface 74 172 true).run Tryz.prog w=.ok (.tuple #[.pointer none,.bool false]) w:=fun w=>assert_nil un_CallExpr zp_CallExpr _ w
 go_enter Tryz.func63,Tryz.ntmps63
 go_wp2_with fail
 go_ret
 exact⟨rfl,rfl⟩
theorem callee_other(X:TypeId)(b:Nat)(hX:X≠172)(cf cm co:Nat)(w:World):Calls Tryz.prog 63 #[.iface X (.pointer (some ⟨b,0,none⟩)),.pointer (some ⟨cf,0,none⟩),.pointer (some ⟨cm,0,none⟩),.pointer (some ⟨co,0,none⟩)] w (fun e w'=>e=.returned (.bool true)∧w=w'):=by
 have t:=nob (P:=Tryz.prog) X b 74 un_CallExpr zp_CallExpr hX
 clear hX
 go_enter Tryz.func63,Tryz.ntmps63
 go_wp2_with fail
 go_ret
 exact⟨rfl,rfl⟩
theorem callee_call{cf cm co mb fb:Nat}{f:Str→Option Addr}{B:Nat}{s:List Addr}{w:World}(I:RInv cf cm co mb fb f B s w)(b b0:Nat)(v1:Value)(text:Str)(h0:text.size≤1000)(hs:s.length≤100000)
 (hb:w.heap[b]?=some (.cells #[.iface 121 (.pointer (some ⟨b0,0,none⟩)),v1] 177 (0,0))) (hb0:w.heap[b0]?=some (.cells #[.string text,.pointer none] 128 (0,0))) :
 Calls Tryz.prog 63 #[.iface 172 (.pointer (some ⟨b,0,none⟩)),.pointer (some ⟨cf,0,none⟩),.pointer (some ⟨cm,0,none⟩),.pointer (some ⟨co,0,none⟩)] w
  (fun e w'=>e=.returned (.bool true)∧RInv cf cm co mb fb f B (s++(f text).toList) w'∧Kept (fun b=>b=co∨B≤b) w w'):=by
 obtain⟨hf,hm,map,⟨a,c,hco,hown⟩,lt,ne,sz⟩:=I
 have hC:∀ (n:Nat) (cur:Value),Calls Tryz.prog 64 #[.iface 121 (.pointer (some ⟨b0,0,none⟩)),cur,.map (some mb)] (w.drewN n) (fun e w'=>e=.returned (.pointer (f text))∧w'=w.drewN n) :=
  fun n cur=>(resolve_ident b0 text cur mb f (w.drewN n) hb0 (map.kept (Kept.drewN (fun _=>False) w n) (fun f=>f)) h0).mono fun _ _ ⟨h1,h2⟩=>⟨h1,h2.symm⟩
 have p0:=cell_of_cells (cs:=[_,_]) hb 0 rfl
 have pf:=cell_of_cells (cs:=[_]) hf 0 rfl
 have pm:=cell_of_cells (cs:=[_]) hm 0 rfl
 have po:=cell_of_cells (cs:=[_]) hco 0 rfl
 have fo:=free_of_cells hco 0
 have zb:b<w.heap.size:=lt_of_heap hb
 have zf:cf<w.heap.size:=lt_of_heap hf
 have zm:cm<w.heap.size:=lt_of_heap hm
 have zo:co<w.heap.size:=lt_of_heap hco
 have t:∀ w,(Instr.typeAssert (.iface 172 (.pointer (some ⟨b,0,none⟩))) 74 172 true).run Tryz.prog w=.ok (.tuple #[.pointer (some ⟨b,0,none⟩),.bool true]) w:=fun w=>as_call _ _ w
 have Hf:=Lib.hid hf
 have Hm:=Lib.hid hm
 have Hmap:=Lib.hid map
 have Hco:=Lib.hid hco
 have Hown:=Lib.hid hown
 obtain⟨i0,hi,hz0,hz1,hz2⟩:=info_parts info_pF
 clear hb hb0 hf hm map hco hown
 obtain⟨y,hy⟩:∃ y,y=f text:=⟨_,rfl⟩
 rw[← hy]at hC ⊢
 have HC:=Lib.hid hC
 clear hC
 have Hy:=Lib.hid hy
 clear hy
 go_enter Tryz.func63,Tryz.ntmps63
 go_wp2_with fail
 go_quiet ((go_at_call 64;exact Calls.quiet_of_same (HC.out _ _)))
 obtain⟨w1,hw1⟩:∃ w1,w1=w.drewN nq:=⟨_,rfl⟩
 have k1:Kept (fun _=>False) w w1:=by rw[hw1];exact Kept.drewN _ _ _
 rw[← hw1]
 have s1:=k1.size
 have Hf1:=Lib.hid (k1.obj Hf.out (fun f=>f))
 have Hm1:=Lib.hid (k1.obj Hm.out (fun f=>f))
 have Hmap1:=Lib.hid (Hmap.out.kept k1 (fun f=>f))
 have Hco1:=Lib.hid (k1.obj Hco.out (fun f=>f))
 have Hown1:=Lib.hid (Hown.out.kept k1 (fun _ _ f=>f) (fun _ _ f=>f))
 clear hw1 HC Hf Hm Hmap Hco Hown p0 pf pm po fo
 have po:=cell_of_cells (cs:=[_]) Hco1.out 0 rfl
 have zo1:co<w1.heap.size:=lt_of_heap Hco1.out
 cases y with
 | none =>
   go_wp2_with fail
   go_ret
   exact⟨rfl,by simpa using (RInv.mk Hf1.out Hm1.out Hmap1.out ⟨a,c,Hco1.out,Hown1.out⟩ lt ne (by omega)),k1.mono fun _ _ f=>f.elim⟩
 | some y =>
   go_wp2_with (at_builtin;go_must (refine wpList_append_one (D:=fun b=>B≤b) (base:=B) (v:=.slice a s.length c) rfl (.tmp 25) (.tmp 27) 118 rfl i0 _ 8 ul_sF hi hz0 hz1 hz2 rfl rfl (Hown1.out.kept keptA (fun _ _ f=>f) (fun _ _ f=>f)) s.length (ptrs_len s) ⟨w1.heap.size,0,none⟩ 1 rfl (.at (.pointer (some y)) .fin) [.pointer (some y)] rfl (new_cells _ _ _) (by simp[Value.oneCell']) ⟨_,rfl,rfl⟩ (by omega) (by omega) (by simp;omega) ?_);intro g cap' w4 O4 K4 hb4 hg4;have ho4:=K4.obj ((keptA (M:=fun _=>False)).obj Hco1.out (fun f=>f)) (fun e=>by have:=(Hown1.out.lt _ e.symm).1;omega);have p4:=cell_of_cells (cs:=[_]) ho4 0 rfl;have f4:=free_of_cells ho4 0;have z4:=lt_of_heap ho4;have HO4:=Lib.hid ho4;clear ho4)
   go_ret
   have hB:∀ k,some k=(Value.slice a s.length c).ownBlock→B≤k:=fun k e=>(Hown1.out.lt k e.symm).1
   have KA:Kept (fun k=>some k=(Value.slice a s.length c).ownBlock) w1 w4:=(keptA (M:=fun k=>some k=(Value.slice a s.length c).ownBlock)).trans K4
   have KB:Kept (fun b=>b=co∨B≤b) w1 (w4.setCell ⟨co,0,none⟩ (.slice (some ⟨g,0,none⟩) (s.length+1) cap')):=(KA.mono fun k _ e=>.inr (hB k e)).trans (Kept.setCell (M:=fun b=>b=co∨B≤b) _ (a:=⟨co,0,none⟩) (.inl rfl) _)
   have el:(s++[y]).length=s.length+1:=by simp
   refine⟨rfl,⟨KB.obj Hf1.out (by omega),KB.obj Hm1.out (by omega),Hmap1.out.kept KB (by omega),⟨some ⟨g,0,none⟩,cap',?_,?_⟩,lt,ne,?_⟩,(k1.mono fun _ _ f=>f.elim).trans KB⟩
   · rw[show(s++(some y).toList).length=s.length+1 by simp]
     exact set_of_cells (cs:=[_]) HO4.out 0 _
   · rw[show(s++(some y).toList).length=s.length+1 by simp,show s++(some y).toList=s++[y] from rfl,← ptrs_snoc]
     exact O4.kept (M:=fun b=>b=co) Kept.set1e (fun b hb=>by have:=(O4.lt b hb).1;omega) (fun b hb=>by omega)
   · have:=KB.size;omega
end Go.Proofs.YtleolbpibjnedaaGreat
namespace Gc
open Go
def K.isCall:K→Bool
 | .call=>true
 | _=>false
theorem walk_len(f:Str→Option Addr)(a:A)(s:List Addr):(a.walk (rstep f) s).length≤s.length+a.N.names.length:=by
 rw[walk_names,List.length_append]
 have:=List.length_filterMap_le f a.N.names
 omega
theorem names_len(k:K)(text:Str)(num:Int)(o:Option Addr)(b:Nat)(f0 f1 f2 f3:A)(hk:k.real):(A.n k text num o b f0 f1 f2 f3).N.names.length =
 (if k.isCall=true then 1 else 0)+(if 0<k.arity then f0.N.names.length else 0)+(if 1<k.arity then f1.N.names.length else 0)+(if 2<k.arity then f2.N.names.length else 0)+(if 3<k.arity then f3.N.names.length else 0):=by
 by_cases hc:k=.call
 · subst hc
   simp[A.N,K.str,K.arity,K.isCall,nm_call,N.two,nm_cons,nm_nil]
   omega
 · have e:=names_kind k hc text num
   cases k<;>first
    | exact hk.elim
    | exact absurd rfl hc
    | (simp[A.N,K.arity,K.isCall,e,N.one,N.two,N.three,N.four,nm_cons,nm_nil];done)
    | (simp[A.N,K.arity,K.isCall,e,N.one,N.two,N.three,N.four,nm_cons,nm_nil];omega)
theorem rstep_len(f:Str→Option Addr)(k:K)(text:Str)(num:Int)(o:Option Addr)(b:Nat)(f0 f1 f2 f3:A)(s:List Addr):(rstep f (A.n k text num o b f0 f1 f2 f3) s).length≤s.length+(if k.isCall=true then 1 else 0):=by
 by_cases hc:k=.call
 · subst hc
   simp only[rstep,List.length_append,K.isCall,if_true]
   cases f f0.txt<;>simp
 · have:rstep f (A.n k text num o b f0 f1 f2 f3) s=s:=by cases k<;>first | rfl | exact absurd rfl hc
   rw[this]
   omega
def RPA(fo:Int→Option Addr)(a:A)(s:List Addr):Prop:=a.objs fo∧s.length+a.N.names.length≤5000
theorem rpa_n(f:Str→Option Addr)(fo:Int→Option Addr)(k:K)(text:Str)(num:Int)(o:Option Addr)(b:Nat)(f0 f1 f2 f3:A)(s:List Addr)(hk:k.real)(h:RPA fo (.n k text num o b f0 f1 f2 f3) s) :
 (0<k.arity→RPA fo f0 (rstep f (.n k text num o b f0 f1 f2 f3) s))∧(1<k.arity→RPA fo f1 (f0.walk (rstep f) (rstep f (.n k text num o b f0 f1 f2 f3) s))) ∧
 (2<k.arity→RPA fo f2 (f1.walk (rstep f) (f0.walk (rstep f) (rstep f (.n k text num o b f0 f1 f2 f3) s))))∧(3<k.arity→RPA fo f3 (f2.walk (rstep f) (f1.walk (rstep f) (f0.walk (rstep f) (rstep f (.n k text num o b f0 f1 f2 f3) s))))):=by
 obtain⟨⟨-,-,o0,o1,o2,o3⟩,hl⟩:=h
 rw[names_len k _ _ _ _ _ _ _ _ hk]at hl
 have l0:=rstep_len f k text num o b f0 f1 f2 f3 s
 have l1:=walk_len f f0 (rstep f (.n k text num o b f0 f1 f2 f3) s)
 have l2:=walk_len f f1 (f0.walk (rstep f) (rstep f (.n k text num o b f0 f1 f2 f3) s))
 have l3:=walk_len f f2 (f1.walk (rstep f) (f0.walk (rstep f) (rstep f (.n k text num o b f0 f1 f2 f3) s)))
 refine⟨fun h0=>⟨o0,?_⟩,fun h1=>⟨o1,?_⟩,fun h2=>⟨o2,?_⟩,fun h3=>⟨o3,?_⟩⟩
 · simp only[h0,if_true]at hl;omega
 · simp only[show 0<k.arity by omega,h1,if_true]at hl;omega
 · simp only[show 0<k.arity by omega,show 1<k.arity by omega,h2,if_true]at hl;omega
 · simp only[show 0<k.arity by omega,show 1<k.arity by omega,show 2<k.arity by omega,h3,if_true]at hl;omega
theorem VV_call{t:Str}{i:Int}{ks:N}(h:VV (.n kCall t i ks)):∃ f args,isName f∧ks=.two (.name f 0) (.list args):=by
 generalize hn:N.n kCall t i ks=n at h
 cases h with
 | v k n h =>
   cases h with
   | call f args hf h=>simp only[N.part,N.n.injEq]at hn;exact⟨f,args,hf,hn.2.2.2⟩
   | _=>exfalso;revert hn;simp[N.part,N.block,kCall,kIdent,kLit,kFuncLit,kParen,kUn,kBin,kExprS,kAssign,kInc,kIf,kFor,kRange,kSwitch,kSelect,kBranch,kReturn,kBlock,kLabeled,kCase,kComm]
 | _=>exfalso;revert hn;simp[N.part,N.block,N.ftype,kCall,kFuncType,kFieldList,kBlock,kFuncDecl]
theorem isName_size{f:Str}(h:isName f):f.size≤1000:=by rcases h with rfl | rfl | rfl | rfl<;>decide
end Gc
namespace Go.Proofs.YtleolbpibjnedaaGreat
open Go Go.RowKit Gc
abbrev calleesFn (cf cm co:Nat):Value:=.func (Fn.func 63) #[] #[.pointer (some ⟨cf,0,none⟩),.pointer (some ⟨cm,0,none⟩),.pointer (some ⟨co,0,none⟩)]
theorem callee_visit_of{cf cm co:Nat}{v:Value}{w:World}{P:World→Prop}(h:Calls Tryz.prog 63 #[v,.pointer (some ⟨cf,0,none⟩),.pointer (some ⟨cm,0,none⟩),.pointer (some ⟨co,0,none⟩)] w (fun e w'=>e=.returned (.bool true)∧P w')) :
 Calls Tryz.prog 238 #[calleesFn cf cm co,v] w (fun e w'=>e=.returned (.iface 337 (calleesFn cf cm co))∧P w'):=by
 have H:=Lib.hid h
 clear h
 go_enter Tryz.func238,Tryz.ntmps238
 go_wp2_with fail
 refine H.out.mono ?_
 rintro e w1 ⟨rfl,I⟩
 have HI1:=Lib.hid I
 clear I
 go_wp2_with fail
 go_ret
 exact⟨rfl,HI1.out⟩
theorem callee_visit{cf cm co mb fb:Nat}{f:Str→Option Addr}{B:Nat}{fo:Int→Option Addr}(a:A)(w:World)(D:Nat→Prop)(v:Value)(s:List Addr)(hv:VV a.N)(q:RPA fo a s)(hR:Rep w D (a.g 1 .fin) [v])(I:RInv cf cm co mb fb f B s w) :
 Calls Tryz.prog 238 #[calleesFn cf cm co,v] w (fun e w'=>e=.returned (.iface 337 (calleesFn cf cm co))∧RInv cf cm co mb fb f B (rstep f a s) w'∧Kept (fun b=>b=co∨B≤b) w w'):=by
 obtain⟨k,t,i,ks,hk,hN,-⟩:=VV_form hv
 obtain⟨o,b,f0,f1,f2,f3,rfl,hN'⟩:=A_of_N hN
 obtain⟨b',rfl,-⟩:=iface_of (k:=k) rfl hk hR
 by_cases hc:k=.call
 · subst hc
   rw[hN']at hv
   obtain⟨nm,args,hnm,hks⟩:=VV_call hv
   subst hks
   have e0:f0.N=.name nm 0:=congrArg (fun x=>match x with | Gc.N.n _ _ _ (.cons y _)=>y | _=>.nil) hN'
   have e1:f1.N=.list args:=congrArg (fun x=>match x with | Gc.N.n _ _ _ (.cons _ (.cons y _))=>y | _=>.nil) hN'
   obtain⟨o0,b0,g0,g1,g2,g3,rfl,-⟩:=A_of_N (k:=.ident) e0
   have i1:f1.isn:=by
    obtain⟨_,_,_,_,_,_,rfl,-⟩:=A_of_N (k:=.list) e1
    trivial
   have i0:A.isn (.n .ident nm 0 o0 b0 g0 g1 g2 g3):=trivial
   obtain⟨ev,-,v0,v1,ho,r0,-⟩:=open_call (m:=1) (.inr rfl) i0 i1 hR
   have eb:b'=b:=by simp only[if_true,ptrVal]at ev;cases ev;rfl
   subst eb
   obtain⟨rfl,-,ho0⟩:=open_ident (m:=1) (.inr rfl) r0
   have eo:o0=none:=q.1.2.2.1.1
   subst eo
   exact callee_visit_of (callee_call I _ _ v1 nm (isName_size hnm) (by have:=q.2;omega) ho ho0)
 · have hp:k.pty≠172:=by cases k<;>first | exact absurd rfl hc | exact hk.elim | decide
   have es:rstep f (A.n k t i o b f0 f1 f2 f3) s=s:=by cases k<;>first | rfl | exact absurd rfl hc
   rw[es]
   exact callee_visit_of ((callee_other k.pty b' hp cf cm co w).mono fun e w' ⟨h1,h2⟩=>by subst h2;exact⟨h1,I,Kept.refl _ _⟩)
theorem callees_vis(cf cm co mb fb:Nat)(f:Str→Option Addr)(B:Nat)(fo:Int→Option Addr):Vis (List Addr) 337 (calleesFn cf cm co) 238 (calleesFn cf cm co) (fun b=>b=co∨B≤b) (RInv cf cm co mb fb f B) (A.walk (rstep f)) (rstep f) (RPA fo) (fun _=>true) :=
 Vis.self (meth_insp _ _ _) ent_insp (fun a w D v s hv q hR _ hI=>callee_visit a w D v s hv q hR hI)
  (fun w s hI=>callee_visit_of ((callee_nil cf cm co w).mono fun e w' ⟨h1,h2⟩=>by subst h2;exact⟨h1,hI,Kept.refl _ _⟩))
  (fun h t s ⟨h1,h2⟩=>by
    simp only[A.N,nm_cons,List.length_append]at h2
    have:=walk_len f h s
    exact⟨⟨h1.1,by omega⟩,h1.2,by omega⟩)
  (fun k text num o b f0 f1 f2 f3 s hk h=>rpa_n f fo k text num o b f0 f1 f2 f3 s hk h)
  (fun text num o b f0 f1 f2 f3 s ⟨h1,h2⟩=>⟨h1.2.2.1,by
    simp only[A.N,K.str,nm_]at h2
    exact h2⟩)
theorem func_open{x:A}{called:Str}{l:N}(hx:x.N=Gc.N.func called l){w:World}{D:Nat→Prop}{b:Nat}(hR:Rep w D (x.g 1 .fin) [.iface 54 (.pointer (some ⟨b,0,none⟩))]) :
 ∃ (f3:A) (b1 b3:Nat) (o1:Option Addr) (v2:Value),f3.N=.block l∧w.heap[b]?=some (.cells #[.pointer none,.pointer (some ⟨b1,0,none⟩),v2,.pointer (some ⟨b3,0,none⟩)] 125 (0,0)) ∧
  w.heap[b1]?=some (.cells #[.string called,.pointer o1] 128 (0,0))∧Rep w D (f3.g 1 .fin) [.iface 123 (.pointer (some ⟨b3,0,none⟩))]∧D b∧D b1∧(∀ fo,x.objs fo→f3.objs fo):=by
 obtain⟨o,b',f0,f1,f2,f3,rfl,e⟩:=A_of_N (k:=.func) hx
 have e0:f0.N=Gc.N.none:=congrArg (fun x=>match x with | Gc.N.n _ _ _ (.cons y _)=>y | _=>.nil) e
 have e1:f1.N=.name called 0:=congrArg (fun x=>match x with | Gc.N.n _ _ _ (.cons _ (.cons y _))=>y | _=>.nil) e
 have e2:f2.N=Gc.N.ftype:=congrArg (fun x=>match x with | Gc.N.n _ _ _ (.cons _ (.cons _ (.cons y _)))=>y | _=>.nil) e
 have e3:f3.N=.block l:=congrArg (fun x=>match x with | Gc.N.n _ _ _ (.cons _ (.cons _ (.cons _ (.cons y _))))=>y | _=>.nil) e
 obtain⟨i0,m0⟩:=W_none e0
 have i1:f1.isn:=isn_of_N (by rw[e1];trivial)
 have i2:f2.isn:=isn_of_N (by rw[e2];trivial)
 have i3:f3.isn:=isn_of_N (by rw[e3];trivial)
 obtain⟨o1,b1,_,_,_,_,rfl,-⟩:=A_of_N (k:=.ident) e1
 obtain⟨_,_,_,_,_,_,rfl,-⟩:=A_of_N (k:=.ftype) e2
 obtain⟨_,b3,_,_,_,_,rfl,-⟩:=A_of_N (k:=.block) e3
 obtain⟨ev,hb,v0,v1,v2,v3,ho,r0,r1,r2,r3⟩:=open_func (m:=1) (.inr rfl) i0 i1 i2 i3 hR
 have eb:b=b':=by simp only[if_true,ptrVal]at ev;cases ev;rfl
 subst eb
 obtain rfl:=none_of0 i0 m0 r0
 obtain⟨ev1,hb1,ho1⟩:=open_ident (m:=0) (.inl rfl) r1
 obtain⟨b3',rfl,-⟩:=ptr_of (k:=.block) rfl trivial r3
 simp only[show ¬ (0=1) by decide,if_false,ptrVal]at ev1
 subst ev1
 exact⟨_,b1,b3',o1,v2,e3,ho,ho1,iface_ptr (k:=.block) rfl trivial r3,hb,hb1,fun fo h=>h.2.2.2.2.2⟩
theorem callee_inspect_of{cf cm co:Nat}{v:Value}{w:World}{P:World→Prop}(h:Calls Tryz.prog 59 #[.iface 337 (calleesFn cf cm co),v] w (fun e w'=>e=.returned (.tuple #[])∧P w')) :
 Calls Tryz.prog 56 #[v,calleesFn cf cm co] w (fun e w'=>e=.returned (.tuple #[])∧P w'):=by
 have H:=Lib.hid h
 clear h
 go_enter Tryz.func56,Tryz.ntmps56
 go_wp2_with fail
 refine H.out.mono ?_
 rintro e w1 ⟨rfl,I⟩
 have HI1:=Lib.hid I
 clear I
 go_wp2_with fail
 go_end0
 exact⟨rfl,HI1.out⟩
theorem callees_any{x:A}{called:Str}{l:N}(hV:Gc.V .Ss l)(hc:l.cost≤100000)(hx:x.N=Gc.N.func called l)(hn:l.names.length≤4000)(fo:Int→Option Addr)(hfo:x.objs fo)(w:World)(D:Nat→Prop)(b mb:Nat)(f:Str→Option Addr)
 (hR:Rep w D (x.g 1 .fin) [.iface 54 (.pointer (some ⟨b,0,none⟩))]) (hm:MapS w mb f) :
 Calls Tryz.prog 49 #[.pointer (some ⟨b,0,none⟩),.map (some mb)] w (fun e w'=>∃ a n c,e=.returned (.slice a n c)∧n=(l.names.filterMap f).length∧Rep w' (fun b=>w.heap.size≤b) (ptrs (l.names.filterMap f)) [.slice a n c]∧Kept (fun _=>False) w w'):=by
 obtain⟨f3,b1,b3,o1,v2,e3,ho,-,r3,hDb,-,hob⟩:=func_open hx hR
 have hmf:∀ (fn:Fn) (first cap:Array Value) (w:World),(Instr.makeFunc fn first cap).run Tryz.prog w=.ok (.func fn first cap) w:=fun _ _ _ _=>rfl
 have zm:mb<w.heap.size:=by obtain⟨es,clock,h,_⟩:=hm;exact lt_of_heap h
 have kA:∀ o1 o2 o3,Kept (fun _=>False) w (((w.alloc o1).alloc o2).alloc o3):=fun _ _ _=>(keptA.trans keptA).trans keptA
 have W1:=(W_body (callees_vis w.heap.size (w.heap.size+1) (w.heap.size+1+1) mb b f (w.heap.size+1+1+1) fo) hV hc e3).2.2
 have hq:RPA fo f3 []:=⟨hob fo hfo,by rw[e3];simp[Gc.N.block,Gc.N.part,Gc.N.one,Gc.N.list,nm_,nm_cons,nm_nil];omega⟩
 have HW:=Lib.hid W1
 have HQ:=Lib.hid hq
 have p3:=cell_of_cells (cs:=[_,_,_,_]) ho 3 rfl
 have zb:b<w.heap.size:=lt_of_heap ho
 have p3':∀ o1 o2 o3,(((w.alloc o1).alloc o2).alloc o3).cell? ⟨b,3,none⟩=some (.pointer (some ⟨b3,0,none⟩)):=fun _ _ _=>(kA _ _ _).cell p3 (fun f=>f)
 have HM:=Lib.hid hm
 have HR:=Lib.hid r3
 have He:=Lib.hid e3
 clear hR hm r3 ho hx W1 hq hob hfo e3 hV
 go_enter Tryz.func49,Tryz.ntmps49
 go_wp2_with fail
 have HI:RowKit.Hid (RInv w.heap.size (w.heap.size+1) (w.heap.size+1+1) mb b f (w.heap.size+1+1+1) [] (((w.alloc (.cells #[.pointer (some ⟨b,0,none⟩)] 54)).alloc (.cells #[.map (some mb)] 119)).alloc (.cells #[.slice none 0 0] 118))) :=
  Lib.hid ⟨heap3_0 w _ _ _,heap3_1 w _ _ _,HM.out.kept (kA _ _ _) (fun f=>f),⟨none,0,heap3_2 w _ _ _,OwnL.nil _ _ _ _ _⟩,by omega,by omega,by simp⟩
 refine(callee_inspect_of (P:=fun w'=>RInv w.heap.size (w.heap.size+1) (w.heap.size+1+1) mb b f (w.heap.size+1+1+1) (l.names.filterMap f) w'∧Kept (fun _=>False) w w') ((HW.out _ (fun b=>b<w.heap.size) _ [] HQ.out ((HR.out.imp fun b hb _=>hb).kept (kA _ _ _) (fun _ _ f=>f)) (fun b hb=>by omega) HI.out).mono ?_)).mono ?_
 · rintro e w1 ⟨rfl,I,K⟩
   refine⟨rfl,?_,(((kA _ _ _).mono (M':=fun b=>False∨w.heap.size≤b) fun _ _ f=>f.elim).trans (K.mono fun b _ h=>.inr (by omega))).fresh (Nat.le_refl _)⟩
   have e:=walk_names f f3 []
   rw[He.out,List.nil_append,show(Gc.N.block l).names=l.names by simp[Gc.N.block,Gc.N.part,Gc.N.one,Gc.N.list,nm_,nm_cons,nm_nil]]at e
   rw[← e]
   exact I
 rintro e w1 ⟨rfl,I,K⟩
 obtain⟨a,c,hco,hown⟩:=I.out
 have po:=cell_of_cells (cs:=[_]) hco 0 rfl
 have zo:w.heap.size+1+1<w1.heap.size:=lt_of_heap hco
 have HO:=Lib.hid hown
 clear hco hown I
 go_wp2_with fail
 go_ret
 exact⟨a,_,c,rfl,rfl,(HO.out.rep (fun b h0 _=>h0)).imp (fun b _ h=>by omega),K⟩
end Go.Proofs.YtleolbpibjnedaaGreat
