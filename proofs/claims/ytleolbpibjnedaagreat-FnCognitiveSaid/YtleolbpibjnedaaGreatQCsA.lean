/- spec.operators. -/
import Derived.Test.YtleolbpibjnedaaGreatQLsI
import Derived.Laws.OwnMore
set_option linter.unusedSimpArgs false
set_option linter.unusedVariables false
set_option maxRecDepth 100000
set_option maxHeartbeats 4000000
namespace Gc
open Go
def T.opl:T→List Str
 | .x kind _ op (.cons a (.cons b _)) _=>if kind=2 then a.opl++(if logic op=true then [op] else [])++b.opl else []
 | _=>[]
def strVals(l:List Str):List Value:=l.map .string
theorem strVals_one:∀ (l:List Str),∀ u∈strVals l,u.oneCell'=true:=fun l u hu=>by
 simp only[strVals,List.mem_map]at hu
 obtain⟨_,_,rfl⟩:=hu
 rfl
theorem wpList_append_done{P:Program}{ops:Array Oper}{rest:List Oper}{o:Oper}{A:Act}{Q:Exit→Act→World→Prop}{w w':World}{v x v':Value}(hgd:o.guard=none)(s y:Operand)(t:TypeId)
 (ho:o.op=.call { callee:=.builtin .append,args:=#[s,y],argTypes:=#[t,t] }) (hs:A.eval s=v) (hy:A.eval y=x) (hr:(Builtin.append_ #[t,t] o.type #[v,x]).run P w=.ok v' w')
 (h:wpList P ops Q rest (A.put o.dst v') w'):wpList P ops Q (o :: rest) A w:=by
 refine wpList_plain hgd fun K hK=>?_
 unfold Oper.wp execOp
 simp only[ho,resolve,invoke,builtin,Sem.run_bind,Sem.run_pure,Result.andThen_ok,List.map_toArray,List.map_cons,List.map_nil,hs,hy,hr]
 exact hK _ _ h
end Gc
namespace Go.Proofs.YtleolbpibjnedaaGreat
open Go Go.RowKit Gc
def OwnS(w:World)(base:Nat)(v:Value)(l:List Str):Prop:=w.ownsRow base 9 1 v l.length (strVals l)
theorem OwnS.kept{w w':World}{base:Nat}{v:Value}{l:List Str}(h:OwnS w base v l)(hk:Kept (fun _=>False) w w'):OwnS w' base v l:=ownsRow.keptBy h hk (fun _ _ f=>f)
theorem OwnS.low{w:World}{base base':Nat}{v:Value}{l:List Str}(h:OwnS w base v l)(hb:base'≤base):OwnS w base' v l:=by
 refine⟨h.1,h.2.imp id ?_⟩
 rintro ⟨g,cap,cur,h1,h2,h3⟩
 exact⟨g,cap,cur,h1,by omega,h3⟩
theorem OwnS.ge{w:World}{base:Nat}{v:Value}{l:List Str}(h:OwnS w base v l):∀ k,v.ownBlock=some k→base≤k:=fun k e=>by
 rcases h.2 with ⟨rfl,_⟩|⟨g,cap,cur,rfl,hb,_⟩
 · cases e
 · simp only[Value.ownBlock,Option.some.injEq]at e;omega
theorem append_strs{w:World}{base:Nat}{v x:Value}{l m:List Str}{B:Nat}(ho:OwnS w base v l)(hx:OwnS w B x m)(hl:l.length≤100000)(hm:m.length≤100000)(hb:base≤w.heap.size)(ty:TypeId) :
 ∃ v' w',(Builtin.append_ #[25,25] ty #[v,x]).run Tryz.prog w=.ok v' w'∧OwnS w' base v' (l++m)∧Kept (fun k=>v.ownBlock=some k) w w':=by
 obtain⟨i0,hi,hz0,hz1,hz2⟩:=info_parts info_Str
 rcases hx.2 with ⟨rfl,h0⟩|⟨g,cap,cur,rfl,hg,hh,hnc,_,hcs,htake⟩
 · have e:=List.eq_nil_of_length_eq_zero h0
   subst e
   exact⟨v,w,run_append_owned_none w base 25 ty 9 i0 1 ul_sStr hi v _ _ ho,by simpa using ho,Kept.refl _ _⟩
 · obtain⟨v',w',hr,ho',hgr,-⟩:=run_append_own (P:=Tryz.prog) (w:=w) base 25 ty 9 i0 _ 1 16 ul_sStr hi hz0 hz1 hz2 rfl (by decide) v l.length (strVals l) ho ⟨g,0,none⟩ m.length cap (strVals m) (by simp[strVals])
    (fun j u hu=>by
      have hj:j<m.length:=by have:=(List.getElem?_eq_some_iff.1 hu).1;simpa [strVals]using this
      have h2:w.ownsRow B 9 1 (.slice (some ⟨g,0,none⟩) m.length cap) m.length (strVals m):=hx
      rw[addr_add,Nat.zero_add]
      exact(h2.cellAt j (by omega)).trans hu) (strVals_one m) (by unfold maxLen;omega) (by omega) hb
   refine⟨v',w',hr,?_,Kept.grown hgr (fun k e=>e)⟩
   show w'.ownsRow base 9 1 v' (l++m).length (strVals (l++m))
   rw[List.length_append,show strVals (l++m)=strVals l++strVals m by simp[strVals]]
   exact ho'
def OpsP(w:World)(l:List Str)(e:Ending)(w':World):Prop:=∃ v,e=.returned v∧OwnS w' w.heap.size v l∧Kept (fun _=>False) w w'
def OpsOk(t:T):Prop:=t.opl.length≤10000→∀ (w:World) (D:Nat→Prop) (v0 v1 v2 v3 v4:Value),Rep w D t.g [v0,v1,v2,v3,v4]→Calls Tryz.prog 106 #[.agg #[v0,v1,v2,v3,v4]] w (OpsP w t.opl)
theorem ops_no(kind n:Nat)(op:Str)(kids body:T)(hk:kind≠2):OpsOk (.x kind n op kids body):=by
 intro _ w D v0 v1 v2 v3 v4 hr
 have e:(T.x kind n op kids body).opl=[]:=by unfold T.opl;split<;>first | (split<;>first | rfl | (rename_i h;cases ‹T.x _ _ _ _ _=_›;exact absurd h hk)) | rfl
 rw[e]
 obtain⟨rfl,rfl,rfl,h3,h4⟩:=x_inv hr
 have hkb:((kind:Int) == 2)=false:=by simp;omega
 clear hr h3 h4 e
 go_enter Tryz.func106,Tryz.ntmps106
 go_wp2_with fail
 go_ret
 exact⟨_,rfl,World.ownsRow_nil _ _ _ _,keptA⟩
theorem ops_two(n:Nat)(op:Str)(x y body:T)(hbl:body.isList)(hall:(T.cons x (.cons y .nil)).All ExprX)(hx:OpsOk x)(hy:OpsOk y):OpsOk (.x 2 n op (.cons x (.cons y .nil)) body):=by
 intro hlen w D v0 v1 v2 v3 v4 hr
 have eo:(T.x 2 n op (.cons x (.cons y .nil)) body).opl=x.opl++(if logic op=true then [op] else [])++y.opl:=by simp only[T.opl,if_true]
 rw[eo]at hlen
 have hlx:x.opl.length≤10000:=by simp only[List.length_append]at hlen;omega
 have hly:y.opl.length≤10000:=by simp only[List.length_append]at hlen;omega
 obtain⟨rfl,rfl,rfl,h3,h4⟩:=x_inv hr
 obtain⟨a3,n3,c3,rfl,hn3⟩:=list_val (T.g_isList (.cons x (.cons y .nil)) trivial) h3
 obtain⟨a4,n4,c4,rfl,-⟩:=list_val (T.g_isList body hbl) h4
 rw[T.g_len]at hn3
 obtain rfl:n3=2:=hn3
 obtain⟨g,o,rfl⟩:=slice_some (T.g_isList (.cons x (.cons y .nil)) trivial) h3 (by omega)
 obtain⟨kd5,nn5,op5,a5,n5,c5,a6,n6,c6,hX,-,hg,p0,p1,p2,p3,p4⟩:=x_at (k:=0) h3 trivial hall (by simp[T.len])
 obtain⟨kd7,nn7,op7,a7,n7,c7,a8,n8,c8,hY,-,-,q0,q1,q2,q3,q4⟩:=x_at (k:=1) h3 trivial hall (by simp[T.len])
 simp only[Nat.zero_mul,Nat.add_zero,Nat.one_mul]at p0 p1 p2 p3 p4 q0 q1 q2 q3 q4
 obtain⟨W0,hW0⟩:∃ W0,W0=w.alloc (.cells #[.int .i64 ((2:Nat):Int),.int .i64 n,.string op,.slice (some ⟨g,o,none⟩) 2 c3,.slice a4 n4 c4] 64):=⟨_,rfl⟩
 have kA:Kept (fun _=>False) w W0:=by rw[hW0];exact keptA
 have ox:W0.heap[w.heap.size]?=some (.cells #[.int .i64 2,.int .i64 n,.string op,.slice (some ⟨g,o,none⟩) 2 c3,.slice a4 n4 c4] 64 (0,0)):=by rw[hW0];exact heap_alloc_new w _
 have HX:=Lib.hid (hx hlx W0 D _ _ _ _ _ (hX.kept kA (fun _ _ f=>f)))
 have HY:=Lib.hid (fun (w':World) (k:Kept (fun _=>False) w w')=>hy hly w' D _ _ _ _ _ (hY.kept k (fun _ _ f=>f)))
 have Eo:=Lib.hid eo
 have P0:=kA.cell p0 (fun f=>f)
 have P1:=kA.cell p1 (fun f=>f)
 have P2:=kA.cell p2 (fun f=>f)
 have P3:=kA.cell p3 (fun f=>f)
 have P4:=kA.cell p4 (fun f=>f)
 have zg:g<W0.heap.size:=Nat.lt_of_lt_of_le hg kA.size
 obtain⟨x0,x1,x2,x3,x4,-⟩:=slot5 ox
 have z0:w.heap.size<W0.heap.size:=lt_of_heap ox
 have Hlen:=Lib.hid hlen
 clear hr h3 h4 hX hY hx hy hall eo hlen p0 p1 p2 p3 p4
 obtain⟨ll,hll⟩:∃ ll,ll=(T.x 2 n op (.cons x (.cons y .nil)) body).opl:=⟨_,rfl⟩
 rw[← hll]at Eo ⊢
 clear hll
 show Calls Tryz.prog 106 #[.agg #[.int .i64 2,.int .i64 n,.string op,.slice (some ⟨g,o,none⟩) 2 c3,.slice a4 n4 c4]] w _
 go_enter Tryz.func106,Tryz.ntmps106
 go_upto_region 1 with fail
 rw[show w.alloc (.cells #[.int .i64 2,.int .i64 n,.string op,.slice (some ⟨g,o,none⟩) 2 c3,.slice a4 n4 c4] 64)=W0 from hW0.symm]
 clear hW0
 go_wp2_with fail
 refine HX.out.mono ?_
 rintro e w1 ⟨r1,rfl,S1,k1⟩
 have k01:=kA.trans k1
 have ox1:=k1.obj ox (fun f=>f)
 obtain⟨x0,x1,x2,x3,x4,-⟩:=slot5 ox1
 have z1:w.heap.size<w1.heap.size:=lt_of_heap ox1
 have HS1:=Lib.hid (S1.low (base':=W0.heap.size) (Nat.le_refl _))
 clear S1
 go_wp2_with fail
 refine(logic_any op _).mono ?_
 rintro e w1' ⟨rfl,rfl⟩
 obtain⟨lg,hlg⟩:∃ lg,lg=logic op:=⟨_,rfl⟩
 rw[← hlg]at Eo Hlen ⊢
 clear hlg
 have hs01:=k1.size
 cases lg with
 | false =>
   have E2:ll=x.opl++y.opl:=by rw[Eo.out];simp
   have He2:=Lib.hid E2
   clear E2
   have Q0:=k01.cell q0 (fun f=>f)
   have Q1:=k01.cell q1 (fun f=>f)
   have Q2:=k01.cell q2 (fun f=>f)
   have Q3:=k01.cell q3 (fun f=>f)
   have Q4:=k01.cell q4 (fun f=>f)
   have zg1:g<w1.heap.size:=by omega
   go_wp2_with fail
   refine(HY.out w1 k01).mono ?_
   rintro e w2 ⟨r2,rfl,S2,k2⟩
   obtain⟨v',w',hr',ho',hk'⟩:=append_strs (HS1.out.kept k2) S2 (by omega) (by omega) (by have:=k2.size;omega) 25
   have HO:=Lib.hid ho'
   have hge:=(HS1.out.kept k2).ge
   have Hge:=Lib.hid hge
   clear ho' S2 hge
   go_wp2_with (at_builtin;go_must (refine wpList_append_done rfl (.tmp 20) (.tmp 25) 25 rfl rfl rfl hr' ?_))
   go_ret
   exact⟨v',rfl,by rw[He2.out];exact HO.out.low (by omega),(((k01.trans k2).mono (M':=fun b=>False∨w.heap.size≤b) fun _ _ f=>f.elim).trans (hk'.mono fun b _ e=>.inr (by have:=Hge.out b e;omega))).fresh (Nat.le_refl _)⟩
 | true =>
   have E2:ll=(x.opl++[op])++y.opl:=by rw[Eo.out];simp
   have He2:=Lib.hid E2
   clear E2
   have hone:OwnS (w1.alloc (.cells #[.string op] 9)) w1.heap.size (.slice (some ⟨w1.heap.size,0,none⟩) 1 1) [op]:=World.ownsRow_lit w1 #[.string op] 1 (Nat.le_refl _) (by decide) rfl
   obtain⟨v1,w1',hr1,ho1,hk1⟩:=append_strs (HS1.out.kept keptA) hone (by omega) (by simp) (by simp;omega) 25
   have kB:Kept (fun k=>r1.ownBlock=some k) w1 w1':=(keptA (M:=fun k=>r1.ownBlock=some k)).trans hk1
   have k02:Kept (fun _=>False) w w1':=((k01.mono (M':=fun b=>False∨w.heap.size≤b) fun _ _ f=>f.elim).trans (kB.mono fun b _ e=>.inr (by have:=HS1.out.ge b e;omega))).fresh (Nat.le_refl _)
   have ox2:w1'.heap[w.heap.size]?=some (.cells #[.int .i64 2,.int .i64 n,.string op,.slice (some ⟨g,o,none⟩) 2 c3,.slice a4 n4 c4] 64 (0,0)):=kB.obj ox1 (fun e=>by have:=HS1.out.ge _ e;omega)
   obtain⟨X0,X1,X2,X3,X4,-⟩:=slot5 ox2
   have z2:w.heap.size<w1'.heap.size:=lt_of_heap ox2
   have Q0:=k02.cell q0 (fun f=>f)
   have Q1:=k02.cell q1 (fun f=>f)
   have Q2:=k02.cell q2 (fun f=>f)
   have Q3:=k02.cell q3 (fun f=>f)
   have Q4:=k02.cell q4 (fun f=>f)
   have hs02:=kB.size
   have zg1:g<w1'.heap.size:=by omega
   have HO1:=Lib.hid ho1
   clear ho1 hone hk1
   go_upto_region 6 with (at_builtin;go_must (refine wpList_append_done rfl (.tmp 15) (.tmp 18) 25 rfl rfl rfl hr1 ?_))
   go_wp2_with fail
   refine(HY.out w1' k02).mono ?_
   rintro e w2 ⟨r2,rfl,S2,k2⟩
   obtain⟨v',w',hr',ho',hk'⟩:=append_strs (HO1.out.kept k2) S2 (by simp;omega) (by omega) (by have:=k2.size;omega) 25
   have HO:=Lib.hid ho'
   have hge:=(HO1.out.kept k2).ge
   have Hge:=Lib.hid hge
   clear ho' S2 hge
   go_wp2_with (at_builtin;go_must (refine wpList_append_done rfl (.tmp 20) (.tmp 25) 25 rfl rfl rfl hr' ?_))
   go_ret
   exact⟨v',rfl,by rw[He2.out];exact HO.out.low (by omega),(((k02.trans k2).mono (M':=fun b=>False∨w.heap.size≤b) fun _ _ f=>f.elim).trans (hk'.mono fun b _ e=>.inr (by have:=Hge.out b e;omega))).fresh (Nat.le_refl _)⟩
end Go.Proofs.YtleolbpibjnedaaGreat
namespace Gc
open Go
def runsN:List Str→Str→Int
 | [],_=>0
 | op :: l,last=>if (op.toList == last.toList)=true then runsN l last else 1+runsN l op
def T.cog:T→Int→Bool→Int
 | .nil,_,_=>0
 | .cons h t,n,f=>h.cog n f+t.cog n f
 | .x kind m op kids body,n,f=>(if kind=2∧logic op=true∧f=false then runsN (T.opl (.x kind m op kids body)) sE else 0)+kids.cog n (decide (kind=2) && (f || logic op))+body.cog (RowKit.wrap64 (n+1)) false
 | .s kind _ _ label ex body els has chain cases,n,f=>ex.cog n false+(
    if kind=3 then (if f=true then 1 else RowKit.wrap64 (1+n))+body.cog (RowKit.wrap64 (n+1)) false+(if chain=true then els.cog n true else if has=true then 1+els.cog (RowKit.wrap64 (n+1)) false else 0)
    else if kind=4∨kind=5 then RowKit.wrap64 (1+n)+body.cog (RowKit.wrap64 (n+1)) false
    else if kind=6∨kind=7 then RowKit.wrap64 (1+n)+cases.cog (RowKit.wrap64 (n+1)) false
    else if kind=8 then (if label.toList=[] then 0 else 1)
    else if kind=10∨kind=11 then body.cog n false else 0)
def T.cogk:T→Int→Bool→Nat→Int
 | .cons h t,n,f,k+1=>h.cog n f+t.cogk n f k
 | _,_,_,_=>0
theorem T.cogk_zero(t:T)(n:Int)(f:Bool):t.cogk n f 0=0:=by cases t<;>rfl
theorem T.cogk_succ(n:Int)(f:Bool):∀ (t:T) (k:Nat),k<t.len→t.cogk n f (k+1)=t.cogk n f k+(t.get k).cog n f
 | .cons h t,0,_=>by simp only[T.cogk,T.cogk_zero,T.get];omega
 | .cons h t,k+1,hk=>by
   have:=T.cogk_succ n f t k (by simp only[T.len]at hk;omega)
   simp only[T.cogk,T.get]at this ⊢
   omega
 | .nil,_,h | .x ..,_,h | .s ..,_,h=>by simp[T.len]at h
theorem T.cogk_all(n:Int)(f:Bool):∀ (t:T),t.isList→t.cogk n f t.len=t.cog n f
 | .cons h t,hl=>by
   simp only[T.len,T.cogk,T.cog]
   rw[T.cogk_all n f t hl]
 | .nil,_=>rfl
 | .x ..,h=>h.elim
 | .s ..,h=>h.elim
theorem wrap_ww(x y:Int):RowKit.wrap64 (RowKit.wrap64 x+RowKit.wrap64 y)=RowKit.wrap64 (x+y):=by
 unfold RowKit.wrap64
 omega
theorem wrap_lw(x y:Int):RowKit.wrap64 (RowKit.wrap64 x+y)=RowKit.wrap64 (x+y):=by
 unfold RowKit.wrap64
 omega
theorem wrap_rw(x y:Int):RowKit.wrap64 (x+RowKit.wrap64 y)=RowKit.wrap64 (x+y):=by
 unfold RowKit.wrap64
 omega
theorem wrap_zero:RowKit.wrap64 0=0:=by unfold RowKit.wrap64;omega
end Gc
namespace Go.Proofs.YtleolbpibjnedaaGreat
open Go Go.RowKit Gc
def NumW(w:World)(n:Int)(e:Ending)(w':World):Prop:=e=.returned (.int .i64 (RowKit.wrap64 n))∧Kept (fun _=>False) w w'
def ListOk(t:T):Prop:=∀ (w:World) (D:Nat→Prop) (a:Option Addr) (n c:Nat) (m:Int),Rep w D t.g [.slice a n c]→Calls Tryz.prog 28 #[.slice a n c,.int .i64 m] w (NumW w (t.cog m false))
def CountOk(t:T):Prop:=∀ (w:World) (D:Nat→Prop) (v0 v1 v2 v3 v4:Value) (m:Int) (f:Bool),Rep w D t.g [v0,v1,v2,v3,v4]→Calls Tryz.prog 62 #[.agg #[v0,v1,v2,v3,v4],.int .i64 m,.bool f] w (NumW w (t.cog m f))
theorem count_run(kind n:Nat)(op:Str)(kids body:T)(hk:kind=2)(hlg:logic op=true)(hops:OpsOk (.x kind n op kids body))(hol:(T.x kind n op kids body).opl.length≤10000)(hl:kids.isList)(hall:kids.All ExprX)(hBr:kids.All CountOk)(bl:body.isList)(hw:ListOk body)(hmax:kids.len≤100000)(w:World)(D:Nat→Prop)(v0 v1 v2 v3 v4:Value)(m:Int)(hr:Rep w D (T.x kind n op kids body).g [v0,v1,v2,v3,v4]) :
 Calls Tryz.prog 62 #[.agg #[v0,v1,v2,v3,v4],.int .i64 m,.bool false] w (NumW w ((T.x kind n op kids body).cog m false)):=by
 have hcog:(T.x kind n op kids body).cog m false=runsN (T.x kind n op kids body).opl sE+kids.cog m true+body.cog (RowKit.wrap64 (m+1)) false:=by simp only[T.cog,hk,hlg];simp
 rw[hcog]
 have HO:=Lib.hid (fun (w':World) (k:Kept (fun _=>False) w w')=>hops hol w' D v0 v1 v2 v3 v4 (hr.kept k (fun _ _ f=>f)))
 obtain⟨opl,hopl⟩:∃ opl,opl=(T.x kind n op kids body).opl:=⟨_,rfl⟩
 rw[← hopl]at HO hol ⊢
 clear hopl hops
 obtain⟨rfl,rfl,rfl,h3,h4⟩:=x_inv hr
 obtain⟨a3,n3,c3,rfl,hlen⟩:=list_val (T.g_isList _ hl) h3
 obtain⟨a4,n4,c4,rfl,-⟩:=list_val (T.g_isList _ bl) h4
 rw[T.g_len]at hlen
 have hn3:n3≤100000:=by omega
 have Hlen:=Lib.hid hlen
 have H3:=Lib.hid h3
 have H4:=Lib.hid h4
 have Hall:=Lib.hid hall
 have HBr:=Lib.hid hBr
 have HW:=Lib.hid hw
 subst hk
 clear hr h3 h4 hall hBr hw hlen hcog
 have kA:Kept (fun _=>False) w (w.alloc (.cells #[.int .i64 2,.int .i64 n,.string op,.slice a3 n3 c3,.slice a4 n4 c4] 64)):=keptA
 have ox:=heap_alloc_new w (.cells #[.int .i64 2,.int .i64 n,.string op,.slice a3 n3 c3,.slice a4 n4 c4] 64)
 show Calls Tryz.prog 62 #[.agg #[.int .i64 2,.int .i64 n,.string op,.slice a3 n3 c3,.slice a4 n4 c4],.int .i64 m,.bool false] w _
 go_enter Tryz.func62,Tryz.ntmps62
 go_upto_region 1 with fail
 obtain⟨w1,hw1⟩:∃ w1,w1=w.alloc (.cells #[.int .i64 2,.int .i64 n,.string op,.slice a3 n3 c3,.slice a4 n4 c4] 64):=⟨_,rfl⟩
 rw[← hw1]at ox kA ⊢
 clear hw1
 obtain⟨x0,x1,x2,x3,x4,-⟩:=slot5 ox
 have z1:w.heap.size<w1.heap.size:=lt_of_heap ox
 go_wp2_with fail
 refine(logic_any op _).mono ?_
 rintro e w1' ⟨rfl,rfl⟩
 rw[hlg]
 go_wp2_with fail
 refine(HO.out w1 kA).mono ?_
 rintro e w2 ⟨r1,rfl,S1,k2⟩
 have ox2:=k2.obj ox (fun f=>f)
 have K2:=kA.trans k2
 clear x0 x1 x2 x3 x4
 obtain⟨x0,x1,x2,x3,x4,-⟩:=slot5 ox2
 have z2:w.heap.size<w2.heap.size:=lt_of_heap ox2
 have hrun:∀ k,k<opl.length→∃ g o c,r1=.slice (some ⟨g,o,none⟩) opl.length c∧g<w2.heap.size∧∀ j u,(strVals opl)[j]?=some u→w2.cell? ⟨g,o+j,none⟩=some u:=by
  intro k hk
  rcases S1.2 with ⟨-,h0⟩|⟨g,cap,cur,e,hb,hh,-,-,-,-⟩
  · omega
  · subst e
    refine⟨g,0,cap,rfl,lt_of_heap hh,fun j u hu=>?_⟩
    have hj:j<opl.length:=by have:=(List.getElem?_eq_some_iff.1 hu).1;simpa [strVals]using this
    have h2:w2.ownsRow w1.heap.size 9 1 (.slice (some ⟨g,0,none⟩) opl.length cap) opl.length (strVals opl):=S1
    rw[Nat.zero_add]
    exact(h2.cellAt j (by omega)).trans hu
 have hlr:∃ a c,r1=.slice a opl.length c:=by
  rcases S1.2 with ⟨e,h0⟩|⟨g,cap,cur,e,-⟩
  · exact⟨none,0,by rw[e,h0]⟩
  · exact⟨_,_,e⟩
 obtain⟨ar,cr,rfl⟩:=hlr
 obtain⟨nr,hnr⟩:∃ nr,nr=opl.length:=⟨_,rfl⟩
 obtain⟨s0,hs0⟩:∃ s0,s0=runsN opl sE:=⟨_,rfl⟩
 rw[← hs0]
 have Hs0:=Lib.hid hs0
 have Hrun:=Lib.hid hrun
 rw[← hnr]at Hrun hol ⊢
 have Hnr:=Lib.hid hnr
 clear hs0 hrun hnr S1
 go_wp2_with fail
 go_loop [7,8,29] (fun s l i=>∃ (k:Nat) (done:Int) (last:Str),s=.int .i64 (RowKit.wrap64 done)∧l=.string last∧i=.int .i64 k∧k≤nr∧RowKit.Hid (done+runsN (opl.drop k) last=s0)) (fun _ _ i=>((nr:Int)-intOf i).toNat)
 case atStart=>exact⟨0,0,sE,by rw[wrap_zero],rfl,rfl,by omega,Lib.hid (by rw[List.drop_zero,Hs0.out];omega)⟩
 case round =>
  obtain⟨k,done,last,rfl,rfl,rfl,hk,hinv⟩:=hrel
  by_cases hlt:(k:Int)<nr
  · have hkl:k<opl.length:=by have:=Hnr.out;omega
    obtain⟨g,o,c,e,hg,hcells⟩:=Hrun.out k (by omega)
    simp only[Value.slice.injEq,true_and]at e
    obtain⟨rfl,rfl⟩:=e
    have hc:=hcells k _ (by simp[strVals,List.getElem?_eq_getElem hkl];rfl)
    have hd:opl.drop k=opl[k] :: opl.drop (k+1):=(List.getElem_cons_drop hkl).symm
    obtain⟨y,hy⟩:∃ y,y=opl[k]:=⟨_,rfl⟩
    rw[← hy]at hc hd
    have hinv':=hinv.out
    rw[hd]at hinv'
    cases he:(y.toList == last.toList)
    · simp only[runsN,he,if_false,Bool.false_eq_true]at hinv'
      have Hi:=Lib.hid hinv'
      clear hinv' hinv hd hy hcells
      go_wp2_with fail
      go_round
      case rel=>exact⟨k+1,done+1,y,by rw[wrap_lw],rfl,by go_num,by omega,Lib.hid (by have:=Hi.out;omega)⟩
      case measure=>simp[intOf];omega
    · simp only[runsN,he,if_true]at hinv'
      have Hi:=Lib.hid hinv'
      clear hinv' hinv hd hy hcells
      go_wp2_with fail
      go_round
      case rel=>exact⟨k+1,done,last,rfl,rfl,by go_num,by omega,Hi⟩
      case measure=>simp[intOf];omega
  · have hdone:done=s0:=by
     have:=hinv.out
     rw[List.drop_of_length_le (by have:=Hnr.out;omega)]at this
     simp only[runsN]at this
     omega
    subst hdone
    clear hinv
    go_wp2_with fail
    go_loopw [7,43] (fun v t wr=>∃ k:Nat,v=.int .i64 (RowKit.wrap64 (done+kids.cogk m true k))∧t=.int .i64 k∧k≤n3∧Kept (fun _=>False) w2 wr) (fun _ t _=>(n3-intOf t).toNat)
    case atStart=>exact⟨0,by rw[T.cogk_zero,Int.add_zero],rfl,by omega,Kept.refl _ _⟩
    case round =>
     obtain⟨k,rfl,rfl,hk3,K⟩:=hrel
     have ox':=K.obj ox2 (fun f=>f)
     have zr:w.heap.size<wr.heap.size:=lt_of_heap ox'
     obtain⟨y0,y1,y2,y3,y4,-⟩:=slot5 ox'
     by_cases hlt:(k:Int)<n3
     · have hkl:k<kids.len:=by have:=Hlen.out;omega
       obtain⟨g,o,rfl⟩:=slice_some (T.g_isList _ hl) H3.out (by omega)
       obtain⟨kd5,nn5,op5,a5,n5,c5,a6,n6,c6,hx,hE,hg,p0,p1,p2,p3,p4⟩:=x_at (k:=k) H3.out hl Hall.out hkl
       have KK:=K2.trans K
       have P0:=KK.cell p0 (fun f=>f)
       have P1:=KK.cell p1 (fun f=>f)
       have P2:=KK.cell p2 (fun f=>f)
       have P3:=KK.cell p3 (fun f=>f)
       have P4:=KK.cell p4 (fun f=>f)
       have zg:g<wr.heap.size:=Nat.lt_of_lt_of_le hg KK.size
       have hX:=Lib.hid hx
       have HB:=Lib.hid (HBr.out.get hkl)
       have Hsu:=Lib.hid (T.cogk_succ m true kids k hkl)
       clear hx hE p0 p1 p2 p3 p4
       go_wp2_with fail
       refine(logic_any op _).mono ?_
       rintro e w5 ⟨rfl,rfl⟩
       rw[hlg]
       go_wp2_with fail
       refine(HB.out _ D _ _ _ _ _ m true ((hX.out.kept KK (fun _ _ f=>f)).kept (keptA (M:=fun _=>False)) (fun _ _ f=>f))).mono ?_
       rintro e w3 ⟨rfl,k3⟩
       have K3:Kept (fun _=>False) w2 w3:=K.trans (keptA.trans k3)
       go_wp2_with fail
       go_roundw
       · exact⟨k+1,by rw[wrap_ww,Hsu.out,Int.add_assoc],by go_num,by omega,K3⟩
       · simp[intOf];omega
     · have ek:k=kids.len:=by have:=Hlen.out;omega
       have Hek:=Lib.hid ek
       clear ek
       go_wp2_with fail
       refine(HW.out _ D a4 n4 c4 (RowKit.wrap64 (m+1)) ((H4.out.kept K2 (fun _ _ f=>f)).kept K (fun _ _ f=>f))).mono ?_
       rintro e w4 ⟨rfl,k4⟩
       go_wp2_with fail
       go_ret
       refine⟨?_,(K2.trans K).trans k4⟩
       have e1:kids.cogk m true k=kids.cog m true:=by rw[Hek.out,T.cogk_all _ _ _ hl]
       show Ending.returned (.int .i64 (RowKit.wrap64 (RowKit.wrap64 (done+kids.cogk m true k)+RowKit.wrap64 (body.cog (RowKit.wrap64 (m+1)) false))))=_
       rw[wrap_ww,e1,Hs0.out]
theorem count_counted(kind n:Nat)(op:Str)(kids body:T)(hk:kind=2)(hlg:logic op=true)(hl:kids.isList)(hall:kids.All ExprX)(hBr:kids.All CountOk)(bl:body.isList)(hw:ListOk body)(hmax:kids.len≤100000)(w:World)(D:Nat→Prop)(v0 v1 v2 v3 v4:Value)(m:Int)(hr:Rep w D (T.x kind n op kids body).g [v0,v1,v2,v3,v4]) :
 Calls Tryz.prog 62 #[.agg #[v0,v1,v2,v3,v4],.int .i64 m,.bool true] w (NumW w ((T.x kind n op kids body).cog m true)):=by
 have hcog:(T.x kind n op kids body).cog m true=kids.cog m true+body.cog (RowKit.wrap64 (m+1)) false:=by simp only[T.cog,hk,hlg];simp
 rw[hcog]
 obtain⟨rfl,rfl,rfl,h3,h4⟩:=x_inv hr
 obtain⟨a3,n3,c3,rfl,hlen⟩:=list_val (T.g_isList _ hl) h3
 obtain⟨a4,n4,c4,rfl,-⟩:=list_val (T.g_isList _ bl) h4
 rw[T.g_len]at hlen
 have hn3:n3≤100000:=by omega
 have Hlen:=Lib.hid hlen
 have H3:=Lib.hid h3
 have H4:=Lib.hid h4
 have Hall:=Lib.hid hall
 have HBr:=Lib.hid hBr
 have HW:=Lib.hid hw
 subst hk
 clear hr h3 h4 hall hBr hw hlen hcog
 have kA:Kept (fun _=>False) w (w.alloc (.cells #[.int .i64 2,.int .i64 n,.string op,.slice a3 n3 c3,.slice a4 n4 c4] 64)):=keptA
 have ox:=heap_alloc_new w (.cells #[.int .i64 2,.int .i64 n,.string op,.slice a3 n3 c3,.slice a4 n4 c4] 64)
 show Calls Tryz.prog 62 #[.agg #[.int .i64 2,.int .i64 n,.string op,.slice a3 n3 c3,.slice a4 n4 c4],.int .i64 m,.bool true] w _
 go_enter Tryz.func62,Tryz.ntmps62
 go_upto_region 1 with fail
 obtain⟨w1,hw1⟩:∃ w1,w1=w.alloc (.cells #[.int .i64 2,.int .i64 n,.string op,.slice a3 n3 c3,.slice a4 n4 c4] 64):=⟨_,rfl⟩
 rw[← hw1]at ox kA ⊢
 clear hw1
 obtain⟨x0,x1,x2,x3,x4,-⟩:=slot5 ox
 have z1:w.heap.size<w1.heap.size:=lt_of_heap ox
 go_wp2_with fail
 refine(logic_any op _).mono ?_
 rintro e w1' ⟨rfl,rfl⟩
 rw[hlg]
 go_wp2_with fail
 have s0e:(0:Int)=0:=rfl
 go_wp2_with fail
 go_loopw [7,43] (fun v t wr=>∃ k:Nat,v=.int .i64 (RowKit.wrap64 (kids.cogk m true k))∧t=.int .i64 k∧k≤n3∧Kept (fun _=>False) w1 wr) (fun _ t _=>(n3-intOf t).toNat)
 case atStart=>exact⟨0,by rw[T.cogk_zero,wrap_zero],rfl,by omega,Kept.refl _ _⟩
 case round =>
  obtain⟨k,rfl,rfl,hk3,K⟩:=hrel
  have ox':=K.obj ox (fun f=>f)
  have zr:w.heap.size<wr.heap.size:=lt_of_heap ox'
  obtain⟨y0,y1,y2,y3,y4,-⟩:=slot5 ox'
  by_cases hlt:(k:Int)<n3
  · have hkl:k<kids.len:=by have:=Hlen.out;omega
    obtain⟨g,o,rfl⟩:=slice_some (T.g_isList _ hl) H3.out (by omega)
    obtain⟨kd5,nn5,op5,a5,n5,c5,a6,n6,c6,hx,hE,hg,p0,p1,p2,p3,p4⟩:=x_at (k:=k) H3.out hl Hall.out hkl
    have KK:=kA.trans K
    have P0:=KK.cell p0 (fun f=>f)
    have P1:=KK.cell p1 (fun f=>f)
    have P2:=KK.cell p2 (fun f=>f)
    have P3:=KK.cell p3 (fun f=>f)
    have P4:=KK.cell p4 (fun f=>f)
    have zg:g<wr.heap.size:=Nat.lt_of_lt_of_le hg KK.size
    have hX:=Lib.hid hx
    have HB:=Lib.hid (HBr.out.get hkl)
    have Hsu:=Lib.hid (T.cogk_succ m true kids k hkl)
    clear hx hE p0 p1 p2 p3 p4
    go_wp2_with fail
    refine(HB.out _ D _ _ _ _ _ m true ((hX.out.kept KK (fun _ _ f=>f)).kept (keptA (M:=fun _=>False)) (fun _ _ f=>f))).mono ?_
    rintro e w3 ⟨rfl,k3⟩
    have K3:Kept (fun _=>False) w1 w3:=K.trans (keptA.trans k3)
    go_wp2_with fail
    go_roundw
    · exact⟨k+1,by rw[wrap_ww,Hsu.out],by go_num,by omega,K3⟩
    · simp[intOf];omega
  · have ek:k=kids.len:=by have:=Hlen.out;omega
    have Hek:=Lib.hid ek
    clear ek
    go_wp2_with fail
    refine(HW.out _ D a4 n4 c4 (RowKit.wrap64 (m+1)) ((H4.out.kept kA (fun _ _ f=>f)).kept K (fun _ _ f=>f))).mono ?_
    rintro e w4 ⟨rfl,k4⟩
    go_wp2_with fail
    go_ret
    refine⟨?_,(kA.trans K).trans k4⟩
    have e1:kids.cogk m true k=kids.cog m true:=by rw[Hek.out,T.cogk_all _ _ _ hl]
    show Ending.returned (.int .i64 (RowKit.wrap64 (RowKit.wrap64 (kids.cogk m true k)+RowKit.wrap64 (body.cog (RowKit.wrap64 (m+1)) false))))=_
    rw[wrap_ww,e1]
theorem count_countedp(kind n:Nat)(op:Str)(kids body:T)(hk:kind=2)(hlg:logic op=false)(hl:kids.isList)(hall:kids.All ExprX)(hBr:kids.All CountOk)(bl:body.isList)(hw:ListOk body)(hmax:kids.len≤100000)(w:World)(D:Nat→Prop)(v0 v1 v2 v3 v4:Value)(m:Int)(hr:Rep w D (T.x kind n op kids body).g [v0,v1,v2,v3,v4]) :
 Calls Tryz.prog 62 #[.agg #[v0,v1,v2,v3,v4],.int .i64 m,.bool true] w (NumW w ((T.x kind n op kids body).cog m true)):=by
 have hcog:(T.x kind n op kids body).cog m true=kids.cog m true+body.cog (RowKit.wrap64 (m+1)) false:=by simp only[T.cog,hk,hlg];simp
 rw[hcog]
 obtain⟨rfl,rfl,rfl,h3,h4⟩:=x_inv hr
 obtain⟨a3,n3,c3,rfl,hlen⟩:=list_val (T.g_isList _ hl) h3
 obtain⟨a4,n4,c4,rfl,-⟩:=list_val (T.g_isList _ bl) h4
 rw[T.g_len]at hlen
 have hn3:n3≤100000:=by omega
 have Hlen:=Lib.hid hlen
 have H3:=Lib.hid h3
 have H4:=Lib.hid h4
 have Hall:=Lib.hid hall
 have HBr:=Lib.hid hBr
 have HW:=Lib.hid hw
 subst hk
 clear hr h3 h4 hall hBr hw hlen hcog
 have kA:Kept (fun _=>False) w (w.alloc (.cells #[.int .i64 2,.int .i64 n,.string op,.slice a3 n3 c3,.slice a4 n4 c4] 64)):=keptA
 have ox:=heap_alloc_new w (.cells #[.int .i64 2,.int .i64 n,.string op,.slice a3 n3 c3,.slice a4 n4 c4] 64)
 show Calls Tryz.prog 62 #[.agg #[.int .i64 2,.int .i64 n,.string op,.slice a3 n3 c3,.slice a4 n4 c4],.int .i64 m,.bool true] w _
 go_enter Tryz.func62,Tryz.ntmps62
 go_upto_region 1 with fail
 obtain⟨w1,hw1⟩:∃ w1,w1=w.alloc (.cells #[.int .i64 2,.int .i64 n,.string op,.slice a3 n3 c3,.slice a4 n4 c4] 64):=⟨_,rfl⟩
 rw[← hw1]at ox kA ⊢
 clear hw1
 obtain⟨x0,x1,x2,x3,x4,-⟩:=slot5 ox
 have z1:w.heap.size<w1.heap.size:=lt_of_heap ox
 go_wp2_with fail
 refine(logic_any op _).mono ?_
 rintro e w1' ⟨rfl,rfl⟩
 rw[hlg]
 go_wp2_with fail
 have s0e:(0:Int)=0:=rfl
 go_wp2_with fail
 go_loopw [7,43] (fun v t wr=>∃ k:Nat,v=.int .i64 (RowKit.wrap64 (kids.cogk m true k))∧t=.int .i64 k∧k≤n3∧Kept (fun _=>False) w1 wr) (fun _ t _=>(n3-intOf t).toNat)
 case atStart=>exact⟨0,by rw[T.cogk_zero,wrap_zero],rfl,by omega,Kept.refl _ _⟩
 case round =>
  obtain⟨k,rfl,rfl,hk3,K⟩:=hrel
  have ox':=K.obj ox (fun f=>f)
  have zr:w.heap.size<wr.heap.size:=lt_of_heap ox'
  obtain⟨y0,y1,y2,y3,y4,-⟩:=slot5 ox'
  by_cases hlt:(k:Int)<n3
  · have hkl:k<kids.len:=by have:=Hlen.out;omega
    obtain⟨g,o,rfl⟩:=slice_some (T.g_isList _ hl) H3.out (by omega)
    obtain⟨kd5,nn5,op5,a5,n5,c5,a6,n6,c6,hx,hE,hg,p0,p1,p2,p3,p4⟩:=x_at (k:=k) H3.out hl Hall.out hkl
    have KK:=kA.trans K
    have P0:=KK.cell p0 (fun f=>f)
    have P1:=KK.cell p1 (fun f=>f)
    have P2:=KK.cell p2 (fun f=>f)
    have P3:=KK.cell p3 (fun f=>f)
    have P4:=KK.cell p4 (fun f=>f)
    have zg:g<wr.heap.size:=Nat.lt_of_lt_of_le hg KK.size
    have hX:=Lib.hid hx
    have HB:=Lib.hid (HBr.out.get hkl)
    have Hsu:=Lib.hid (T.cogk_succ m true kids k hkl)
    clear hx hE p0 p1 p2 p3 p4
    go_wp2_with fail
    refine(HB.out _ D _ _ _ _ _ m true ((hX.out.kept KK (fun _ _ f=>f)).kept (keptA (M:=fun _=>False)) (fun _ _ f=>f))).mono ?_
    rintro e w3 ⟨rfl,k3⟩
    have K3:Kept (fun _=>False) w1 w3:=K.trans (keptA.trans k3)
    go_wp2_with fail
    go_roundw
    · exact⟨k+1,by rw[wrap_ww,Hsu.out],by go_num,by omega,K3⟩
    · simp[intOf];omega
  · have ek:k=kids.len:=by have:=Hlen.out;omega
    have Hek:=Lib.hid ek
    clear ek
    go_wp2_with fail
    refine(HW.out _ D a4 n4 c4 (RowKit.wrap64 (m+1)) ((H4.out.kept kA (fun _ _ f=>f)).kept K (fun _ _ f=>f))).mono ?_
    rintro e w4 ⟨rfl,k4⟩
    go_wp2_with fail
    go_ret
    refine⟨?_,(kA.trans K).trans k4⟩
    have e1:kids.cogk m true k=kids.cog m true:=by rw[Hek.out,T.cogk_all _ _ _ hl]
    show Ending.returned (.int .i64 (RowKit.wrap64 (RowKit.wrap64 (kids.cogk m true k)+RowKit.wrap64 (body.cog (RowKit.wrap64 (m+1)) false))))=_
    rw[wrap_ww,e1]
theorem count_plus(kind n:Nat)(op:Str)(kids body:T)(hk:kind=2)(hlg:logic op=false)(hl:kids.isList)(hall:kids.All ExprX)(hBr:kids.All CountOk)(bl:body.isList)(hw:ListOk body)(hmax:kids.len≤100000)(w:World)(D:Nat→Prop)(v0 v1 v2 v3 v4:Value)(m:Int)(hr:Rep w D (T.x kind n op kids body).g [v0,v1,v2,v3,v4]) :
 Calls Tryz.prog 62 #[.agg #[v0,v1,v2,v3,v4],.int .i64 m,.bool false] w (NumW w ((T.x kind n op kids body).cog m false)):=by
 have hcog:(T.x kind n op kids body).cog m false=kids.cog m false+body.cog (RowKit.wrap64 (m+1)) false:=by simp only[T.cog,hk,hlg];simp
 rw[hcog]
 obtain⟨rfl,rfl,rfl,h3,h4⟩:=x_inv hr
 obtain⟨a3,n3,c3,rfl,hlen⟩:=list_val (T.g_isList _ hl) h3
 obtain⟨a4,n4,c4,rfl,-⟩:=list_val (T.g_isList _ bl) h4
 rw[T.g_len]at hlen
 have hn3:n3≤100000:=by omega
 have Hlen:=Lib.hid hlen
 have H3:=Lib.hid h3
 have H4:=Lib.hid h4
 have Hall:=Lib.hid hall
 have HBr:=Lib.hid hBr
 have HW:=Lib.hid hw
 subst hk
 clear hr h3 h4 hall hBr hw hlen hcog
 have kA:Kept (fun _=>False) w (w.alloc (.cells #[.int .i64 2,.int .i64 n,.string op,.slice a3 n3 c3,.slice a4 n4 c4] 64)):=keptA
 have ox:=heap_alloc_new w (.cells #[.int .i64 2,.int .i64 n,.string op,.slice a3 n3 c3,.slice a4 n4 c4] 64)
 show Calls Tryz.prog 62 #[.agg #[.int .i64 2,.int .i64 n,.string op,.slice a3 n3 c3,.slice a4 n4 c4],.int .i64 m,.bool false] w _
 go_enter Tryz.func62,Tryz.ntmps62
 go_upto_region 1 with fail
 obtain⟨w1,hw1⟩:∃ w1,w1=w.alloc (.cells #[.int .i64 2,.int .i64 n,.string op,.slice a3 n3 c3,.slice a4 n4 c4] 64):=⟨_,rfl⟩
 rw[← hw1]at ox kA ⊢
 clear hw1
 obtain⟨x0,x1,x2,x3,x4,-⟩:=slot5 ox
 have z1:w.heap.size<w1.heap.size:=lt_of_heap ox
 go_wp2_with fail
 refine(logic_any op _).mono ?_
 rintro e w1' ⟨rfl,rfl⟩
 rw[hlg]
 go_wp2_with fail
 have s0e:(0:Int)=0:=rfl
 go_wp2_with fail
 go_loopw [7,43] (fun v t wr=>∃ k:Nat,v=.int .i64 (RowKit.wrap64 (kids.cogk m false k))∧t=.int .i64 k∧k≤n3∧Kept (fun _=>False) w1 wr) (fun _ t _=>(n3-intOf t).toNat)
 case atStart=>exact⟨0,by rw[T.cogk_zero,wrap_zero],rfl,by omega,Kept.refl _ _⟩
 case round =>
  obtain⟨k,rfl,rfl,hk3,K⟩:=hrel
  have ox':=K.obj ox (fun f=>f)
  have zr:w.heap.size<wr.heap.size:=lt_of_heap ox'
  obtain⟨y0,y1,y2,y3,y4,-⟩:=slot5 ox'
  by_cases hlt:(k:Int)<n3
  · have hkl:k<kids.len:=by have:=Hlen.out;omega
    obtain⟨g,o,rfl⟩:=slice_some (T.g_isList _ hl) H3.out (by omega)
    obtain⟨kd5,nn5,op5,a5,n5,c5,a6,n6,c6,hx,hE,hg,p0,p1,p2,p3,p4⟩:=x_at (k:=k) H3.out hl Hall.out hkl
    have KK:=kA.trans K
    have P0:=KK.cell p0 (fun f=>f)
    have P1:=KK.cell p1 (fun f=>f)
    have P2:=KK.cell p2 (fun f=>f)
    have P3:=KK.cell p3 (fun f=>f)
    have P4:=KK.cell p4 (fun f=>f)
    have zg:g<wr.heap.size:=Nat.lt_of_lt_of_le hg KK.size
    have hX:=Lib.hid hx
    have HB:=Lib.hid (HBr.out.get hkl)
    have Hsu:=Lib.hid (T.cogk_succ m false kids k hkl)
    clear hx hE p0 p1 p2 p3 p4
    go_wp2_with fail
    refine(logic_any op _).mono ?_
    rintro e w5 ⟨rfl,rfl⟩
    rw[hlg]
    go_wp2_with fail
    refine(HB.out _ D _ _ _ _ _ m false ((hX.out.kept KK (fun _ _ f=>f)).kept (keptA (M:=fun _=>False)) (fun _ _ f=>f))).mono ?_
    rintro e w3 ⟨rfl,k3⟩
    have K3:Kept (fun _=>False) w1 w3:=K.trans (keptA.trans k3)
    go_wp2_with fail
    go_roundw
    · exact⟨k+1,by rw[wrap_ww,Hsu.out],by go_num,by omega,K3⟩
    · simp[intOf];omega
  · have ek:k=kids.len:=by have:=Hlen.out;omega
    have Hek:=Lib.hid ek
    clear ek
    go_wp2_with fail
    refine(HW.out _ D a4 n4 c4 (RowKit.wrap64 (m+1)) ((H4.out.kept kA (fun _ _ f=>f)).kept K (fun _ _ f=>f))).mono ?_
    rintro e w4 ⟨rfl,k4⟩
    go_wp2_with fail
    go_ret
    refine⟨?_,(kA.trans K).trans k4⟩
    have e1:kids.cogk m false k=kids.cog m false:=by rw[Hek.out,T.cogk_all _ _ _ hl]
    show Ending.returned (.int .i64 (RowKit.wrap64 (RowKit.wrap64 (kids.cogk m false k)+RowKit.wrap64 (body.cog (RowKit.wrap64 (m+1)) false))))=_
    rw[wrap_ww,e1]
theorem count_no(kind n:Nat)(op:Str)(kids body:T)(hk:kind≠2)(hl:kids.isList)(hall:kids.All ExprX)(hBr:kids.All CountOk)(bl:body.isList)(hw:ListOk body)(hmax:kids.len≤100000)(f:Bool)(w:World)(D:Nat→Prop)(v0 v1 v2 v3 v4:Value)(m:Int)(hr:Rep w D (T.x kind n op kids body).g [v0,v1,v2,v3,v4]) :
 Calls Tryz.prog 62 #[.agg #[v0,v1,v2,v3,v4],.int .i64 m,.bool f] w (NumW w ((T.x kind n op kids body).cog m f)):=by
 have hcog:(T.x kind n op kids body).cog m f=kids.cog m false+body.cog (RowKit.wrap64 (m+1)) false:=by simp only[T.cog,hk];simp[hk]
 rw[hcog]
 obtain⟨rfl,rfl,rfl,h3,h4⟩:=x_inv hr
 obtain⟨a3,n3,c3,rfl,hlen⟩:=list_val (T.g_isList _ hl) h3
 obtain⟨a4,n4,c4,rfl,-⟩:=list_val (T.g_isList _ bl) h4
 rw[T.g_len]at hlen
 have hn3:n3≤100000:=by omega
 have Hlen:=Lib.hid hlen
 have H3:=Lib.hid h3
 have H4:=Lib.hid h4
 have Hall:=Lib.hid hall
 have HBr:=Lib.hid hBr
 have HW:=Lib.hid hw
 have hkb:((kind:Int) == 2)=false:=by simp;omega
 clear hr h3 h4 hall hBr hw hlen hcog
 have kA:Kept (fun _=>False) w (w.alloc (.cells #[.int .i64 kind,.int .i64 n,.string op,.slice a3 n3 c3,.slice a4 n4 c4] 64)):=keptA
 have ox:=heap_alloc_new w (.cells #[.int .i64 kind,.int .i64 n,.string op,.slice a3 n3 c3,.slice a4 n4 c4] 64)
 show Calls Tryz.prog 62 #[.agg #[.int .i64 kind,.int .i64 n,.string op,.slice a3 n3 c3,.slice a4 n4 c4],.int .i64 m,.bool f] w _
 go_enter Tryz.func62,Tryz.ntmps62
 go_upto_region 1 with fail
 obtain⟨w1,hw1⟩:∃ w1,w1=w.alloc (.cells #[.int .i64 kind,.int .i64 n,.string op,.slice a3 n3 c3,.slice a4 n4 c4] 64):=⟨_,rfl⟩
 rw[← hw1]at ox kA ⊢
 clear hw1
 obtain⟨x0,x1,x2,x3,x4,-⟩:=slot5 ox
 have z1:w.heap.size<w1.heap.size:=lt_of_heap ox
 go_wp2_with fail
 have s0e:(0:Int)=0:=rfl
 go_wp2_with fail
 go_loopw [7,43] (fun v t wr=>∃ k:Nat,v=.int .i64 (RowKit.wrap64 (kids.cogk m false k))∧t=.int .i64 k∧k≤n3∧Kept (fun _=>False) w1 wr) (fun _ t _=>(n3-intOf t).toNat)
 case atStart=>exact⟨0,by rw[T.cogk_zero,wrap_zero],rfl,by omega,Kept.refl _ _⟩
 case round =>
  obtain⟨k,rfl,rfl,hk3,K⟩:=hrel
  have ox':=K.obj ox (fun f=>f)
  have zr:w.heap.size<wr.heap.size:=lt_of_heap ox'
  obtain⟨y0,y1,y2,y3,y4,-⟩:=slot5 ox'
  by_cases hlt:(k:Int)<n3
  · have hkl:k<kids.len:=by have:=Hlen.out;omega
    obtain⟨g,o,rfl⟩:=slice_some (T.g_isList _ hl) H3.out (by omega)
    obtain⟨kd5,nn5,op5,a5,n5,c5,a6,n6,c6,hx,hE,hg,p0,p1,p2,p3,p4⟩:=x_at (k:=k) H3.out hl Hall.out hkl
    have KK:=kA.trans K
    have P0:=KK.cell p0 (fun f=>f)
    have P1:=KK.cell p1 (fun f=>f)
    have P2:=KK.cell p2 (fun f=>f)
    have P3:=KK.cell p3 (fun f=>f)
    have P4:=KK.cell p4 (fun f=>f)
    have zg:g<wr.heap.size:=Nat.lt_of_lt_of_le hg KK.size
    have hX:=Lib.hid hx
    have HB:=Lib.hid (HBr.out.get hkl)
    have Hsu:=Lib.hid (T.cogk_succ m false kids k hkl)
    clear hx hE p0 p1 p2 p3 p4
    go_wp2_with fail
    refine(HB.out _ D _ _ _ _ _ m false ((hX.out.kept KK (fun _ _ f=>f)).kept (keptA (M:=fun _=>False)) (fun _ _ f=>f))).mono ?_
    rintro e w3 ⟨rfl,k3⟩
    have K3:Kept (fun _=>False) w1 w3:=K.trans (keptA.trans k3)
    go_wp2_with fail
    go_roundw
    · exact⟨k+1,by rw[wrap_ww,Hsu.out],by go_num,by omega,K3⟩
    · simp[intOf];omega
  · have ek:k=kids.len:=by have:=Hlen.out;omega
    have Hek:=Lib.hid ek
    clear ek
    go_wp2_with fail
    refine(HW.out _ D a4 n4 c4 (RowKit.wrap64 (m+1)) ((H4.out.kept kA (fun _ _ f=>f)).kept K (fun _ _ f=>f))).mono ?_
    rintro e w4 ⟨rfl,k4⟩
    go_wp2_with fail
    go_ret
    refine⟨?_,(kA.trans K).trans k4⟩
    have e1:kids.cogk m false k=kids.cog m false:=by rw[Hek.out,T.cogk_all _ _ _ hl]
    show Ending.returned (.int .i64 (RowKit.wrap64 (RowKit.wrap64 (kids.cogk m false k)+RowKit.wrap64 (body.cog (RowKit.wrap64 (m+1)) false))))=_
    rw[wrap_ww,e1]
end Go.Proofs.YtleolbpibjnedaaGreat
