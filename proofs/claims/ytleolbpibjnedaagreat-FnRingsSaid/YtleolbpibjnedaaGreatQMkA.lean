/- The laws' maker: expressions. -/
import Derived.Test.YtleolbpibjnedaaGreatQBase
import Derived.Deep.RegionHeld3
import Derived.Deep.RegionWith
import Derived.Deep.RegionLaw
import Derived.Deep.DeepMust
set_option linter.unusedSimpArgs false
set_option linter.unusedVariables false
set_option maxRecDepth 100000
set_option maxHeartbeats 4000000
namespace Go.Proofs.YtleolbpibjnedaaGreat
open Go Go.RowKit Gc
structure GotE (w:World) (mb:Nat) (ns:Value) (fl:Bool) (c:MC) (k O X more:Int) (dp:Nat) (kind n:Nat) (op:Str) (kids body:T) (ak:Option Addr) (nk ck:Nat) (ab:Option Addr) (nb cb:Nat) (c':MC) (w':World):Prop where
 wf:W fl .E (.x kind n op kids body)
 rk:Rep w' (fun b=>w.heap.size≤b) kids.g [.slice ak nk ck]
 rb:Rep w' (fun b=>w.heap.size≤b) body.g [.slice ab nb cb]
 st:MSt w' mb ns fl c'
 kept:Kept (fun b=>b=mb) w w'
 went:Went k O X c c'
 cost:((T.x kind n op kids body).cost:Int)≤5*(c.left-c'.left)+more
 deep:(T.x kind n op kids body).deep≤dp
 xd:(T.x kind n op kids body).xd+16≤dp+8*c.inner
def ExprP(w:World)(mb:Nat)(ns:Value)(fl:Bool)(c:MC)(k O X more:Int)(dp:Nat)(pk:Nat→Prop)(e:Ending)(w':World):Prop :=
 ∃ (kind n:Nat) (op:Str) (kids body:T) (ak:Option Addr) (nk ck:Nat) (ab:Option Addr) (nb cb:Nat) (c':MC),
  e=.returned (.agg #[.int .i64 kind,.int .i64 n,.string op,.slice ak nk ck,.slice ab nb cb])∧pk kind∧GotE w mb ns fl c k O X more dp kind n op kids body ak nk ck ab nb cb c' w'
abbrev zeroX:Obj:=.cells #[.int .i64 0,.int .i64 0,.string ⟨#[]⟩,.slice none 0 0,.slice none 0 0] 64
def ContrE(d j:Nat):Prop:=∀ (w:World) (mb:Nat) (ns:Value) (fl:Bool) (c:MC),MSt w mb ns fl c→c.inner+j=2→-300≤c.left→∀ D:Int,D=d →
 Calls Tryz.prog 44 #[.pointer (some ⟨mb,0,none⟩),.int .i64 D] w (ExprP w mb ns fl c 1 (1+d+11*j) 1 0 (1+d+8*j) (fun _=>True))
def ContrCall(d j:Nat):Prop:=∀ (w:World) (mb:Nat) (ns:Value) (fl:Bool) (c:MC) (n:Int),MSt w mb ns fl c→c.inner+j=2→-280≤c.left→0≤n→n<536870912→∀ D:Int,D=d →
 Calls Tryz.prog 47 #[.pointer (some ⟨mb,0,none⟩),.int .u32 n,.int .i64 D] w (ExprP w mb ns fl c 0 (1+d+11*j) 2 2 (1+d+8*j) (fun k=>k=5))
theorem Went.next(c:MC):Went 1 1 1 c { c with m:=c.m+1,left:=c.left-1 } :=
 ⟨by simp only[];omega,by simp only[];omega,Nat.le_refl _,by simp only[];omega,rfl,fun h=>by simp only[];omega,fun h=>by simp only[];omega⟩
theorem Went.trans{k k' O O' X X' O'' X'':Int}{a b c:MC}(h:Went k O X a b)(h':Went k' O' X' b c)(hk:0≤k)(hO:O'≤O'')(hO':O+X'≤O'')(hX:X+X'≤X''):Went (k+k') O'' X'' a c where
 tot:=by have:=h.tot;have:=h'.tot;omega
 le:=by have:=h.le;have:=h'.le;omega
 lab0:=Nat.le_trans h.lab0 h'.lab0
 lab1:=by have:=h.lab1;have:=h'.lab1;omega
 inner:=h'.inner.trans h.inner
 low:=fun h0=>by
  by_cases hb:0≤b.left
  · have:=h'.low hb;omega
  · have:=h.low h0;have:=h'.low' (by omega);omega
 low':=fun h0=>by have:=h.low' h0;have:=h.le;have:=h'.low' (by omega);omega
theorem Went.from0{k O X O' X':Int}{a b:MC}(h:Went k O X a b)(h0:0≤a.left)(hO:O≤O'):Went k O' X' a b :=
 { h with low:=fun h1=>by have:=h.low h1;omega,low':=fun h1=>by omega }
theorem Went.afterNext{k O X O' X':Int}{c b:MC}(h:Went k O X { c with m:=c.m+1,left:=c.left-1 } b)(h0:0≤c.left-1)(hO:O≤O'):Went (k+1) O' X' c b where
 tot:=by have:=h.tot;simp only[]at this;omega
 le:=by have:=h.le;simp only[]at this;omega
 lab0:=h.lab0
 lab1:=by have:=h.lab1;simp only[]at this;omega
 inner:=h.inner
 low:=fun _=>by have:=h.low h0;omega
 low':=fun h1=>by omega
theorem Went.weaken{k O X k' O' X':Int}{a b:MC}(h:Went k O X a b)(hk:k'≤k)(hO:O≤O')(hX:X≤X'):Went k' O' X' a b :=
 { h with le:=by have:=h.le;omega,low:=fun h1=>by have:=h.low h1;omega,low':=fun h1=>by have:=h.low' h1;omega }
theorem expr_leaf{w w1 w':World}{mb:Nat}{ns:Value}{fl:Bool}{c:MC}{O:Int}{dp kind n:Nat}{e:Ending}(hO:1≤O)(hdp:1≤dp)(hxd:17≤dp+8*c.inner)(h:MSt w mb ns fl c)
 (hst:MSt w1 mb ns fl { c with m:=c.m+1,left:=c.left-1 }) (hk:Kept (fun b=>b=mb) w w1) (hk':Kept (fun b=>w.heap.size≤b) w1 w')
 (hn:kind=0∧n=0∨kind=1∧n<4) (he:e=.returned (.agg #[.int .i64 kind,.int .i64 n,.string ⟨#[]⟩,.slice none 0 0,.slice none 0 0])):ExprP w mb ns fl c 1 O 1 0 dp (fun _=>True) e w':=by
 have hW:W fl .E (.x kind n sE .nil .nil):=by
  rcases hn with ⟨rfl,rfl⟩|⟨rfl,hn⟩
  · exact .num
  · exact .var n hn
 refine⟨kind,n,sE,.nil,.nil,none,0,0,none,0,0,_,he,trivial,hW,⟨_,_,rfl⟩,⟨_,_,rfl⟩,h.later hst hk hk',keptFresh hk hk',(Went.next c).weaken (by omega) hO (by omega),?_,?_,by simp only[T.xd];omega⟩
 · rcases hn with ⟨rfl,_⟩|⟨rfl,_⟩<;>simp[T.cost]<;>omega
 · rcases hn with ⟨rfl,_⟩|⟨rfl,_⟩<;>simp[T.deep]<;>omega
theorem GotE.rep{w w' w'':World}{mb:Nat}{ns:Value}{fl:Bool}{c c':MC}{k O X more:Int}{dp kind n:Nat}{op:Str}{kids body:T}{ak:Option Addr}{nk ck:Nat}{ab:Option Addr}{nb cb:Nat}
 (Y:GotE w mb ns fl c k O X more dp kind n op kids body ak nk ck ab nb cb c' w') {M D:Nat→Prop} (hk:Kept M w' w'') (hM:∀ b,w.heap.size≤b→¬ M b) (hD:∀ b,w.heap.size≤b→D b) :
 Rep w'' D (T.x kind n op kids body).g [.int .i64 kind,.int .i64 n,.string op,.slice ak nk ck,.slice ab nb cb] :=
 ⟨_,rfl,_,rfl,_,rfl,_,_,rfl,(Y.rk.kept hk hM).imp (fun b _ h=>hD b h),_,_,rfl,(Y.rb.kept hk hM).imp (fun b _ h=>hD b h),rfl⟩
theorem expr_zero(j:Nat):ContrE 0 j:=by
 intro w mb ns fl c h hj hlo D hD
 obtain rfl:D=0:=hD
 have hmb:=lt_of_heap h.obj
 go_enter Tryz.func44,Tryz.ntmps44
 go_wp2_with fail
 refine(next_any _ mb ns fl c (h.keptBut (Kept.alloc _ _ _) (M:=fun _=>False) (fun _ f=>f.elim)) (by omega)).mono ?_
 rintro e w1 ⟨n,hn,rfl,hst,hk⟩
 have hs:=slot5 (hk.new (by omega))
 obtain⟨c0,c1,c2,c3,c4,f0,f1,f2,f3,f4⟩:=hs
 have Hst:=Lib.hid hst
 have Hk:=Lib.hid hk
 clear hst hk
 go_wp2_with fail
 refine bodyPost_ret (v:=.agg #[.int .i64 1,.int .i64 (↑n%4),.string ⟨#[]⟩,.slice none 0 0,.slice none 0 0]) (by simp[results,Tryz.results44,go_sem,c0,c1,c2,c3,c4]) rfl ?_
 exact expr_leaf (kind:=1) (n:=n%4) (by omega) (by omega) (by omega) h Hst.out ((Kept.alloc _ _ _).trans Hk.out) (Kept.setF5 (Nat.le_refl _)) (.inr ⟨rfl,by omega⟩) rfl
structure CallI (w:World) (mb:Nat) (ns:Value) (fl:Bool) (c:MC) (d j:Nat) (op:Str) (r x k:Nat) (a:Option Addr) (cap:Nat) (t:T) (c':MC) (wr:World):Prop where
 st:MSt wr mb ns fl c'
 kept:Kept (fun b=>b=mb) w wr
 res:wr.heap[r]?=some (.cells #[.int .i64 0,.int .i64 0,.string ⟨#[]⟩,.slice none 0 0,.slice none 0 0] 64 (0,0))
 obj:wr.heap[x]?=some (.cells #[.int .i64 5,.int .i64 0,.string op,.slice a k cap,.slice none 0 0] 64 (0,0))
 own:OwnL wr (fun b=>x<b) (x+1) 64 5 (.slice a k cap) t.g
 list:t.isList
 len:t.len=k
 wf:W fl .Es t
 tot:(c'.m:Int)+c'.left=c.m+c.left
 lab0:c.labels≤c'.labels
 lab1:(c'.labels:Int)+c'.left≤c.labels+c.left
 inner:c'.inner=c.inner
 le:c'.left≤c.left
 low:0≤c.left→-((d:Int)+11*j)-k≤c'.left
 low':c.left<0→c.left-k≤c'.left
 cost:(t.cost:Int)≤5*(c.left-c'.left)
 deep:t.deep≤d+1+8*j
 xd:t.xd≤d+1
section
variable {w:World} {mb:Nat} {ns:Value} {fl:Bool} {c:MC} {d j:Nat} {op:Str} {r x k:Nat} {a:Option Addr} {cap:Nat} {t:T} {c':MC} {wr:World}
theorem CallI.start(h:MSt w mb ns fl c){w3:World}(hk:Kept (fun _=>False) w w3)(hr:w3.heap[r]?=some (.cells #[.int .i64 0,.int .i64 0,.string ⟨#[]⟩,.slice none 0 0,.slice none 0 0] 64 (0,0)))
 (ho:w3.heap[x]?=some (.cells #[.int .i64 5,.int .i64 0,.string op,.slice none 0 0,.slice none 0 0] 64 (0,0))):CallI w mb ns fl c d j op r x 0 none 0 .nil c w3 :=
 { st:=⟨hk.obj h.obj (fun f=>f),h.nums.kept (hk.mono fun _ _ f=>f.elim),h.tot,h.lo,h.lab,h.inn,h.flo⟩
   kept:=hk.mono fun _ _ f=>f.elim
   res:=hr
   obj:=ho
   own:=OwnL.nil _ _ _ _ _
   list:=trivial
   len:=rfl
   wf:=.enil
   tot:=rfl
   lab0:=Nat.le_refl _
   lab1:=Int.le_refl _
   inner:=rfl
   le:=Int.le_refl _
   low:=fun h0=>by omega
   low':=fun h0=>by omega
   cost:=by simp[T.cost]
   deep:=by simp[T.deep]
   xd:=by simp[T.xd] }
theorem one5{k n:Int}{op:Str}{a b:Option Addr}{n1 c1 n2 c2:Nat}:∀ u∈[Value.int .i64 k,.int .i64 n,.string op,.slice a n1 c1,.slice b n2 c2],u.oneCell'=true:=by
 intro u hu
 simp only[List.mem_cons,List.not_mem_nil,or_false]at hu
 rcases hu with rfl|rfl|rfl|rfl|rfl<;>rfl
theorem CallI.glen(I:CallI w mb ns fl c d j op r x k a cap t c' wr):t.g.len=k:=by rw[T.g_len,I.len]
theorem CallI.app(I:CallI w mb ns fl c d j op r x k a cap t c' wr)(hx:mb<x)
 {k1 n1:Nat} {op1:Str} {kids1 body1:T} {ak1:Option Addr} {nk1 ck1:Nat} {ab1:Option Addr} {nb1 cb1:Nat} {c2:MC} {w2:World} {O X more:Int} {dp:Nat}
 (Y:GotE wr.drew mb ns fl c' 1 O X more dp k1 n1 op1 kids1 body1 ak1 nk1 ck1 ab1 nb1 cb1 c2 w2) (o:Obj) :
 OwnL (w2.alloc o) (fun b=>x<b) (x+1) 64 5 (.slice a k cap) t.g ∧
 Rep (w2.alloc o) (fun b=>x<b∧some b≠(Value.slice a k cap).ownBlock) (T.x k1 n1 op1 kids1 body1).g [.int .i64 k1,.int .i64 n1,.string op1,.slice ak1 nk1 ck1,.slice ab1 nb1 cb1] ∧
 (w2.alloc o).cell? ⟨x,3,none⟩=some (.slice a k cap)∧x<w2.heap.size:=by
 have hxs:=lt_of_heap I.obj
 have hk:Kept (fun b=>b=mb) wr (w2.alloc o):=(keptD.trans Y.kept).trans keptA
 have hk1:Kept (fun b=>b=mb) wr w2:=keptD.trans Y.kept
 have hsz:=hk1.size
 refine⟨I.own.kept hk (fun b hb=>?_) (fun b hb=>by omega),Y.rep (M:=fun _=>False) keptA (fun _ _ f=>f) (fun b hb=>?_),?_,by omega⟩
 · have:=I.own.lt b hb;omega
 · simp at hb
   refine⟨by omega,fun e=>?_⟩
   have:=I.own.lt b e.symm
   omega
 · exact hk.cell (cell_of_cells I.obj 3 rfl) (by simp;omega)
theorem CallI.frz(I:CallI w mb ns fl c d j op r x k a cap t c' wr)(hx:mb<x)
 {k1 n1:Nat} {op1:Str} {kids1 body1:T} {ak1:Option Addr} {nk1 ck1:Nat} {ab1:Option Addr} {nb1 cb1:Nat} {c2:MC} {w2 w4:World} {O X more:Int} {dp:Nat}
 (Y:GotE wr.drew mb ns fl c' 1 O X more dp k1 n1 op1 kids1 body1 ak1 nk1 ck1 ab1 nb1 cb1 c2 w2) (o:Obj) (K4:Kept (fun b=>some b=(Value.slice a k cap).ownBlock) (w2.alloc o) w4):w4.frozen? ⟨x,3,none⟩=false:=by
 have h1:(w2.alloc o).heap[x]?=some (.cells #[.int .i64 5,.int .i64 0,.string op,.slice a k cap,.slice none 0 0] 64 (0,0)):=((keptD (M:=fun b=>b=mb)).trans (Y.kept.trans keptA)).obj I.obj (by omega)
 exact free_of_cells (K4.obj h1 (fun e=>by have:=I.own.lt _ e.symm;omega)) 3
theorem CallI.next(h:MSt w mb ns fl c)(I:CallI w mb ns fl c d j op r x k a cap t c' wr)(hx:mb<r)(hrx:r<x)(hwr:w.heap.size≤r)(hc:-280≤c.left)(hk2:k≤1)(hj:c.inner+j=2)
 {k1 n1:Nat} {op1:Str} {kids1 body1:T} {ak1:Option Addr} {nk1 ck1:Nat} {ab1:Option Addr} {nb1 cb1:Nat} {c2:MC} {w2 w4:World} {o:Obj} {g cap':Nat}
 (Y:GotE wr.drew mb ns fl c' 1 (1+d+11*j) 1 0 (1+d+8*j) k1 n1 op1 kids1 body1 ak1 nk1 ck1 ab1 nb1 cb1 c2 w2)
 (O4:OwnL w4 (fun b=>x<b) (x+1) 64 5 (.slice (some ⟨g,0,none⟩) (k+1) cap') (t.g.snoc (T.x k1 n1 op1 kids1 body1).g))
 (K4:Kept (fun b=>some b=(Value.slice a k cap).ownBlock) (w2.alloc o) w4) :
 CallI w mb ns fl c d j op r x (k+1) (some ⟨g,0,none⟩) cap' (t.snoc (T.x k1 n1 op1 kids1 body1)) c2 (w4.setCell ⟨x,3,none⟩ (.slice (some ⟨g,0,none⟩) (k+1) cap')):=by
 have hxs:=lt_of_heap I.obj
 have hrs:=lt_of_heap I.res
 have hmb:=lt_of_heap I.st.obj
 have hb:∀ b,some b=(Value.slice a k cap).ownBlock→x<b:=fun b e=>by have:=I.own.lt b e.symm;omega
 have hk1:Kept (fun b=>b=mb) wr w2:=keptD.trans Y.kept
 have hsz:=hk1.size
 have k24:Kept (fun b=>x<b) w2 w4:=keptA.trans (K4.mono fun b _ e=>hb b e)
 have k25:Kept (fun b=>x≤b) w2 (w4.setCell ⟨x,3,none⟩ (.slice (some ⟨g,0,none⟩) (k+1) cap')):=(k24.mono fun b _ h=>Nat.le_of_lt h).trans (Kept.set1 (Nat.le_refl _))
 have kall:Kept (fun b=>b=mb) w (w4.setCell ⟨x,3,none⟩ (.slice (some ⟨g,0,none⟩) (k+1) cap')) :=
  (((I.kept.trans hk1).mono (M':=fun b=>b=mb∨w.heap.size≤b) fun _ _ h=>.inl h).trans (k25.mono fun b _ h=>.inr (by omega))).fresh (Nat.le_refl _)
 have hlen:(t.snoc (T.x k1 n1 op1 kids1 body1)).len=k+1:=by rw[T.len_snoc _ _ I.list,I.len]
 have g1:=Y.went
 have q1:=Y.cost
 have q2:=Y.deep
 exact {
  st:=⟨k25.obj Y.st.obj (by omega),h.nums.kept kall,Y.st.tot,Y.st.lo,Y.st.lab,Y.st.inn,Y.st.flo⟩
  kept:=kall
  res:=k25.obj (hk1.obj I.res (by omega)) (by omega)
  obj:=set_of_cells (k24.obj (hk1.obj I.obj (by omega)) (by omega)) 3 _
  own:=by
   rw[T.g_snoc _ _ I.list]
   exact O4.kept (M:=fun b=>b=x) Kept.set1e (fun b hb=>by have:=O4.lt b hb;omega) (fun b hb=>by omega)
  list:=T.isList_snoc _ _ I.list
  len:=hlen
  wf:=W.snocE Y.wf I.wf
  tot:=by have:=I.tot;have:=g1.tot;omega
  lab0:=Nat.le_trans I.lab0 g1.lab0
  lab1:=by have:=I.lab1;have:=g1.lab1;omega
  inner:=g1.inner.trans I.inner
  le:=by have:=I.le;have:=g1.le;omega
  low:=fun h0=>by
   have:=I.low h0
   by_cases hb:0≤c'.left
   · have:=g1.low hb;omega
   · have:=g1.low' (by omega);omega
  low':=fun h0=>by have:=I.low' h0;have:=I.le;have:=g1.low' (by omega);omega
  cost:=by rw[T.cost_snoc _ _ I.list];have:=I.cost;omega
  deep:=by rw[T.deep_snoc _ _ I.list];have:=I.deep;omega
  xd:=by rw[T.xd_snoc _ _ I.list];have:=I.xd;have:=Y.xd;have:=I.inner;omega }
theorem CallI.done(h:MSt w mb ns fl c)(I:CallI w mb ns fl c d j op r x k a cap t c' wr)(hx:mb<r)(hrx:r<x)(hwr:w.heap.size≤r)(hk2:k≤2)(hop:isName op)(hj:c.inner+j=2){wf:World}(hk:Kept (fun b=>b=r) wr wf) :
 ExprP w mb ns fl c 0 (1+(d+1:Nat)+11*j) 2 2 (1+(d+1)+8*j) (fun k=>k=5) (.returned (.agg #[.int .i64 5,.int .i64 0,.string op,.slice a k cap,.slice none 0 0])) wf:=by
 have kall:Kept (fun b=>b=mb) w wf:=((I.kept.mono (M':=fun b=>b=mb∨w.heap.size≤b) fun _ _ h=>.inl h).trans (hk.mono fun b _ h=>.inr (by omega))).fresh (Nat.le_refl _)
 have own:=I.own.kept hk (fun b hb=>by have:=I.own.lt b hb;omega) (fun b hb=>by omega)
 refine⟨5,0,op,t,.nil,a,k,cap,none,0,0,c',rfl,rfl,.call op t hop I.wf,(own.rep fun b h0 _=>by omega).imp fun b _ h1=>by omega,⟨_,_,rfl⟩,⟨hk.obj I.st.obj (by omega),h.nums.kept kall,I.st.tot,I.st.lo,I.st.lab,I.st.inn,I.st.flo⟩,kall,?_,?_,?_,by have:=I.xd;simp only[T.xd];omega⟩
 · exact { tot:=I.tot,le:=by have:=I.le;omega,lab0:=I.lab0,lab1:=I.lab1,inner:=I.inner,low:=fun h0=>by have:=I.low h0;omega,low':=fun h0=>by have:=I.low' h0;omega }
 · have:=I.cost
   simp only[T.cost,if_true]
   omega
 · have:=I.deep
   simp only[T.deep,Nat.reduceEqDiff,if_false,if_true]
   omega
end
theorem pick4n(i:Int)(h0:0≤i)(h1:i<4):∃ op0,(∀ W:World,(W.alloc (Obj.cells #[Value.string { data:=#[102] },Value.string { data:=#[103] },Value.string { data:=#[104] },Value.string { data:=#[107] }] 9)).cell? { block:=W.heap.size,off:=i.toNat }=some (.string op0)) ∧
 (∀ (hh:i.toNat<([Value.string { data:=#[102] },Value.string { data:=#[103] },Value.string { data:=#[104] },Value.string { data:=#[107] }]:List Value).length),([Value.string { data:=#[102] },Value.string { data:=#[103] },Value.string { data:=#[104] },Value.string { data:=#[107] }]:List Value)[i.toNat]'hh=.string op0)∧isName op0:=by
 have:i=0∨i=1∨i=2∨i=3:=by omega
 rcases this with rfl|rfl|rfl|rfl
 · exact⟨sF,fun W=>cell_of_cells (heap_alloc_new W _) 0 rfl,fun _=>rfl,.inl rfl⟩
 · exact⟨sG,fun W=>cell_of_cells (heap_alloc_new W _) 1 rfl,fun _=>rfl,.inr (.inl rfl)⟩
 · exact⟨sH,fun W=>cell_of_cells (heap_alloc_new W _) 2 rfl,fun _=>rfl,.inr (.inr (.inl rfl))⟩
 · exact⟨sK,fun W=>cell_of_cells (heap_alloc_new W _) 3 rfl,fun _=>rfl,.inr (.inr (.inr rfl))⟩
theorem call_any(d j:Nat)(hd1:d≤1)(hE:ContrE d j):ContrCall (d+1) j:=by
 intro w mb ns fl c n h hj hlo hn0 hn1 D hD
 have hD0:1≤D:=by omega
 have hD1:D≤2:=by omega
 have hmb:=lt_of_heap h.obj
 have hE':=Lib.hid hE
 have hw:IntKind.i64.wrap (D-1)=D-1:=by rw[IntKind.wrap_i64];omega
 have hDd:=Lib.hid hD
 clear hD
 clear hE
 have t0:0≤n / 16%4:=by omega
 have t1:n / 16%4<4:=by omega
 obtain⟨op0,hop,hopl,hop2⟩:=pick4n _ t0 t1
 obtain⟨i0,hi,hz0,hz1,hz2⟩:=info_parts info_X
 go_enter Tryz.func47,Tryz.ntmps47
 go_wp2_with fail
 have hs0:CallI w mb ns fl c d j op0 w.heap.size (w.heap.size+1+1) 0 none 0 .nil c _:=CallI.start h ((keptA.trans keptA).trans keptA) (heap3_0 w _ (Obj.cells #[Value.string { data:=#[102] },Value.string { data:=#[103] },Value.string { data:=#[104] },Value.string { data:=#[107] }] 9) _) (heap3_2 w _ _ _)
 go_loopw [18] (fun i wr=>∃ (k:Nat) (a:Option Addr) (cap:Nat) (t:T) (c':MC),(k:Int)≤n / 64%3∧i=.int .u32 k∧CallI w mb ns fl c d j op0 w.heap.size (w.heap.size+1+1) k a cap t c' wr) (fun i _=>(n / 64%3-intOf i).toNat)
 case atStart=>exact⟨0,none,0,.nil,c,by omega,rfl,hs0⟩
 case round =>
  clear hs0
  obtain⟨k,a,cap,t,c',hk,rfl,I⟩:=hrel
  by_cases hlt:(k:Int)<n / 64%3
  · have hx3:=cell_of_cells I.obj 3 rfl
    have hdl:=I.inner
    have hcl:-290≤c'.left:=by
     by_cases h0:0≤c.left
     · have:=I.low h0;omega
     · have:=I.low' (by omega);omega
    have hsx:=lt_of_heap I.obj
    go_wp2_with fail
    go_region_law (first
     | (go_simp;go_at_call 44;refine(hE'.out _ mb ns fl c' (I.st.keptBut (M:=fun b=>wr.heap.size≤b) ?k1 (fun _ h=>h)) ?k2 ?k3 _ (by have:=hDd.out;omega)).mono ?_;(case k1=>exact keptD);(case k2=>omega);(case k3=>omega);rintro e w2 ⟨k1,n1,op1,kids1,body1,ak1,nk1,ck1,ab1,nb1,cb1,c2,rfl,_,Y⟩;have hy4:=(I.app (by omega) Y (Obj.cells #[] 64)).2.2.2;have hy3:w2.cell? ⟨w.heap.size+1+1,3,none⟩=some (.slice a k cap):=(keptD.trans Y.kept).cell hx3 (by simp;omega))
     | (refine step_append_one (D:=fun b=>w.heap.size+1+1<b) (base:=w.heap.size+1+1+1) rfl (.tmp 21) (.tmp 26) 62 rfl i0 _ 80 ul_sX hi hz0 hz1 hz2 rfl rfl (I.app (by omega) Y _).1 k I.glen ⟨w2.heap.size,0,none⟩ 1 rfl _ _ rfl (new_cells _ _ _) one5 (I.app (by omega) Y _).2.1 (by omega) (by omega) (by have:=hy4;simp<;>omega) ?_;intro g cap' w4 O4 K4 hb4 hg4;have hz3:w4.cell? ⟨w.heap.size+1+1,3,none⟩=some (.slice a k cap):=K4.cell (I.app (by omega) Y _).2.2.1 (fun e=>absurd (I.own.lt _ e.symm).1 (Nat.not_succ_le_self _));have hzf:=I.frz (by omega) Y (Obj.cells #[.int .i64 k1,.int .i64 n1,.string op1,.slice ak1 nk1 ck1,.slice ab1 nb1 cb1] 64) K4))
    all_goals go_wp2_with fail
    all_goals go_roundw
    all_goals first
     | exact⟨k+1,_,_,_,_,by omega,by go_num,I.next h (by omega) (by omega) (Nat.le_refl _) hlo (by omega) hj Y O4 K4⟩
     | (simp[intOf];omega)
  · have cr:=slot5 I.res
    have cx:=slot5 I.obj
    obtain⟨r0,r1,r2,r3,r4,q0,q1,q2,q3,q4⟩:=cr
    obtain⟨x0,x1,x2,x3,x4,y0,y1,y2,y3,y4⟩:=cx
    go_wp2_with fail
    refine bodyPost_ret (v:=.agg #[.int .i64 5,.int .i64 0,.string op0,.slice a k cap,.slice none 0 0]) (by simp[results,Tryz.results47,go_sem,r0,r1,r2,r3,r4];done) rfl ?_
    exact I.done h (by omega) (by omega) (Nat.le_refl _) (by omega) hop2 hj (Kept.set5 (M:=fun b=>b=w.heap.size) rfl)
def LabG:G→Prop
 | .nil=>True
 | .cons (.at (.string s) .fin) t=>(∃ k,k≤1000∧s=lab k)∧LabG t
 | _=>False
def Labs(w:World)(mb q:Nat)(v:Value):Prop:=∃ (a:Option Addr) (n cap:Nat) (l:G),v=.slice a n cap∧n≤q∧LabG l∧l.isList∧Rep w (fun b=>b≠mb) l [v]
theorem Labs.up{w:World}{mb q q':Nat}{v:Value}(h:Labs w mb q v)(hq:q≤q'):Labs w mb q' v:=by
 obtain⟨a,n,cap,l,e,h0,h1⟩:=h
 exact⟨a,n,cap,l,e,by omega,h1⟩
structure GotL (w:World) (mb:Nat) (ns:Value) (fl:Bool) (c:MC) (O:Int) (dp:Nat) (t:T) (a:Option Addr) (n cap:Nat) (c':MC) (w':World):Prop where
 wf:W fl .Ss t
 rep:Rep w' (fun b=>w.heap.size≤b) t.g [.slice a n cap]
 st:MSt w' mb ns fl c'
 kept:Kept (fun b=>b=mb) w w'
 went:Went 1 O 1 c c'
 cost:(t.cost:Int)+5≤5*(c.left-c'.left)
 deep:t.deep≤dp
def ListP(w:World)(mb:Nat)(ns:Value)(fl:Bool)(c:MC)(O:Int)(dp:Nat)(e:Ending)(w':World):Prop :=
 ∃ (t:T) (a:Option Addr) (n cap:Nat) (c':MC),e=.returned (.slice a n cap)∧GotL w mb ns fl c O dp t a n cap c' w'
def ContrL(d j:Nat):Prop:=∀ (w:World) (mb:Nat) (ns:Value) (fl:Bool) (c:MC) (inn:Bool) (ls:Value),MSt w mb ns fl c→c.inner+j=2→-280≤c.left→Labs w mb (3-d) ls→∀ D:Int,D=d →
 Calls Tryz.prog 45 #[.pointer (some ⟨mb,0,none⟩),.int .i64 D,.bool inn,ls] w (ListP w mb ns fl c (3+11*(d+j)) (4+5*d+8*j))
theorem expr_one_end{w w1 w2 wf:World}{mb:Nat}{ns:Value}{fl:Bool}{c c2:MC}{d j kind r:Nat}
 {k1 n1:Nat} {op1:Str} {kids1 body1:T} {ak1 ab1:Option Addr} {nk1 ck1 nb1 cb1:Nat}
 (h:MSt w mb ns fl c) (hl:0≤c.left-1) (hk1:Kept (fun b=>b=mb) w w1) (z1:w.heap.size<w1.heap.size)
 (Y1:GotE w1 mb ns fl { c with m:=c.m+1,left:=c.left-1 } 1 (1+d+11*j) 1 0 (1+d+8*j) k1 n1 op1 kids1 body1 ak1 nk1 ck1 ab1 nb1 cb1 c2 w2)
 (hC:Kept (fun b=>b=w.heap.size) w2 wf) (hrow:wf.heap[r]?=some (.cells #[.int .i64 k1,.int .i64 n1,.string op1,.slice ak1 nk1 ck1,.slice ab1 nb1 cb1] 64 (0,0))) (hr:w.heap.size≤r)
 (hkind:kind=3∨kind=4) (hj:c.inner+j=2):ExprP w mb ns fl c 1 (1+(d+1:Nat)+11*j) 1 0 (1+(d+1)+8*j) (fun _=>True) (.returned (.agg #[.int .i64 kind,.int .i64 0,.string ⟨#[]⟩,.slice (some ⟨r,0,none⟩) 1 1,.slice none 0 0])) wf:=by
 have hmb:=lt_of_heap h.obj
 have a2:=Y1.kept.size
 have g1:=Y1.went
 have m1:Kept (fun b=>b=mb∨b=w.heap.size) w2 wf:=hC.mono fun _ _ h=>.inr h
 have m0:Kept (fun b=>b=mb) w wf:=(((hk1.trans Y1.kept).mono (M':=fun b=>b=mb∨w.heap.size≤b) fun _ _ h=>.inl h).trans (m1.mono fun b _ h=>h.imp id (fun e=>by omega))).fresh (Nat.le_refl _)
 have hD1:∀ b,w1.heap.size≤b→¬ (b=mb∨b=w.heap.size):=fun b hb=>by omega
 have gg:=g1.afterNext (O':=1+(d+1:Nat)+11*j) (X':=1) hl (by omega)
 have hW:W fl .E (.x kind 0 sE (.cons (.x k1 n1 op1 kids1 body1) .nil) .nil):=by
  rcases hkind with rfl|rfl
  · exact .not _ Y1.wf
  · exact .par _ Y1.wf
 refine⟨kind,0,sE,.cons (.x k1 n1 op1 kids1 body1) .nil,.nil,_,_,_,_,_,_,c2,rfl,trivial,hW,?_,⟨_,_,rfl⟩,?_,m0,gg.weaken (by omega) (by omega) (by omega),?_,?_,by have x1:=Y1.xd;simp only[T.xd]at x1 ⊢;omega⟩
 · exact rep_one hrow hr (Y1.rep m1 hD1 (fun b hb=>by omega))
 · exact⟨hC.obj Y1.st.obj (by omega),h.nums.kept m0,Y1.st.tot,Y1.st.lo,Y1.st.lab,Y1.st.inn,Y1.st.flo⟩
 · have q1:=Y1.cost
   simp only[T.cost]at q1 ⊢
   rcases hkind with rfl|rfl<;>simp only[Nat.reduceEqDiff,if_false]<;>omega
 · have q1:=Y1.deep
   simp only[T.deep]at q1 ⊢
   rcases hkind with rfl|rfl<;>simp only[Nat.reduceEqDiff,if_false]<;>omega
theorem expr_not(d j:Nat)(hd2:d≤1)(hE:ContrE d j)(w:World)(mb:Nat)(ns:Value)(fl:Bool)(c:MC)(h:MSt w mb ns fl c)(hj:c.inner+j=2)(D:Int)(hD:D=(d+1:Nat))(hl:0≤c.left-1)
 (n:Nat) (hn:n<536870912) (hnext:Calls Tryz.prog 42 #[.pointer (some ⟨mb,0,none⟩)] (w.alloc (zeroX)) (NextN (w.alloc zeroX) mb ns fl c n)) (hr:n%12=3∨n%12=4) :
 Calls Tryz.prog 44 #[.pointer (some ⟨mb,0,none⟩),.int .i64 D] w (ExprP w mb ns fl c 1 (1+(d+1:Nat)+11*j) 1 0 (1+(d+1)+8*j) (fun _=>True)):=by
 have hD0:1≤D:=by omega
 have hD1:D≤2:=by omega
 have hmb:=lt_of_heap h.obj
 have hE':=Lib.hid hE
 have hn':=Lib.hid hnext
 have hd:(D == 0)=false:=by simp;omega
 have hDd:=Lib.hid hD
 clear hE hnext hD
 rcases hr with hr|hr
 all_goals
  have hr1:=Lib.hid hr
  clear hr
  go_enter Tryz.func44,Tryz.ntmps44
  go_wp2_with fail
  refine hn'.out.mono ?_
  rintro e w1 ⟨rfl,hst,hk⟩
  obtain⟨rc,rf⟩:=keptRules hk hmb
  have z1:w.heap.size<w1.heap.size:=by have:=hk.size;simp[zeroX]at this;omega
  have cl:=cell_of_cells hst.obj 2 rfl
  have hk1:=keptA.trans hk
  have o1:w1.heap[w.heap.size]?=some zeroX:=hk.new (by omega)
  clear hk hn'
  have hr2:=congrArg (fun n:Nat=>(n:Int)) hr1.out
  simp only[Int.natCast_emod]at hr2
  go_wp2_with fail
  refine(hE'.out w1 mb ns fl _ hst hj (by simp only[];omega) _ (by have:=hDd.out;omega)).mono ?_
  rintro e w2 ⟨k1,n1,op1,kids1,body1,ak1,nk1,ck1,ab1,nb1,cb1,c2,rfl,_,Y1⟩
  have z2:w.heap.size<w2.heap.size:=by have:=Y1.kept.size;omega
  obtain⟨c0,c1,c2',c3,c4,f0,f1,f2,f3,f4⟩:=slot5 (Y1.kept.obj o1 (by omega))
  go_wp2_with fail
 · refine bodyPost_ret (v:=.agg #[.int .i64 3,.int .i64 0,.string ⟨#[]⟩,.slice (some ⟨w2.heap.size,0,none⟩) 1 1,.slice none 0 0]) (by simp[results,Tryz.results44,go_sem,c0,c1,c2',c3,c4,z2];done) rfl ?_
   exact expr_one_end (kind:=3) h hl hk1 z1 Y1 kept_a wf_a (by omega) (.inl rfl) hj
 · refine bodyPost_ret (v:=.agg #[.int .i64 4,.int .i64 0,.string ⟨#[]⟩,.slice (some ⟨w2.heap.size,0,none⟩) 1 1,.slice none 0 0]) (by simp[results,Tryz.results44,go_sem,c0,c1,c2',c3,c4,z2];done) rfl ?_
   exact expr_one_end (kind:=4) h hl hk1 z1 Y1 kept_a wf_a (by omega) (.inr rfl) hj
structure SV where
 kind:Nat
 n:Nat
 op:Str
 lab:Str
 xk:Nat
 xn:Nat
 xop:Str
 a1:Option Addr
 n1:Nat
 c1:Nat
 a2:Option Addr
 n2:Nat
 c2:Nat
 a3:Option Addr
 n3:Nat
 c3:Nat
 a4:Option Addr
 n4:Nat
 c4:Nat
 has:Bool
 chain:Bool
 a5:Option Addr
 n5:Nat
 c5:Nat
structure GotS (w:World) (mb:Nat) (ns:Value) (fl:Bool) (c:MC) (k O X:Int) (more:Int) (dp:Nat) (s:SV) (kids xb body els cases:T) (c':MC) (w':World):Prop where
 wf:W fl .S (.s s.kind s.n s.op s.lab (.x s.xk s.xn s.xop kids xb) body els s.has s.chain cases)
 r1:Rep w' (fun b=>w.heap.size≤b) kids.g [.slice s.a1 s.n1 s.c1]
 r2:Rep w' (fun b=>w.heap.size≤b) xb.g [.slice s.a2 s.n2 s.c2]
 r3:Rep w' (fun b=>w.heap.size≤b) body.g [.slice s.a3 s.n3 s.c3]
 r4:Rep w' (fun b=>w.heap.size≤b) els.g [.slice s.a4 s.n4 s.c4]
 r5:Rep w' (fun b=>w.heap.size≤b) cases.g [.slice s.a5 s.n5 s.c5]
 st:MSt w' mb ns fl c'
 kept:Kept (fun b=>b=mb) w w'
 went:Went k O X c c'
 cost:((T.s s.kind s.n s.op s.lab (.x s.xk s.xn s.xop kids xb) body els s.has s.chain cases).cost:Int)≤5*(c.left-c'.left)+more
 deep:(T.s s.kind s.n s.op s.lab (.x s.xk s.xn s.xop kids xb) body els s.has s.chain cases).deep≤dp
def StmtP(w:World)(mb:Nat)(ns:Value)(fl:Bool)(c:MC)(k O X:Int)(more:Int)(dp:Nat)(ps:SV→Prop)(e:Ending)(w':World):Prop :=
 ∃ (s:SV) (kids xb body els cases:T) (c':MC),
  e=.returned (.agg #[.int .i64 s.kind,.int .i64 s.n,.string s.op,.string s.lab,.int .i64 s.xk,.int .i64 s.xn,.string s.xop,.slice s.a1 s.n1 s.c1,.slice s.a2 s.n2 s.c2,.slice s.a3 s.n3 s.c3,.slice s.a4 s.n4 s.c4,.bool s.has,.bool s.chain,.slice s.a5 s.n5 s.c5]) ∧
  ps s∧GotS w mb ns fl c k O X more dp s kids xb body els cases c' w'
def ContrS(d j:Nat):Prop:=∀ (w:World) (mb:Nat) (ns:Value) (fl:Bool) (c:MC) (inn:Bool) (ls:Value),MSt w mb ns fl c→c.inner+j=2→0≤c.left→Labs w mb (3-d) ls→∀ D:Int,D=d →
 Calls Tryz.prog 29 #[.pointer (some ⟨mb,0,none⟩),.int .i64 D,.bool inn,ls] w (StmtP w mb ns fl c 1 (3+11*(d+j)) 1 0 (4+5*d+8*j) (fun _=>True))
theorem Labs.kept{w w':World}{mb q:Nat}{v:Value}(h:Labs w mb q v)(hk:Kept (fun b=>b=mb) w w'):Labs w' mb q v:=by
 obtain⟨a,n,cap,l,e,h0,h1,h2,h3⟩:=h
 exact⟨a,n,cap,l,e,h0,h1,h2,h3.kept hk fun b hb=>hb⟩
theorem GotS.rep{w w' w'':World}{mb:Nat}{ns:Value}{fl:Bool}{c c':MC}{k O X more:Int}{dp:Nat}{s:SV}{kids xb body els cases:T}
 (Y:GotS w mb ns fl c k O X more dp s kids xb body els cases c' w') {M D:Nat→Prop} (hk:Kept M w' w'') (hM:∀ b,w.heap.size≤b→¬ M b) (hD:∀ b,w.heap.size≤b→D b) :
 Rep w'' D (T.s s.kind s.n s.op s.lab (.x s.xk s.xn s.xop kids xb) body els s.has s.chain cases).g
  [.int .i64 s.kind,.int .i64 s.n,.string s.op,.string s.lab,.int .i64 s.xk,.int .i64 s.xn,.string s.xop,.slice s.a1 s.n1 s.c1,.slice s.a2 s.n2 s.c2,.slice s.a3 s.n3 s.c3,.slice s.a4 s.n4 s.c4,.bool s.has,.bool s.chain,.slice s.a5 s.n5 s.c5] :=
 have t:∀ {t:T} {v:Value},Rep w' (fun b=>w.heap.size≤b) t.g [v]→Rep w'' D t.g [v]:=fun r=>(r.kept hk hM).imp (fun b _ h=>hD b h)
 ⟨_,rfl,_,rfl,_,rfl,_,rfl,[_,_,_,_,_],_,rfl,⟨_,rfl,_,rfl,_,rfl,_,_,rfl,t Y.r1,_,_,rfl,t Y.r2,rfl⟩,_,_,rfl,t Y.r3,_,_,rfl,t Y.r4,_,rfl,_,rfl,_,_,rfl,t Y.r5,rfl⟩
theorem one14{s:SV}:∀ u∈[Value.int .i64 s.kind,.int .i64 s.n,.string s.op,.string s.lab,.int .i64 s.xk,.int .i64 s.xn,.string s.xop,.slice s.a1 s.n1 s.c1,.slice s.a2 s.n2 s.c2,.slice s.a3 s.n3 s.c3,.slice s.a4 s.n4 s.c4,.bool s.has,.bool s.chain,.slice s.a5 s.n5 s.c5],u.oneCell'=true:=by
 intro u hu
 simp only[List.mem_cons,List.not_mem_nil,or_false]at hu
 rcases hu with rfl|rfl|rfl|rfl|rfl|rfl|rfl|rfl|rfl|rfl|rfl|rfl|rfl|rfl<;>rfl
structure ListI (w:World) (mb:Nat) (ns:Value) (fl:Bool) (c:MC) (d j k:Nat) (a:Option Addr) (cap:Nat) (t:T) (c':MC) (wr:World):Prop where
 st:MSt wr mb ns fl c'
 kept:Kept (fun b=>b=mb) w wr
 own:OwnL wr (fun b=>w.heap.size≤b) w.heap.size 66 14 (.slice a k cap) t.g
 list:t.isList
 len:t.len=k
 wf:W fl .Ss t
 went:Went 1 (3+11*(d+j)) 1 c c'
 cost:(t.cost:Int)+5≤5*(c.left-c'.left)
 deep:t.deep≤4+5*d+8*j
section
variable {w:World} {mb:Nat} {ns:Value} {fl:Bool} {c:MC} {d j k:Nat} {a:Option Addr} {cap:Nat} {t:T} {c':MC} {wr:World}
theorem ListI.start(h:MSt w mb ns fl c){w1:World}(hst:MSt w1 mb ns fl { c with m:=c.m+1,left:=c.left-1 })(hk:Kept (fun b=>b=mb) (w.alloc (.cells #[] 66)) w1)(hmb:mb<w.heap.size) :
 ListI w mb ns fl c d j 0 (some ⟨w.heap.size,0,none⟩) 0 .nil { c with m:=c.m+1,left:=c.left-1 } w1 :=
 { st:=hst
   kept:=keptA.trans hk
   own:=by
    refine OwnL.kept (M:=fun b=>b=mb) (w:=w.alloc (.cells #[] 66)) ⟨[],World.ownsRow_made w #[] 0 (Nat.le_refl _) (Nat.zero_le _) rfl,rfl⟩ hk (fun b hb=>?_) (fun b hb=>by omega)
    simp only[Value.ownBlock,Option.some.injEq]at hb
    omega
   list:=trivial
   len:=rfl
   wf:=.snil
   went:={ tot:=by simp;omega,le:=by simp,lab0:=Nat.le_refl _,lab1:=by simp;omega,inner:=rfl,low:=fun h0=>by simp;omega,low':=fun h0=>by simp }
   cost:=by simp[T.cost];omega
   deep:=by simp[T.deep] }
theorem ListI.glen(I:ListI w mb ns fl c d j k a cap t c' wr):t.g.len=k:=by rw[T.g_len,I.len]
theorem ListI.app(I:ListI w mb ns fl c d j k a cap t c' wr)(hmb:mb<w.heap.size){s:SV}{kids xb body els cases:T}{c2:MC}{w2:World}{k' O X more:Int}{dp:Nat}
 (Y:GotS wr mb ns fl c' k' O X more dp s kids xb body els cases c2 w2) (o:Obj) :
 OwnL (w2.alloc o) (fun b=>w.heap.size≤b) w.heap.size 66 14 (.slice a k cap) t.g ∧
 Rep (w2.alloc o) (fun b=>w.heap.size≤b∧some b≠(Value.slice a k cap).ownBlock) (T.s s.kind s.n s.op s.lab (.x s.xk s.xn s.xop kids xb) body els s.has s.chain cases).g
  [.int .i64 s.kind,.int .i64 s.n,.string s.op,.string s.lab,.int .i64 s.xk,.int .i64 s.xn,.string s.xop,.slice s.a1 s.n1 s.c1,.slice s.a2 s.n2 s.c2,.slice s.a3 s.n3 s.c3,.slice s.a4 s.n4 s.c4,.bool s.has,.bool s.chain,.slice s.a5 s.n5 s.c5] ∧
 w.heap.size≤w2.heap.size:=by
 have hk:Kept (fun b=>b=mb) wr (w2.alloc o):=Y.kept.trans keptA
 have s1:=I.kept.size
 have s2:=Y.kept.size
 refine⟨I.own.kept hk (fun b hb=>by have:=I.own.lt b hb;omega) (fun b hb=>by omega),Y.rep (M:=fun _=>False) keptA (fun _ _ f=>f) (fun b hb=>⟨by omega,fun e=>?_⟩),by omega⟩
 have:=I.own.lt b e.symm
 omega
theorem ListI.next(h:MSt w mb ns fl c)(I:ListI w mb ns fl c d j k a cap t c' wr)(h0:0≤c'.left){s:SV}{kids xb body els cases:T}{c2:MC}{w2 w4:World}{o:Obj}{g cap':Nat}
 (Y:GotS wr mb ns fl c' 1 (3+11*(d+j)) 1 0 (4+5*d+8*j) s kids xb body els cases c2 w2)
 (O4:OwnL w4 (fun b=>w.heap.size≤b) w.heap.size 66 14 (.slice (some ⟨g,0,none⟩) (k+1) cap') (t.g.snoc (T.s s.kind s.n s.op s.lab (.x s.xk s.xn s.xop kids xb) body els s.has s.chain cases).g))
 (K4:Kept (fun b=>some b=(Value.slice a k cap).ownBlock) (w2.alloc o) w4) :
 ListI w mb ns fl c d j (k+1) (some ⟨g,0,none⟩) cap' (t.snoc (T.s s.kind s.n s.op s.lab (.x s.xk s.xn s.xop kids xb) body els s.has s.chain cases)) c2 w4:=by
 have hmb:=lt_of_heap h.obj
 have s1:=I.kept.size
 have s2:=Y.kept.size
 have hb:∀ b,some b=(Value.slice a k cap).ownBlock→w.heap.size≤b:=fun b e=>(I.own.lt b e.symm).1
 have k24:Kept (fun b=>w.heap.size≤b) w2 w4:=keptA.trans (K4.mono fun b _ e=>hb b e)
 have kall:Kept (fun b=>b=mb) w w4:=keptFresh (I.kept.trans Y.kept) k24
 have q1:=Y.cost
 have q2:=Y.deep
 have g1:=Y.went
 have g0:=I.went
 exact {
  st:=⟨k24.obj Y.st.obj (by omega),h.nums.kept kall,Y.st.tot,Y.st.lo,Y.st.lab,Y.st.inn,Y.st.flo⟩
  kept:=kall
  own:=by
   rw[T.g_snoc _ _ I.list]
   exact O4
  list:=T.isList_snoc _ _ I.list
  len:=by rw[T.len_snoc _ _ I.list,I.len]
  wf:=W.snocS Y.wf I.wf
  went:={ tot:=by have:=g0.tot;have:=g1.tot;omega,le:=by have:=g0.le;have:=g1.le;omega,lab0:=Nat.le_trans g0.lab0 g1.lab0,lab1:=by have:=g0.lab1;have:=g1.lab1;omega,inner:=g1.inner.trans g0.inner,low:=fun _=>g1.low h0,low':=fun h1=>by have:=g0.le;omega }
  cost:=by rw[T.cost_snoc _ _ I.list];have:=I.cost;omega
  deep:=by rw[T.deep_snoc _ _ I.list];have:=I.deep;omega }
theorem ListI.done(h:MSt w mb ns fl c)(I:ListI w mb ns fl c d j k a cap t c' wr):ListP w mb ns fl c (3+11*(d+j)) (4+5*d+8*j) (.returned (.slice a k cap)) wr :=
 ⟨t,a,k,cap,c',rfl,I.wf,I.own.rep (fun b h0 _=>h0),I.st,I.kept,I.went,I.cost,I.deep⟩
end
theorem list_any(d j:Nat)(hd:d≤3)(hS:ContrS d j):ContrL d j:=by
 intro w mb ns fl c inn ls h hj hlo hls D hD
 have hmb:=lt_of_heap h.obj
 have hS':=Lib.hid hS
 have hDd:=Lib.hid hD
 clear hS hD
 obtain⟨i0,hi,hz0,hz1,hz2⟩:=info_parts info_S
 obtain⟨n,hn,hnext⟩:=next_ex (w.alloc (.cells #[] 66)) mb ns fl c (h.keptBut (Kept.alloc _ _ _) (M:=fun _=>False) (fun _ f=>f.elim)) (by omega)
 have hn':=Lib.hid hnext
 clear hnext
 go_enter Tryz.func45,Tryz.ntmps45
 go_wp2_with fail
 refine hn'.out.mono ?_
 rintro e w1 ⟨rfl,hst,hk⟩
 go_wp2_with fail
 have hs0:=ListI.start (d:=d) (j:=j) h hst hk hmb
 go_loopw [9,15] (fun v i wr=>∃ (k:Nat) (a:Option Addr) (cap:Nat) (t:T) (c':MC),(k:Int)≤1+n%4∧v=.slice a k cap∧i=.int .u32 k∧ListI w mb ns fl c d j k a cap t c' wr) (fun _ i _=>(1+n%4-intOf i).toNat)
 case atStart=>exact⟨0,_,0,.nil,_,by omega,rfl,rfl,hs0⟩
 case round =>
  clear hs0 hst hk
  obtain⟨k,a,cap,t,c',hk',rfl,rfl,I⟩:=hrel
  have hx:=cell_of_cells I.st.obj 2 rfl
  have hsx:=lt_of_heap I.st.obj
  by_cases hlt:(k:Int)<1+n%4
  · by_cases h0:c'.left<0
    · go_wp2_with fail
      go_ret
      exact I.done h
    · go_wp2_with fail
      refine(hS'.out wr mb ns fl c' inn ls I.st (by have:=I.went.inner;omega) (by omega) (hls.kept I.kept) D hDd.out).mono ?_
      rintro e w2 ⟨s,kids,xb,body,els,cases,c2,rfl,_,Y⟩
      go_wp2_with (at_builtin;go_must (refine wpList_append_one (D:=fun b=>w.heap.size≤b) (base:=w.heap.size) (v:=.slice a k cap) rfl (.tmp 22) (.tmp 28) 23 rfl i0 _ 208 ul_sS hi hz0 hz1 hz2 rfl rfl (I.app hmb Y _).1 k I.glen ⟨w2.heap.size,0,none⟩ 1 rfl _ _ rfl (new_cells _ _ _) one14 (I.app hmb Y _).2.1 (by omega) (by omega) (by have:=(I.app hmb Y (Obj.cells #[] 66)).2.2;simp;omega) ?_);intro g cap' w4 O4 K4 hb4 hg4)
      have I':=I.next h (by omega) Y O4 K4
      go_roundw
      · exact⟨k+1,_,_,_,_,by omega,rfl,by go_num,I'⟩
      · simp[intOf];omega
  · go_wp2_with fail
    go_ret
    exact I.done h
end Go.Proofs.YtleolbpibjnedaaGreat
