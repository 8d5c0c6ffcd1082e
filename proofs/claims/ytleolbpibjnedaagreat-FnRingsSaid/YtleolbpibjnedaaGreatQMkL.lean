/- The laws' maker: statements: the cases of a switch, of a select. -/
import Derived.Test.YtleolbpibjnedaaGreatQMkH
import Derived.Test.YtleolbpibjnedaaGreatQBase
import Derived.Deep.RegionLaw
set_option linter.unusedSimpArgs false
set_option linter.unusedVariables false
set_option maxRecDepth 100000
set_option maxHeartbeats 4000000
namespace Go.Proofs.YtleolbpibjnedaaGreat
open Go Go.RowKit Gc
structure SwI (w:World) (mb:Nat) (ns:Value) (fl:Bool) (c:MC) (d j:Nat) (x:Nat) (kind kx nx:Nat) (opx:Str) (kidsx bodyx:T) (ax:Option Addr) (nkx cx:Nat) (ay:Option Addr) (nky cy:Nat) (k:Nat) (a:Option Addr) (cap:Nat) (t:T) (c':MC) (wr:World):Prop where
 st:MSt wr mb ns fl c'
 kept:Kept (fun b=>b=mb) w wr
 res:wr.heap[w.heap.size]?=some zeroS
 obj:wr.heap[x]?=some (.cells #[.int .i64 kind,.int .i64 0,.string ⟨#[]⟩,.string ⟨#[]⟩,.int .i64 kx,.int .i64 nx,.string opx,.slice ax nkx cx,.slice ay nky cy,.slice none 0 0,.slice none 0 0,.bool false,.bool false,.slice a k cap] 66 (0,0))
 own:OwnL wr (fun b=>x<b) (x+1) 23 1 (.slice a k cap) t.g
 wfx:W fl .E (.x kx nx opx kidsx bodyx)
 rk:Rep wr (fun b=>w.heap.size<b∧b<x) kidsx.g [.slice ax nkx cx]
 rb:Rep wr (fun b=>w.heap.size<b∧b<x) bodyx.g [.slice ay nky cy]
 list:t.isList
 len:t.len=k
 wf:W fl .Cs t
 tot:(c'.m:Int)+c'.left=c.m+c.left
 lab0:c.labels≤c'.labels
 lab1:(c'.labels:Int)+c'.left≤c.labels+c.left
 inner:c'.inner=c.inner
 le:c'.left+1≤c.left
 low:0≤c.left→-(3+11*((d:Int)+j))-k≤c'.left
 cost:(t.cost:Int)+5*k+(T.x kx nx opx kidsx bodyx).cost+3≤5*(c.left-c'.left)
 deep:t.deep≤4+5*d+8*j
 deepx:(T.x kx nx opx kidsx bodyx).deep≤2+8*j
section
variable {w:World} {mb:Nat} {ns:Value} {fl:Bool} {c:MC} {d j:Nat} {x k:Nat} {a:Option Addr} {cap:Nat} {t:T} {c':MC} {wr:World} {kind kx nx:Nat} {opx:Str} {kidsx bodyx:T} {ax:Option Addr} {nkx cx:Nat} {ay:Option Addr} {nky cy:Nat}
theorem SwI.start(h:MSt w mb ns fl c)(hl:0≤c.left){w1 w2 w3:World}{c2:MC}(hk1:Kept (fun b=>b=mb) w w1)(z1:w.heap.size<w1.heap.size)(o1:w1.heap[w.heap.size]?=some zeroS)
 (Y1:GotE w1 mb ns fl { c with m:=c.m+1,left:=c.left-1 } 1 (1+(1:Nat)+11*j) 1 0 (1+1+8*j) kx nx opx kidsx bodyx ax nkx cx ay nky cy c2 w2) (hk:Kept (fun _=>False) w2 w3)
 (ho:w3.heap[w2.heap.size]?=some (.cells #[.int .i64 kind,.int .i64 0,.string ⟨#[]⟩,.string ⟨#[]⟩,.int .i64 kx,.int .i64 nx,.string opx,.slice ax nkx cx,.slice ay nky cy,.slice none 0 0,.slice none 0 0,.bool false,.bool false,.slice none 0 0] 66 (0,0))):SwI w mb ns fl c d j w2.heap.size kind kx nx opx kidsx bodyx ax nkx cx ay nky cy 0 none 0 .nil c2 w3:=by
 have hmb:=lt_of_heap h.obj
 have s2:=Y1.kept.size
 have s3:=hk.size
 have k3:Kept (fun b=>b=mb) w w3:=(hk1.trans Y1.kept).trans (hk.mono fun _ _ f=>f.elim)
 have g1:=Y1.went
 have a1:=g1.tot;have a2:=g1.le;have a3:=g1.lab0;have a4:=g1.lab1;have a5:=g1.inner;have a6:=g1.low;have a7:=g1.low'
 simp only[]at a1 a2 a3 a4 a5 a6 a7
 have q1:=Y1.cost
 try simp only[]at q1
 exact {
  st:=⟨hk.obj Y1.st.obj (fun f=>f),h.nums.kept k3,Y1.st.tot,Y1.st.lo,Y1.st.lab,Y1.st.inn,Y1.st.flo⟩
  kept:=k3
  res:=hk.obj (Y1.kept.obj o1 (by omega)) (fun f=>f)
  obj:=ho
  own:=OwnL.nil _ _ _ _ _
  wfx:=Y1.wf
  rk:=(Y1.rk.imp fun b hl hb=>⟨by omega,hl⟩).kept hk (fun _ _ f=>f)
  rb:=(Y1.rb.imp fun b hl hb=>⟨by omega,hl⟩).kept hk (fun _ _ f=>f)
  list:=trivial
  len:=rfl
  wf:=.cnil
  tot:=by omega
  lab0:=by omega
  lab1:=by omega
  inner:=by omega
  le:=by omega
  low:=fun h0=>by omega
  cost:=by simp only[T.cost]at q1 ⊢;omega
  deep:=by simp[T.deep]
  deepx:=by have:=Y1.deep;omega }
theorem SwI.startSel(h:MSt w mb ns fl c)(hl:0≤c.left){w1 w2 w3:World}{c2:MC}(hk1:Kept (fun b=>b=mb) w w1)(z1:w.heap.size<w1.heap.size)(o1:w1.heap[w.heap.size]?=some zeroS)
 (Y1:GotE w1 mb ns fl { c with m:=c.m+1,left:=c.left-1 } 1 (1+(1:Nat)+11*j) 1 0 (1+1+8*j) kx nx opx kidsx bodyx ax nkx cx ay nky cy c2 w2) (hk:Kept (fun _=>False) w2 w3)
 (ho:w3.heap[w2.heap.size]?=some (.cells #[.int .i64 7,.int .i64 0,.string ⟨#[]⟩,.string ⟨#[]⟩,.int .i64 0,.int .i64 0,.string ⟨#[]⟩,.slice none 0 0,.slice none 0 0,.slice none 0 0,.slice none 0 0,.bool false,.bool false,.slice none 0 0] 66 (0,0))) :
 SwI w mb ns fl c d j w2.heap.size 7 0 0 sE .nil .nil none 0 0 none 0 0 0 none 0 .nil c2 w3:=by
 have hmb:=lt_of_heap h.obj
 have s2:=Y1.kept.size
 have s3:=hk.size
 have k3:Kept (fun b=>b=mb) w w3:=(hk1.trans Y1.kept).trans (hk.mono fun _ _ f=>f.elim)
 have g1:=Y1.went
 have a1:=g1.tot;have a2:=g1.le;have a3:=g1.lab0;have a4:=g1.lab1;have a5:=g1.inner;have a6:=g1.low;have a7:=g1.low'
 simp only[]at a1 a2 a3 a4 a5 a6 a7
 exact {
  st:=⟨hk.obj Y1.st.obj (fun f=>f),h.nums.kept k3,Y1.st.tot,Y1.st.lo,Y1.st.lab,Y1.st.inn,Y1.st.flo⟩
  kept:=k3
  res:=hk.obj (Y1.kept.obj o1 (by omega)) (fun f=>f)
  obj:=ho
  own:=OwnL.nil _ _ _ _ _
  wfx:=.num
  rk:=⟨_,_,rfl⟩
  rb:=⟨_,_,rfl⟩
  list:=trivial
  len:=rfl
  wf:=.cnil
  tot:=by omega
  lab0:=by omega
  lab1:=by omega
  inner:=by omega
  le:=by omega
  low:=fun h0=>by omega
  cost:=by simp only[T.cost,Nat.reduceEqDiff,if_false];omega
  deep:=by simp[T.deep]
  deepx:=by simp only[T.deep,Nat.reduceEqDiff,if_false];omega }
theorem SwI.glen(I:SwI w mb ns fl c d j x kind kx nx opx kidsx bodyx ax nkx cx ay nky cy k a cap t c' wr):t.g.len=k:=by rw[T.g_len,I.len]
theorem one1{a:Option Addr}{n c:Nat}:∀ u∈[Value.slice a n c],u.oneCell'=true:=by
 intro u hu
 simp only[List.mem_cons,List.not_mem_nil,or_false]at hu
 subst hu
 rfl
theorem SwI.app(I:SwI w mb ns fl c d j x kind kx nx opx kidsx bodyx ax nkx cx ay nky cy k a cap t c' wr)(hx:mb<x)
 {t2:T} {a2:Option Addr} {n2 cap2:Nat} {c2:MC} {w2:World} {O:Int} {dp:Nat}
 (Y:GotL wr.drew mb ns fl c' O dp t2 a2 n2 cap2 c2 w2) (o:Obj) :
 OwnL (w2.alloc o) (fun b=>x<b) (x+1) 23 1 (.slice a k cap) t.g ∧
 Rep (w2.alloc o) (fun b=>x<b∧some b≠(Value.slice a k cap).ownBlock) t2.g [.slice a2 n2 cap2] ∧
 (w2.alloc o).cell? ⟨x,13,none⟩=some (.slice a k cap)∧x<w2.heap.size:=by
 have hxs:=lt_of_heap I.obj
 have hk:Kept (fun b=>b=mb) wr (w2.alloc o):=(keptD.trans Y.kept).trans keptA
 have hk1:Kept (fun b=>b=mb) wr w2:=keptD.trans Y.kept
 have hsz:=hk1.size
 refine⟨I.own.kept hk (fun b hb=>?_) (fun b hb=>by omega),(Y.rep.kept (M:=fun _=>False) keptA (fun _ _ f=>f)).imp (fun b _ hb=>?_),?_,by omega⟩
 · have:=I.own.lt b hb;omega
 · simp at hb
   refine⟨by omega,fun e=>?_⟩
   have:=I.own.lt b e.symm
   omega
 · exact hk.cell (cell_of_cells I.obj 13 rfl) (by simp;omega)
theorem SwI.frz(I:SwI w mb ns fl c d j x kind kx nx opx kidsx bodyx ax nkx cx ay nky cy k a cap t c' wr)(hx:mb<x)
 {t2:T} {a2:Option Addr} {n2 cap2:Nat} {c2:MC} {w2 w4:World} {O:Int} {dp:Nat}
 (Y:GotL wr.drew mb ns fl c' O dp t2 a2 n2 cap2 c2 w2) (o:Obj) (K4:Kept (fun b=>some b=(Value.slice a k cap).ownBlock) (w2.alloc o) w4):w4.frozen? ⟨x,13,none⟩=false:=by
 have h1:(w2.alloc o).heap[x]?=some (.cells #[.int .i64 kind,.int .i64 0,.string ⟨#[]⟩,.string ⟨#[]⟩,.int .i64 kx,.int .i64 nx,.string opx,.slice ax nkx cx,.slice ay nky cy,.slice none 0 0,.slice none 0 0,.bool false,.bool false,.slice a k cap] 66 (0,0)):=((keptD (M:=fun b=>b=mb)).trans (Y.kept.trans keptA)).obj I.obj (by omega)
 exact free_of_cells (K4.obj h1 (fun e=>by have:=I.own.lt _ e.symm;omega)) 13
theorem SwI.next(h:MSt w mb ns fl c)(I:SwI w mb ns fl c d j x kind kx nx opx kidsx bodyx ax nkx cx ay nky cy k a cap t c' wr)(hl:0≤c.left)(hwx:w.heap.size<x)(hk2:k≤2)
 {t2:T} {a2:Option Addr} {n2 cap2:Nat} {c2:MC} {w2 w4:World} {o:Obj} {g cap':Nat}
 (Y:GotL wr.drew mb ns fl c' (3+11*(d+j)) (4+5*d+8*j) t2 a2 n2 cap2 c2 w2)
 (O4:OwnL w4 (fun b=>x<b) (x+1) 23 1 (.slice (some ⟨g,0,none⟩) (k+1) cap') (t.g.snoc t2.g))
 (K4:Kept (fun b=>some b=(Value.slice a k cap).ownBlock) (w2.alloc o) w4) :
 SwI w mb ns fl c d j x kind kx nx opx kidsx bodyx ax nkx cx ay nky cy (k+1) (some ⟨g,0,none⟩) cap' (t.snoc t2) c2 (w4.setCell ⟨x,13,none⟩ (.slice (some ⟨g,0,none⟩) (k+1) cap')):=by
 have hmw:=lt_of_heap h.obj
 have hxs:=lt_of_heap I.obj
 have hmb:=lt_of_heap I.st.obj
 have hb:∀ b,some b=(Value.slice a k cap).ownBlock→x<b:=fun b e=>by have:=I.own.lt b e.symm;omega
 have hk1:Kept (fun b=>b=mb) wr w2:=keptD.trans Y.kept
 have hsz:=hk1.size
 have k24:Kept (fun b=>x<b) w2 w4:=keptA.trans (K4.mono fun b _ e=>hb b e)
 have k25:Kept (fun b=>x≤b) w2 (w4.setCell ⟨x,13,none⟩ (.slice (some ⟨g,0,none⟩) (k+1) cap')):=(k24.mono fun b _ h=>Nat.le_of_lt h).trans (Kept.set1 (Nat.le_refl _))
 have kall:Kept (fun b=>b=mb) w (w4.setCell ⟨x,13,none⟩ (.slice (some ⟨g,0,none⟩) (k+1) cap')) :=
  (((I.kept.trans hk1).mono (M':=fun b=>b=mb∨w.heap.size≤b) fun _ _ h=>.inl h).trans (k25.mono fun b _ h=>.inr (by omega))).fresh (Nat.le_refl _)
 have kx:Kept (fun b=>b=mb∨x≤b) wr (w4.setCell ⟨x,13,none⟩ (.slice (some ⟨g,0,none⟩) (k+1) cap')):=(hk1.mono fun _ _ h=>.inl h).trans (k25.mono fun _ _ h=>.inr h)
 have hlen:(t.snoc t2).len=k+1:=by rw[T.len_snoc _ _ I.list,I.len]
 have g1:=Y.went
 have q1:=Y.cost
 have q2:=Y.deep
 exact {
  st:=⟨k25.obj Y.st.obj (by omega),h.nums.kept kall,Y.st.tot,Y.st.lo,Y.st.lab,Y.st.inn,Y.st.flo⟩
  kept:=kall
  res:=k25.obj (hk1.obj I.res (by omega)) (by omega)
  obj:=set_of_cells (k24.obj (hk1.obj I.obj (by omega)) (by omega)) 13 _
  own:=by
   rw[T.g_snoc _ _ I.list]
   exact O4.kept (M:=fun b=>b=x) Kept.set1e (fun b hb=>by have:=O4.lt b hb;omega) (fun b hb=>by omega)
  wfx:=I.wfx
  rk:=I.rk.kept kx (fun b hb=>by omega)
  rb:=I.rb.kept kx (fun b hb=>by omega)
  list:=T.isList_snoc _ _ I.list
  len:=hlen
  wf:=W.snocC Y.wf I.wf
  tot:=by have:=I.tot;have:=g1.tot;omega
  lab0:=Nat.le_trans I.lab0 g1.lab0
  lab1:=by have:=I.lab1;have:=g1.lab1;omega
  inner:=g1.inner.trans I.inner
  le:=by have:=I.le;have:=g1.le;omega
  low:=fun h0=>by
   have:=I.low h0
   by_cases hb:0≤c'.left
   · have:=g1.low hb;omega
   · have:=g1.low' (by omega);omega
  cost:=by rw[T.cost_snoc _ _ I.list];have:=I.cost;omega
  deep:=by rw[T.deep_snoc _ _ I.list];have:=I.deep;omega
  deepx:=I.deepx }
theorem SwI.done{dd:Nat}(hdd:dd=d+1)(h:MSt w mb ns fl c)(hl:0≤c.left)(I:SwI w mb ns fl c d j x kind kx nx opx kidsx bodyx ax nkx cx ay nky cy k a cap t c' wr)(hwx:w.heap.size<x)(hk1:1≤k)(hk2:k≤3)(hkind:kind=6∨kind=7∧fl=false∧kx=0∧nx=0∧opx=sE∧kidsx=.nil∧bodyx=.nil){wf:World}(hk:Kept (fun b=>b=w.heap.size) wr wf) :
 StmtP w mb ns fl c 1 (3+11*(dd+j)) 1 0 (4+5*dd+8*j) (fun _=>True) (.returned (.agg #[.int .i64 kind,.int .i64 0,.string ⟨#[]⟩,.string ⟨#[]⟩,.int .i64 kx,.int .i64 nx,.string opx,.slice ax nkx cx,.slice ay nky cy,.slice none 0 0,.slice none 0 0,.bool false,.bool false,.slice a k cap])) wf:=by
 have hmb:=lt_of_heap h.obj
 have kall:Kept (fun b=>b=mb) w wf:=((I.kept.mono (M':=fun b=>b=mb∨w.heap.size≤b) fun _ _ h=>.inl h).trans (hk.mono fun b _ h=>.inr (by omega))).fresh (Nat.le_refl _)
 have own:=I.own.kept hk (fun b hb=>by have:=I.own.lt b hb;omega) (fun b hb=>by omega)
 have e1:∀ {g:G} {v:Value},Rep wr (fun b=>w.heap.size<b∧b<x) g [v]→Rep wf (fun b=>w.heap.size≤b) g [v]:=fun r=>(r.kept hk (fun b hb=>by omega)).imp fun b _ hb=>by omega
 have hlen:=I.len
 have hW:W fl .S (.s kind 0 sE sE (.x kx nx opx kidsx bodyx) .nil .nil false false t):=by
  rcases hkind with rfl|⟨rfl,hf,rfl,rfl,rfl,rfl,rfl⟩
  · exact .switch _ _ I.wfx I.wf (by omega)
  · exact .select _ hf I.wf (by omega)
 have i1:=I.tot;have i2:=I.le;have i3:=I.lab0;have i4:=I.lab1;have i5:=I.inner;have i6:=I.low hl;have i7:=I.cost;have i8:=I.deep;have i9:=I.deepx
 refine⟨⟨kind,0,_,_,kx,nx,opx,ax,nkx,cx,ay,nky,cy,none,0,0,none,0,0,false,false,a,k,cap⟩,kidsx,bodyx,.nil,.nil,t,c',rfl,trivial,hW,e1 I.rk,e1 I.rb,⟨_,_,rfl⟩,⟨_,_,rfl⟩,(own.rep fun b h0 _=>by omega).imp fun b _ h1=>by omega,⟨hk.obj I.st.obj (by omega),h.nums.kept kall,I.st.tot,I.st.lo,I.st.lab,I.st.inn,I.st.flo⟩,kall,?_,?_,?_⟩
 · exact⟨by omega,by omega,by omega,by omega,by omega,fun _=>by omega,fun _=>by omega⟩
 · simp only[T.cost]at i7 ⊢
   simp only[hlen]
   omega
 · simp only[T.deep]at i8 i9 ⊢
   rcases hkind with rfl|⟨rfl,hf,rfl,rfl,rfl,rfl,rfl⟩
   · simp only[Nat.reduceEqDiff,if_false,if_true]at i9 ⊢
     omega
   · simp only[if_true]
     omega
end
end Go.Proofs.YtleolbpibjnedaaGreat
