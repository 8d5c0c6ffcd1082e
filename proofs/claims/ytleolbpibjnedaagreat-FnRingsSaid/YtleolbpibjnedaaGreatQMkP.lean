/- The laws' maker: statements, lists, expressions at every depth. -/
import Derived.Test.YtleolbpibjnedaaGreatQMkB
import Derived.Test.YtleolbpibjnedaaGreatQMkE
import Derived.Test.YtleolbpibjnedaaGreatQMkG
import Derived.Test.YtleolbpibjnedaaGreatQMkH
import Derived.Test.YtleolbpibjnedaaGreatQMkJ
import Derived.Test.YtleolbpibjnedaaGreatQMkMc
import Derived.Test.YtleolbpibjnedaaGreatQMkMd
import Derived.Test.YtleolbpibjnedaaGreatQMkMe
import Derived.Test.YtleolbpibjnedaaGreatQMkMf
import Derived.Test.YtleolbpibjnedaaGreatQMkN
set_option linter.unusedSimpArgs false
set_option linter.unusedVariables false
set_option maxRecDepth 100000
set_option maxHeartbeats 4000000
namespace Go.Proofs.YtleolbpibjnedaaGreat
open Go Go.RowKit Gc
theorem stmt_rest(dd j:Nat)(hd:dd≤3)(hj2:j≤2)(hE:ContrE 2 j)(hC:ContrCall 2 j)(w:World)(mb:Nat)(ns:Value)(fl:Bool)(c:MC)(inn:Bool)(a:Option Addr)(len cap:Nat)(h:MSt w mb ns fl c)(hj:c.inner+j=2)(hl:0≤c.left)(D:Int)(hD:D=dd)
 (n np:Nat) (hn:n<536870912) (hnp:dd=0∧np=n / 16*16∨dd≠0∧np=n) (hnext:Calls Tryz.prog 42 #[.pointer (some ⟨mb,0,none⟩)] (w.alloc zeroS) (NextN (w.alloc zeroS) mb ns fl c n))
 (hr:np%16≤4∨np%16=11∧len=0∨np%16=12∧inn=false∨np%16=13∧¬ np / 32%3=0) :
 Calls Tryz.prog 29 #[.pointer (some ⟨mb,0,none⟩),.int .i64 D,.bool inn,.slice a len cap] w (StmtP w mb ns fl c 1 (3+11*(dd+j)) 1 0 (4+5*dd+8*j) (fun _=>True)):=by
 by_cases h1:(np:Int) / 16%6<3
 · exact stmt_assign dd j hd hj2 hE w mb ns fl c inn a len cap h hj hl D hD n np hn hnp hnext hr h1
 by_cases h2:(np:Int) / 16%6=3
 · exact stmt_count dd j hd hj2 w mb ns fl c inn a len cap h hj hl D hD n np hn hnp hnext hr h2
 · exact stmt_call dd j hd hj2 hC w mb ns fl c inn a len cap h hj hl D hD n np hn hnp hnext hr (by omega)
theorem stmt_zero(j:Nat)(hj2:j≤2)(hE:ContrE 2 j)(hC:ContrCall 2 j):ContrS 0 j:=by
 intro w mb ns fl c inn ls h hj hl hls D hD
 obtain⟨n,hn,hnext⟩:=next_ex (w.alloc zeroS) mb ns fl c (h.keptBut (Kept.alloc _ _ _) (M:=fun _=>False) (fun _ f=>f.elim)) (by omega)
 obtain⟨a,len,cap,l,rfl,_⟩:=hls
 exact stmt_rest 0 j (by omega) hj2 hE hC w mb ns fl c inn a len cap h hj hl D hD n (n / 16*16) hn (.inl ⟨rfl,rfl⟩) hnext (.inl (by omega))
theorem stmt_succ(d j:Nat)(hd:d≤2)(hj2:j≤2)(hE1:ContrE 1 j)(hE:ContrE 2 j)(hC:ContrCall 2 j)(hL:ContrL d j):ContrS (d+1) j:=by
 intro w mb ns fl c inn ls h hj hl hls D hD
 obtain⟨n,hn,hnext⟩:=next_ex (w.alloc zeroS) mb ns fl c (h.keptBut (Kept.alloc _ _ _) (M:=fun _=>False) (fun _ f=>f.elim)) (by omega)
 have hls':=hls
 obtain⟨a,len,cap,l,rfl,_⟩:=hls'
 have rest:=fun hr=>stmt_rest (d+1) j (by omega) hj2 hE hC w mb ns fl c inn a len cap h hj hl D hD n n hn (.inr ⟨by omega,rfl⟩) hnext hr
 by_cases r0:n%16≤4
 · exact rest (.inl r0)
 by_cases r1:n%16≤7
 · exact stmt_cond d (d+1) j hd rfl hj2 (cond_any d j hd hE hL 3 0 rfl) w mb ns fl c inn _ h hj hl hls D hD n hn hnext (by omega)
 by_cases r2:n%16=8
 · exact stmt_for d (d+1) j hd rfl hj2 hE hL w mb ns fl c inn _ h hj hl hls D hD n hn hnext (by omega)
 by_cases r3:n%16=9
 · exact stmt_range d (d+1) j hd rfl hj2 hE1 hL w mb ns fl c inn _ h hj hl hls D hD n hn hnext (by omega)
 by_cases r4:n%16=10
 · cases fl with
   | true=>cases h.flo
   | false =>
     by_cases hb:(n:Int) / 128%2=0
     · cases inn with
       | true=>exact stmt_switchF1 d (d+1) j hd rfl hj2 hE1 hL w mb ns c _ h hj hl hls D hD n hn hnext (by omega) hb
       | false=>exact stmt_switchF0 d (d+1) j hd rfl hj2 hE1 hL w mb ns c _ h hj hl hls D hD n hn hnext (by omega) hb
     · cases inn with
       | true=>exact stmt_select1 d (d+1) j hd rfl hj2 hE1 hL w mb ns c _ h hj hl hls D hD n hn hnext (by omega) (by omega)
       | false=>exact stmt_select0 d (d+1) j hd rfl hj2 hE1 hL w mb ns c _ h hj hl hls D hD n hn hnext (by omega) (by omega)
 by_cases r5:n%16=11
 · by_cases hlen:len=0
   · exact rest (.inr (.inl ⟨r5,hlen⟩))
   · exact stmt_goto d (d+1) j hd rfl hj2 w mb ns fl c inn _ h hj hl hls D hD n hn hnext (by omega) ⟨a,len,cap,rfl,by omega⟩
 by_cases r6:n%16=12
 · cases inn with
   | true=>exact stmt_break d (d+1) j hd rfl hj2 w mb ns fl c true _ h hj hl hls D hD n hn hnext (by omega) rfl
   | false=>exact rest (.inr (.inr (.inl ⟨r6,rfl⟩)))
 by_cases r7:n%16=13
 · by_cases hb:n / 32%3=0
   · exact stmt_ret d (d+1) j hd rfl hj2 hE w mb ns fl c inn _ h hj hl hls D hD n hn hnext (by omega) (by omega)
   · exact rest (.inr (.inr (.inr ⟨r7,hb⟩)))
 by_cases r8:n%16=14
 · exact stmt_block d (d+1) j hd rfl hj2 hL w mb ns fl c inn _ h hj hl hls D hD n hn hnext (by omega)
 · exact stmt_lab d (d+1) j hd rfl hj2 hE1 hL w mb ns fl c inn a len cap h hj hl hls D hD n hn hnext (by omega)
def AllJ(j:Nat):Prop:=(∀ d,d≤2→ContrE d j)∧ContrCall 2 j∧(∀ d,d≤3→ContrS d j)∧∀ d,d≤3→ContrL d j
theorem all_of(j:Nat)(hj:j≤2)(hL:∀ j',j=j'+1→∀ d,d≤1→ContrL d j'):AllJ j:=by
 have hE:=expr_any j hL
 have hC:ContrCall 2 j:=call_any 1 j (by omega) (hE 1 (by omega))
 have hS:∀ d,d≤3→ContrS d j:=by
  intro d
  induction d with
  | zero=>exact fun _=>stmt_zero j hj (hE 2 (by omega)) hC
  | succ d ih=>exact fun hd=>stmt_succ d j (by omega) hj (hE 1 (by omega)) (hE 2 (by omega)) hC (list_any d j (by omega) (ih (by omega)))
 exact⟨hE,hC,hS,fun d hd=>list_any d j hd (hS d hd)⟩
theorem all_any:∀ j,j≤2→AllJ j
 | 0,h=>all_of 0 h fun j' e=>by omega
 | j+1,h=>all_of (j+1) h fun j' e d hd=>by
   obtain rfl:j'=j:=by omega
   exact(all_any j' (by omega)).2.2.2 d (by omega)
def Nums0(w:World)(ns:Value):Prop :=
 (∃ a cap,ns=.slice a 0 cap)∨∃ g o len cap,ns=.slice (some ⟨g,o,none⟩) len cap∧0<len∧len≤100∧∀ k,k<len→∃ n:Nat,n<4294967296∧w.cell? ⟨g,o+k,none⟩=some (.int .u32 n)
structure GotB (w:World) (fl:Bool) (t:T) (a:Option Addr) (n cap:Nat) (w':World):Prop where
 wf:W fl .Ss t
 rep:Rep w' (fun b=>w.heap.size≤b) t.g [.slice a n cap]
 kept:Kept (fun _=>False) w w'
 cost:t.cost≤1040
 deep:t.deep≤35
def BodyM(most:Nat)(w:World)(fl:Bool)(e:Ending)(w':World):Prop:=∃ t a n cap,e=.returned (.slice a n cap)∧GotB w fl t a n cap w'∧t.cost≤5*most+290
abbrev makerO (ns:Value) (fl:Bool) (most:Int):Obj:=.cells #[ns,.int .i64 0,.int .i64 most,.int .i64 0,.int .i64 0,.bool fl] 80
structure BodyI (w w1:World) (mb:Nat) (ns:Value) (fl:Bool) (most:Nat) (k:Nat) (a:Option Addr) (cap:Nat) (t:T) (c':MC) (wr:World):Prop where
 st:MSt wr mb ns fl c'
 kept:Kept (fun b=>b=mb) w1 wr
 own:OwnL wr (fun b=>w1.heap.size≤b) w1.heap.size 66 14 (.slice a k cap) t.g
 list:t.isList
 len:t.len=k
 wf:W fl .Ss t
 tot:(c'.m:Int)+c'.left=most
 le:c'.left≤most
 low:-58≤c'.left
 inner:c'.inner=0
 cost:(t.cost:Int)≤5*(most-c'.left)
 deep:t.deep≤35
section
variable {w w1:World} {mb:Nat} {ns:Value} {fl:Bool} {most k:Nat} {a:Option Addr} {cap:Nat} {t:T} {c':MC} {wr:World}
theorem BodyI.glen(I:BodyI w w1 mb ns fl most k a cap t c' wr):t.g.len=k:=by rw[T.g_len,I.len]
theorem BodyI.app(I:BodyI w w1 mb ns fl most k a cap t c' wr)(hmb:mb<w1.heap.size){s:SV}{kids xb body els cases:T}{c2:MC}{w2:World}{k' O X more:Int}{dp:Nat}
 (Y:GotS wr mb ns fl c' k' O X more dp s kids xb body els cases c2 w2) (o:Obj) :
 OwnL (w2.alloc o) (fun b=>w1.heap.size≤b) w1.heap.size 66 14 (.slice a k cap) t.g ∧
 Rep (w2.alloc o) (fun b=>w1.heap.size≤b∧some b≠(Value.slice a k cap).ownBlock) (T.s s.kind s.n s.op s.lab (.x s.xk s.xn s.xop kids xb) body els s.has s.chain cases).g
  [.int .i64 s.kind,.int .i64 s.n,.string s.op,.string s.lab,.int .i64 s.xk,.int .i64 s.xn,.string s.xop,.slice s.a1 s.n1 s.c1,.slice s.a2 s.n2 s.c2,.slice s.a3 s.n3 s.c3,.slice s.a4 s.n4 s.c4,.bool s.has,.bool s.chain,.slice s.a5 s.n5 s.c5] ∧
 w1.heap.size≤w2.heap.size:=by
 have hk:Kept (fun b=>b=mb) wr (w2.alloc o):=Y.kept.trans keptA
 have s1:=I.kept.size
 have s2:=Y.kept.size
 refine⟨I.own.kept hk (fun b hb=>by have:=I.own.lt b hb;omega) (fun b hb=>by omega),Y.rep (M:=fun _=>False) keptA (fun _ _ f=>f) (fun b hb=>⟨by omega,fun e=>?_⟩),by omega⟩
 have:=I.own.lt b e.symm
 omega
theorem BodyI.next(h:MSt w1 mb ns fl ⟨0,most,0,0⟩)(I:BodyI w w1 mb ns fl most k a cap t c' wr)(h0:0≤c'.left){s:SV}{kids xb body els cases:T}{c2:MC}{w2 w4:World}{o:Obj}{g cap':Nat}
 (Y:GotS wr mb ns fl c' 1 (3+11*((3:Nat)+(2:Nat))) 1 0 (4+5*3+8*2) s kids xb body els cases c2 w2)
 (O4:OwnL w4 (fun b=>w1.heap.size≤b) w1.heap.size 66 14 (.slice (some ⟨g,0,none⟩) (k+1) cap') (t.g.snoc (T.s s.kind s.n s.op s.lab (.x s.xk s.xn s.xop kids xb) body els s.has s.chain cases).g))
 (K4:Kept (fun b=>some b=(Value.slice a k cap).ownBlock) (w2.alloc o) w4) :
 BodyI w w1 mb ns fl most (k+1) (some ⟨g,0,none⟩) cap' (t.snoc (T.s s.kind s.n s.op s.lab (.x s.xk s.xn s.xop kids xb) body els s.has s.chain cases)) c2 w4:=by
 have hmb:=lt_of_heap h.obj
 have s1:=I.kept.size
 have s2:=Y.kept.size
 have hb:∀ b,some b=(Value.slice a k cap).ownBlock→w1.heap.size≤b:=fun b e=>(I.own.lt b e.symm).1
 have k24:Kept (fun b=>w1.heap.size≤b) w2 w4:=keptA.trans (K4.mono fun b _ e=>hb b e)
 have kall:Kept (fun b=>b=mb) w1 w4:=keptFresh (I.kept.trans Y.kept) k24
 have q1:=Y.cost
 have q2:=Y.deep
 have g1:=Y.went
 exact {
  st:=⟨k24.obj Y.st.obj (by omega),h.nums.kept kall,Y.st.tot,Y.st.lo,Y.st.lab,Y.st.inn,Y.st.flo⟩
  kept:=kall
  own:=by
   rw[T.g_snoc _ _ I.list]
   exact O4
  list:=T.isList_snoc _ _ I.list
  len:=by rw[T.len_snoc _ _ I.list,I.len]
  wf:=W.snocS Y.wf I.wf
  tot:=by have:=I.tot;have:=g1.tot;omega
  le:=by have:=I.le;have:=g1.le;omega
  low:=by have:=g1.low h0;omega
  inner:=g1.inner.trans I.inner
  cost:=by rw[T.cost_snoc _ _ I.list];have:=I.cost;omega
  deep:=by rw[T.deep_snoc _ _ I.list];have:=I.deep;omega }
theorem BodyI.done(I:BodyI w w1 mb ns fl most k a cap t c' wr)(hm:most≤150)(hw:Kept (fun _=>False) w w1)(hmb:w.heap.size≤mb):BodyM most w fl (.returned (.slice a k cap)) wr :=
 have hs:=hw.size
 ⟨t,a,k,cap,rfl,⟨I.wf,(I.own.rep (D:=fun b=>w1.heap.size≤b) fun b h0 _=>h0).imp (fun b _ hb=>by omega),((hw.mono (M':=fun b=>False∨w.heap.size≤b) fun _ _ f=>f.elim).trans (I.kept.mono fun b _ e=>.inr (by omega))).fresh (Nat.le_refl _),
  by have:=I.cost;have:=I.low;omega,I.deep⟩,by have:=I.cost;have:=I.low;omega⟩
end
theorem bodyUpTo_any(w:World)(ns:Value)(fl:Bool)(most:Nat)(hm:most≤150)(hfl:FlOk fl)(hN:Nums0 w ns)(MO:Int)(hMO:MO=most):Calls Tryz.prog 15 #[ns,.bool fl,.int .i64 MO] w (BodyM most w fl):=by
 have hS:=Lib.hid ((all_any 2 (by omega)).2.2.1 3 (by omega))
 obtain⟨a0,len0,cap0,rfl,hl0⟩:∃ a len cap,ns=.slice a len cap∧len≤100:=by
  rcases hN with ⟨a,cap,rfl⟩|⟨g,o,len,cap,rfl,h0,h1,_⟩
  · exact⟨a,0,cap,rfl,by omega⟩
  · exact⟨_,len,cap,rfl,h1⟩
 have hst:MSt (w.alloc (makerO (.slice a0 len0 cap0) fl MO)) w.heap.size (.slice a0 len0 cap0) fl ⟨0,most,0,0⟩:=by
  refine⟨by subst hMO;exact heap_alloc_new w _,?_,by simp only[];omega,by simp only[];omega,Nat.le_refl _,by simp only[];omega,hfl⟩
  rcases hN with ⟨a,cap,e⟩|⟨g,o,len,cap,e,h0,h1,hc⟩
  · exact .inl ⟨a,cap,e⟩
  · refine .inr ⟨g,o,len,cap,e,?_,h0,h1,fun k hk=>let ⟨n,hn,h⟩:=hc k hk;⟨n,hn,keptA.cell (M:=fun _=>False) h (fun f=>f)⟩⟩
    obtain⟨n,hn,h⟩:=hc 0 h0
    have:=World.block_lt_of_cell? w _ h
    simp only[]at this
    omega
 obtain⟨i0,hi,hz0,hz1,hz2⟩:=info_parts info_S
 have hb0:0≤MO:=by omega
 have hb1:MO≤150:=by omega
 have hM:=Lib.hid hMO
 have hs0:BodyI w (w.alloc (makerO (.slice a0 len0 cap0) fl MO)) w.heap.size (.slice a0 len0 cap0) fl most 0 (some ⟨(w.alloc (makerO (.slice a0 len0 cap0) fl MO)).heap.size,0,none⟩) 0 .nil ⟨0,most,0,0⟩ ((w.alloc (makerO (.slice a0 len0 cap0) fl MO)).alloc (.cells #[] 66)) :=
  { st:=hst.keptBut (M:=fun _=>False) keptA (fun _ f=>f.elim),kept:=keptA
    own:=⟨[],World.ownsRow_made _ #[] 0 (Nat.le_refl _) (Nat.zero_le _) rfl,rfl⟩
    list:=trivial,len:=rfl,wf:=.snil,tot:=by simp,le:=by simp,low:=by simp only[];omega,inner:=rfl,cost:=by simp[T.cost],deep:=by simp[T.deep] }
 clear hN hMO
 have hw1:Kept (fun _=>False) w (w.alloc (makerO (.slice a0 len0 cap0) fl MO)):=keptA
 go_enter Tryz.func15,Tryz.ntmps15
 go_wp2_with fail
 generalize hW:w.alloc (makerO (.slice a0 len0 cap0) fl MO)=W1 at *
 have hz:W1.heap.size=w.heap.size+1:=by rw[← hW];simp
 have hs1:=hs0
 rw[hz]at hs1
 have hmb:w.heap.size<W1.heap.size:=by omega
 have Hz:=Lib.hid hz
 have hst':=Lib.hid hst
 clear hW hz hs0 hst
 go_loopw [8,19] (fun v i wr=>∃ (k:Nat) (a:Option Addr) (cap:Nat) (t:T) (c':MC),(k:Int)≤1+len0%7∧v=.slice a k cap∧i=.int .i64 k∧BodyI w W1 w.heap.size (.slice a0 len0 cap0) fl most k a cap t c' wr) (fun _ i _=>(1+len0%7-intOf i).toNat)
 case atStart=>exact⟨0,_,0,.nil,_,by omega,rfl,rfl,hs1⟩
 case round =>
  clear hs1
  obtain⟨k,a,cap,t,c',hk',rfl,rfl,I⟩:=hrel
  have hx:=cell_of_cells I.st.obj 2 rfl
  have hsx:=lt_of_heap I.st.obj
  by_cases hlt:(k:Int)<1+len0%7
  · by_cases h0:c'.left<0
    · go_wp2_with fail
      go_ret
      exact I.done hm hw1 (Nat.le_refl _)
    · go_wp2_with fail
      refine(hS.out wr w.heap.size (.slice a0 len0 cap0) fl c' false (.slice none 0 0) I.st (by have:=I.inner;omega) (by omega) (Labs.nil _ _ _) 3 rfl).mono ?_
      rintro e w2 ⟨s,kids,xb,body,els,cases,c2,rfl,_,Y⟩
      go_wp2_with (at_builtin;go_must (refine wpList_append_one (D:=fun b=>W1.heap.size≤b) (base:=W1.heap.size) (v:=.slice a k cap) rfl (.tmp 26) (.tmp 29) 23 rfl i0 _ 208 ul_sS hi hz0 hz1 hz2 rfl rfl (I.app hmb Y _).1 k I.glen ⟨w2.heap.size,0,none⟩ 1 rfl _ _ rfl (new_cells _ _ _) one14 (I.app hmb Y _).2.1 (by omega) (by omega) (by have:=(I.app hmb Y (Obj.cells #[] 66)).2.2;simp;omega) ?_);intro g cap' w4 O4 K4 hb4 hg4)
      have I':=I.next hst'.out (by omega) Y O4 K4
      go_roundw
      · exact⟨k+1,_,_,_,_,by omega,rfl,by go_num,I'⟩
      · simp[intOf];omega
  · go_wp2_with fail
    go_ret
    exact I.done hm hw1 (Nat.le_refl _)
end Go.Proofs.YtleolbpibjnedaaGreat
