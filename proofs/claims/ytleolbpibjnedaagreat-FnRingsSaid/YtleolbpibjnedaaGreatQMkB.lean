/- The laws' maker: an expression of two with an operator between. -/
import Derived.Test.YtleolbpibjnedaaGreatQMkA
import Derived.Deep.RegionWith
import Derived.Deep.DeepMust
import Derived.Deep.DeepCutAuto
set_option linter.unusedSimpArgs false
set_option linter.unusedVariables false
set_option maxRecDepth 100000
set_option maxHeartbeats 4000000
namespace Go.Proofs.YtleolbpibjnedaaGreat
open Go Go.RowKit Gc
theorem expr_bin_end{w w1 W1 w2 W2 w3 wf:World}{mb:Nat}{ns:Value}{fl:Bool}{c c2 c3:MC}{d j:Nat}{op0:Str}{T0 r:Nat}
 {k1 n1 k2 n2:Nat} {op1 op2:Str} {kids1 body1 kids2 body2:T} {ak1 ab1 ak2 ab2:Option Addr} {nk1 ck1 nb1 cb1 nk2 ck2 nb2 cb2:Nat}
 (h:MSt w mb ns fl c) (hl:0≤c.left-1) (hk1:Kept (fun b=>b=mb) w w1) (z1:w.heap.size<w1.heap.size)
 (hA:Kept (fun b=>b=w.heap.size) w1 W1) (Y1:GotE W1 mb ns fl { c with m:=c.m+1,left:=c.left-1 } 1 (1+d+11*j) 1 0 (1+d+8*j) k1 n1 op1 kids1 body1 ak1 nk1 ck1 ab1 nb1 cb1 c2 w2)
 (hB:Kept (fun b=>b=w.heap.size) w2 W2) (Y2:GotE W2 mb ns fl c2 1 (1+d+11*j) 1 0 (1+d+8*j) k2 n2 op2 kids2 body2 ak2 nk2 ck2 ab2 nb2 cb2 c3 w3) (hC:Kept (fun b=>b=w.heap.size) w3 wf)
 (hrow:wf.heap[r]?=some (.cells #[.int .i64 k1,.int .i64 n1,.string op1,.slice ak1 nk1 ck1,.slice ab1 nb1 cb1,.int .i64 k2,.int .i64 n2,.string op2,.slice ak2 nk2 ck2,.slice ab2 nb2 cb2] T0 (0,0))) (hr:w.heap.size≤r)
 (hop:isOp2 op0) (hj:c.inner+j=2) (hd:d≤1):ExprP w mb ns fl c 1 (1+(d+1:Nat)+11*j) 1 0 (1+(d+1)+8*j) (fun _=>True) (.returned (.agg #[.int .i64 2,.int .i64 0,.string op0,.slice (some ⟨r,0,none⟩) 2 2,.slice none 0 0])) wf:=by
 have hmb:=lt_of_heap h.obj
 have a1:=hA.size
 have a2:=Y1.kept.size
 have a3:=hB.size
 have a4:=Y2.kept.size
 have g1:=Y1.went
 have g2:=Y2.went
 have x1:=Y1.xd
 have x2:=Y2.xd
 have i1:=g1.inner
 simp only[]at x1 i1
 have m3:Kept (fun b=>b=mb∨b=w.heap.size) w3 wf:=hC.mono fun _ _ h=>.inr h
 have m2:Kept (fun b=>b=mb∨b=w.heap.size) w2 wf:=((hB.mono fun _ _ h=>.inr h).trans (Y2.kept.mono fun _ _ h=>.inl h)).trans m3
 have m1:Kept (fun b=>b=mb∨b=w.heap.size) w1 wf:=((hA.mono fun _ _ h=>.inr h).trans (Y1.kept.mono fun _ _ h=>.inl h)).trans m2
 have m0:Kept (fun b=>b=mb) w wf:=((hk1.mono (M':=fun b=>b=mb∨w.heap.size≤b) fun _ _ h=>.inl h).trans (m1.mono fun b _ h=>h.imp id (fun e=>by omega))).fresh (Nat.le_refl _)
 have hD1:∀ b,W1.heap.size≤b→¬ (b=mb∨b=w.heap.size):=fun b hb=>by omega
 have hD2:∀ b,W2.heap.size≤b→¬ (b=mb∨b=w.heap.size):=fun b hb=>by omega
 have gg:=((g1.trans (O'':=1+(d+1:Nat)+11*j) (X'':=2) g2 (by omega) (by omega) (by omega) (by omega)).afterNext (O':=1+(d+1:Nat)+11*j) (X':=1) hl (by omega))
 refine⟨2,0,op0,.cons (.x k1 n1 op1 kids1 body1) (.cons (.x k2 n2 op2 kids2 body2) .nil),.nil,_,_,_,_,_,_,c3,rfl,trivial,.bin op0 _ _ hop Y1.wf Y2.wf (by omega) (by omega),?_,⟨_,_,rfl⟩,?_,m0,gg.weaken (by omega) (by omega) (by omega),?_,?_,by simp only[T.xd]at x1 x2 ⊢;omega⟩
 · exact rep_two (xs:=[_,_,_,_,_]) (ys:=[_,_,_,_,_]) hrow hr (Y1.rep m2 hD1 (fun b hb=>by omega)) (Y2.rep m3 hD2 (fun b hb=>by omega))
 · exact⟨hC.obj Y2.st.obj (by omega),h.nums.kept m0,Y2.st.tot,Y2.st.lo,Y2.st.lab,Y2.st.inn,Y2.st.flo⟩
 · have q1:=Y1.cost;have q2:=Y2.cost
   simp only[T.cost]at q1 q2 ⊢
   simp only[Nat.reduceEqDiff,if_false]
   omega
 · have q1:=Y1.deep;have q2:=Y2.deep
   simp only[T.deep]at q1 q2 ⊢
   simp only[Nat.reduceEqDiff,if_false]
   omega
theorem pick4(i:Int)(h0:0≤i)(h1:i<4):∃ op0,(∀ W:World,(W.alloc (Obj.cells #[Value.string { data:=#[38,38] },Value.string { data:=#[124,124] },Value.string { data:=#[43] },Value.string { data:=#[60] }] 9)).cell? { block:=W.heap.size,off:=i.toNat }=some (.string op0))∧(∀ (hh:i.toNat<([Value.string { data:=#[38,38] },Value.string { data:=#[124,124] },Value.string { data:=#[43] },Value.string { data:=#[60] }]:List Value).length),([Value.string { data:=#[38,38] },Value.string { data:=#[124,124] },Value.string { data:=#[43] },Value.string { data:=#[60] }]:List Value)[i.toNat]'hh=.string op0)∧isOp2 op0:=by
 have:i=0∨i=1∨i=2∨i=3:=by omega
 rcases this with rfl|rfl|rfl|rfl
 · exact⟨sAnd,fun W=>cell_of_cells (heap_alloc_new W _) 0 rfl,fun _=>rfl,.inl rfl⟩
 · exact⟨sOr,fun W=>cell_of_cells (heap_alloc_new W _) 1 rfl,fun _=>rfl,.inr (.inl rfl)⟩
 · exact⟨sPlus,fun W=>cell_of_cells (heap_alloc_new W _) 2 rfl,fun _=>rfl,.inr (.inr (.inl rfl))⟩
 · exact⟨sLess,fun W=>cell_of_cells (heap_alloc_new W _) 3 rfl,fun _=>rfl,.inr (.inr (.inr rfl))⟩
theorem expr_bin(d j:Nat)(hd2:d≤1)(hE:ContrE d j)(w:World)(mb:Nat)(ns:Value)(fl:Bool)(c:MC)(h:MSt w mb ns fl c)(hj:c.inner+j=2)(D:Int)(hD:D=(d+1:Nat))(hl:0≤c.left-1)
 (n:Nat) (hn:n<536870912) (hnext:Calls Tryz.prog 42 #[.pointer (some ⟨mb,0,none⟩)] (w.alloc (zeroX)) (NextN (w.alloc zeroX) mb ns fl c n)) (hr:n%12=0∨n%12=1∨n%12=2) :
 Calls Tryz.prog 44 #[.pointer (some ⟨mb,0,none⟩),.int .i64 D] w (ExprP w mb ns fl c 1 (1+(d+1:Nat)+11*j) 1 0 (1+(d+1)+8*j) (fun _=>True)):=by
 have hD0:1≤D:=by omega
 have hD1:D≤2:=by omega
 have hmb:=lt_of_heap h.obj
 have hE':=Lib.hid hE
 have hn':=Lib.hid hnext
 have hr':=Lib.hid hr
 have hd:(D == 0)=false:=by simp;omega
 have hw:IntKind.i64.wrap (D-1)=D-1:=by rw[IntKind.wrap_i64];omega
 have hDd:=Lib.hid hD
 clear hE hnext hD hr
 go_enter Tryz.func44,Tryz.ntmps44
 go_wp2_with fail
 refine hn'.out.mono ?_
 rintro e w1 ⟨rfl,hst,hk⟩
 obtain⟨rc,rf⟩:=keptRules hk hmb
 have z1:w.heap.size<w1.heap.size:=by have:=hk.size;simp[zeroX]at this;omega
 have z1b:w.heap.size≤w1.heap.size:=by omega
 have cl:=cell_of_cells hst.obj 2 rfl
 have hk1:=keptA.trans hk
 have o1:w1.heap[w.heap.size]?=some zeroX:=hk.new (by omega)
 clear hk hn'
 go_upto_if 24 with fail
 go_cut [24] (fun s24 wx=>s24=.bool true∧w1=wx)
 case first =>
  rcases hr'.out with hr|hr|hr
  · have hr1:(n:Int)%12=0:=by omega
    go_wp2_with fail
    go_meet
    exact⟨by simp[hr1],rfl⟩
  · have hr1:(n:Int)%12=1:=by omega
    go_wp2_with fail
    go_meet
    exact⟨rfl,rfl⟩
  · have hr1:(n:Int)%12=2:=by omega
    go_wp2_with fail
    go_meet
    exact⟨rfl,rfl⟩
 case rest =>
 obtain⟨rfl,rfl⟩:=hcut
 go_wp2_with fail
 have t0:0≤((n:Int) / 32).tmod 4:=by rw[Int.tmod_eq_emod_of_nonneg (by omega)];omega
 have t1:((n:Int) / 32).tmod 4<4:=by rw[Int.tmod_eq_emod_of_nonneg (by omega)];omega
 obtain⟨op0,hop,hopl,hop2⟩:=pick4 _ t0 t1
 have tok1:True:=trivial
 go_region_with (first
  | (go_at_call 44;have _t:=tok1;refine(hE'.out _ mb ns fl _ (hst.keptBut (M:=fun b=>w1.heap.size≤b) ?k1 (fun _ h=>h)) ?k2 ?k3 _ (by have:=hDd.out;omega)).mono ?_;(case k1=>first | exact keptD | exact keptAD);(case k2=>exact hj);(case k3=>(simp only[];omega));rintro e w2 ⟨k1,n1,op1,kids1,body1,ak1,nk1,ck1,ab1,nb1,cb1,c2,rfl,_,Y1⟩;obtain⟨rc2,rf2⟩:=keptRules Y1.kept (B:=w.heap.size) hmb;have kA:Kept (fun b=>b=mb) w1 w2:=Kept.trans (by first | exact keptD | exact keptAD) Y1.kept;obtain⟨rcA,rfA⟩:=keptRules kA (B:=w.heap.size) hmb;have z2:=Y1.kept.size;(try simp at z2);(try (have z2c:w1.heap.size<w2.heap.size:=(by omega)));have z2a:w.heap.size<w2.heap.size:=(by omega);have z2b:w.heap.size≤w2.heap.size:=(by omega);have z2d:w1.heap.size≤w2.heap.size:=(by omega);clear z2;clear tok1)
  | (go_at_call 44;go_must (refine(hE'.out _ mb ns fl _ (Y1.st.keptBut (M:=fun b=>w2.heap.size≤b) ?k1 (fun _ h=>h)) ?k2 ?k3 _ (by have:=hDd.out;omega)).mono ?_);go_must (case k1=>first | exact Kept.refl _ _ | exact keptD | exact keptA | exact keptAD);go_must (case k2=>(have:=Y1.went.inner;simp only[]at this;omega));go_must (case k3=>(have:=Y1.went.low hl;omega));go_must (rintro e w3 ⟨k2,n2,op2,kids2,body2,ak2,nk2,ck2,ab2,nb2,cb2,c3,rfl,_,Y2⟩);go_must (obtain⟨rc3,rf3⟩:=keptRules Y2.kept (B:=w.heap.size) hmb);have kB:Kept (fun b=>b=mb) w2 w3:=Kept.trans (by first | exact Kept.refl _ _ | exact keptD | exact keptA | exact keptAD) Y2.kept;go_must (obtain⟨rcB,rfB⟩:=keptRules kB (B:=w.heap.size) hmb);have z3:=Y2.kept.size;(try simp at z3);have z3a:w.heap.size<w3.heap.size:=(by omega);have z3d:w.heap.size≤w3.heap.size:=(by omega);have z3e:w1.heap.size≤w3.heap.size:=(by omega);have z3f:w2.heap.size≤w3.heap.size:=(by omega);(try (have z3b:w1.heap.size<w3.heap.size:=(by omega)));(try (have z3c:w2.heap.size<w3.heap.size:=(by omega)));clear z3))
 all_goals go_wp2_with fail
 all_goals
  (obtain⟨c0,c1,c2',c3',c4,_,_,_,_,_⟩:=slot5 (kB.obj (kA.obj o1 (by omega)) (by omega))
   first
   | (refine bodyPost_ret (v:=.agg #[.int .i64 2,.int .i64 0,.string op0,.slice (some ⟨w3.heap.size,0,none⟩) 2 2,.slice none 0 0]) ?_ rfl ?_
      focus (simp[results,Tryz.results44,go_sem,c0,c1,c2',c3',c4,z3a];done)
      refine expr_bin_end (T0:=64) h hl hk1 z1 ?_ Y1 ?_ Y2 ?_ ?_ (by omega) hop2 hj hd2
      focus (with_reducible (first | exact keptD | exact keptAD))
      focus (with_reducible (first | exact Kept.refl _ _ | exact keptD | exact keptA | exact keptAD))
      focus (with_reducible (first | exact kept_a | exact kept_b))
      focus (with_reducible (first | exact wf_a | exact wf_c)))
   | (refine bodyPost_ret (v:=.agg #[.int .i64 2,.int .i64 0,.string op0,.slice (some ⟨w3.heap.size+1,0,none⟩) 2 2,.slice none 0 0]) ?_ rfl ?_
      focus (simp[results,Tryz.results44,go_sem,c0,c1,c2',c3',c4,z3a];done)
      refine expr_bin_end (T0:=64) h hl hk1 z1 ?_ Y1 ?_ Y2 ?_ ?_ (by omega) hop2 hj hd2
      focus (with_reducible (first | exact keptD | exact keptAD))
      focus (with_reducible (first | exact Kept.refl _ _ | exact keptD | exact keptA | exact keptAD))
      focus (with_reducible (exact kept_b))
      focus (with_reducible (exact wf_b))))
theorem expr_low(d j:Nat)(hd2:d≤1)(w:World)(mb:Nat)(ns:Value)(fl:Bool)(c:MC)(h:MSt w mb ns fl c)(hj:c.inner+j=2)(D:Int)(hD:D=(d+1:Nat))(hl:c.left-1<0)
 (n:Nat) (hn:n<536870912) (hnext:Calls Tryz.prog 42 #[.pointer (some ⟨mb,0,none⟩)] (w.alloc (zeroX)) (NextN (w.alloc zeroX) mb ns fl c n)) :
 Calls Tryz.prog 44 #[.pointer (some ⟨mb,0,none⟩),.int .i64 D] w (ExprP w mb ns fl c 1 (1+(d+1:Nat)+11*j) 1 0 (1+(d+1)+8*j) (fun _=>True)):=by
 have hmb:=lt_of_heap h.obj
 have hn':=Lib.hid hnext
 have hd:(D == 0)=false:=by simp;omega
 clear hnext hD
 go_enter Tryz.func44,Tryz.ntmps44
 go_wp2_with fail
 refine hn'.out.mono ?_
 rintro e w1 ⟨rfl,hst,hk⟩
 have cl:=cell_of_cells hst.obj 2 rfl
 obtain⟨c0,c1,c2',c3,c4,f0,f1,f2,f3,f4⟩:=slot5 (hk.new (by omega))
 have hk1:=keptA.trans hk
 clear hk hn'
 go_wp2_with fail
 refine bodyPost_ret (v:=.agg #[.int .i64 1,.int .i64 (↑n%4),.string ⟨#[]⟩,.slice none 0 0,.slice none 0 0]) (by simp[results,Tryz.results44,go_sem,c0,c1,c2',c3,c4];done) rfl ?_
 exact expr_leaf (kind:=1) (n:=n%4) (by omega) (by omega) (by omega) h hst hk1 (Kept.setF5 (Nat.le_refl _)) (.inr ⟨rfl,by omega⟩) rfl
theorem expr_plain(d j:Nat)(hd2:d≤1)(w:World)(mb:Nat)(ns:Value)(fl:Bool)(c:MC)(h:MSt w mb ns fl c)(hj:c.inner+j=2)(D:Int)(hD:D=(d+1:Nat))(hl:0≤c.left-1)
 (n:Nat) (hn:n<536870912) (hnext:Calls Tryz.prog 42 #[.pointer (some ⟨mb,0,none⟩)] (w.alloc (zeroX)) (NextN (w.alloc zeroX) mb ns fl c n))
 (hr:n%12=8∨n%12=9∨n%12=10∨n%12=11∨n%12=7∧(fl=true∨j=0)) :
 Calls Tryz.prog 44 #[.pointer (some ⟨mb,0,none⟩),.int .i64 D] w (ExprP w mb ns fl c 1 (1+(d+1:Nat)+11*j) 1 0 (1+(d+1)+8*j) (fun _=>True)):=by
 have hmb:=lt_of_heap h.obj
 have hn':=Lib.hid hnext
 have hd:(D == 0)=false:=by simp;omega
 clear hnext hD
 rcases hr with hr|hr|hr|hr|⟨hr,rfl|rfl⟩
 all_goals
  have hr1:=Lib.hid hr
  clear hr
  go_enter Tryz.func44,Tryz.ntmps44
  go_wp2_with fail
  refine hn'.out.mono ?_
  rintro e w1 ⟨rfl,hst,hk⟩
  have cl:=cell_of_cells hst.obj 2 rfl
  have ci:=cell_of_cells hst.obj 4 rfl
  have cf:=cell_of_cells hst.obj 5 rfl
  obtain⟨c0,c1,c2',c3,c4,f0,f1,f2,f3,f4⟩:=slot5 (hk.new (by omega))
  have hk1:=keptA.trans hk
  clear hk hn'
  have hr2:=congrArg (fun n:Nat=>(n:Int)) hr1.out
  simp only[Int.natCast_emod]at hr2
 · go_wp2_with fail
   refine bodyPost_ret (v:=.agg #[.int .i64 0,.int .i64 0,.string ⟨#[]⟩,.slice none 0 0,.slice none 0 0]) (by simp[results,Tryz.results44,go_sem,c0,c1,c2',c3,c4];done) rfl ?_
   exact expr_leaf (kind:=0) (n:=0) (by omega) (by omega) (by omega) h hst hk1 (Kept.setF5 (Nat.le_refl _)) (.inl ⟨rfl,rfl⟩) rfl
 · go_wp2_with fail
   refine bodyPost_ret (v:=.agg #[.int .i64 1,.int .i64 (↑n%4),.string ⟨#[]⟩,.slice none 0 0,.slice none 0 0]) (by simp[results,Tryz.results44,go_sem,c0,c1,c2',c3,c4];done) rfl ?_
   exact expr_leaf (kind:=1) (n:=n%4) (by omega) (by omega) (by omega) h hst hk1 (Kept.setF5 (Nat.le_refl _)) (.inr ⟨rfl,by omega⟩) rfl
 · go_wp2_with fail
   refine bodyPost_ret (v:=.agg #[.int .i64 1,.int .i64 (↑n%4),.string ⟨#[]⟩,.slice none 0 0,.slice none 0 0]) (by simp[results,Tryz.results44,go_sem,c0,c1,c2',c3,c4];done) rfl ?_
   exact expr_leaf (kind:=1) (n:=n%4) (by omega) (by omega) (by omega) h hst hk1 (Kept.setF5 (Nat.le_refl _)) (.inr ⟨rfl,by omega⟩) rfl
 · go_wp2_with fail
   refine bodyPost_ret (v:=.agg #[.int .i64 1,.int .i64 (↑n%4),.string ⟨#[]⟩,.slice none 0 0,.slice none 0 0]) (by simp[results,Tryz.results44,go_sem,c0,c1,c2',c3,c4];done) rfl ?_
   exact expr_leaf (kind:=1) (n:=n%4) (by omega) (by omega) (by omega) h hst hk1 (Kept.setF5 (Nat.le_refl _)) (.inr ⟨rfl,by omega⟩) rfl
 · go_wp2_with fail
   refine bodyPost_ret (v:=.agg #[.int .i64 1,.int .i64 (↑n%4),.string ⟨#[]⟩,.slice none 0 0,.slice none 0 0]) (by simp[results,Tryz.results44,go_sem,c0,c1,c2',c3,c4];done) rfl ?_
   exact expr_leaf (kind:=1) (n:=n%4) (by omega) (by omega) (by omega) h hst hk1 (Kept.setF5 (Nat.le_refl _)) (.inr ⟨rfl,by omega⟩) rfl
 · have hin:¬ ((c.inner:Int)<2):=by omega
   cases fl
   · go_wp2_with fail
     refine bodyPost_ret (v:=.agg #[.int .i64 1,.int .i64 (↑n%4),.string ⟨#[]⟩,.slice none 0 0,.slice none 0 0]) (by simp[results,Tryz.results44,go_sem,c0,c1,c2',c3,c4];done) rfl ?_
     exact expr_leaf (kind:=1) (n:=n%4) (by omega) (by omega) (by omega) h hst hk1 (Kept.setF5 (Nat.le_refl _)) (.inr ⟨rfl,by omega⟩) rfl
   · go_wp2_with fail
     refine bodyPost_ret (v:=.agg #[.int .i64 1,.int .i64 (↑n%4),.string ⟨#[]⟩,.slice none 0 0,.slice none 0 0]) (by simp[results,Tryz.results44,go_sem,c0,c1,c2',c3,c4];done) rfl ?_
     exact expr_leaf (kind:=1) (n:=n%4) (by omega) (by omega) (by omega) h hst hk1 (Kept.setF5 (Nat.le_refl _)) (.inr ⟨rfl,by omega⟩) rfl
theorem expr_call_end{w w1 w2 wf:World}{mb:Nat}{ns:Value}{fl:Bool}{c c2:MC}{d j:Nat}
 {k1 n1:Nat} {op1:Str} {kids1 body1:T} {ak1 ab1:Option Addr} {nk1 ck1 nb1 cb1:Nat}
 (h:MSt w mb ns fl c) (hl:0≤c.left-1) (hk1:Kept (fun b=>b=mb) w w1) (z1:w.heap.size<w1.heap.size)
 (Y1:GotE w1 mb ns fl { c with m:=c.m+1,left:=c.left-1 } 0 (1+(d+1:Nat)+11*j) 2 2 (1+(d+1)+8*j) k1 n1 op1 kids1 body1 ak1 nk1 ck1 ab1 nb1 cb1 c2 w2)
 (hC:Kept (fun b=>b=w.heap.size) w2 wf):ExprP w mb ns fl c 1 (1+(d+1:Nat)+11*j) 1 0 (1+(d+1)+8*j) (fun _=>True) (.returned (.agg #[.int .i64 k1,.int .i64 n1,.string op1,.slice ak1 nk1 ck1,.slice ab1 nb1 cb1])) wf:=by
 have hmb:=lt_of_heap h.obj
 have a2:=Y1.kept.size
 have m1:Kept (fun b=>b=mb∨b=w.heap.size) w2 wf:=hC.mono fun _ _ h=>.inr h
 have m0:Kept (fun b=>b=mb) w wf:=(((hk1.trans Y1.kept).mono (M':=fun b=>b=mb∨w.heap.size≤b) fun _ _ h=>.inl h).trans (m1.mono fun b _ h=>h.imp id (fun e=>by omega))).fresh (Nat.le_refl _)
 have hD1:∀ b,w1.heap.size≤b→¬ (b=mb∨b=w.heap.size):=fun b hb=>by omega
 have gg:=Y1.went.afterNext (O':=1+(d+1:Nat)+11*j) (X':=1) hl (by omega)
 refine⟨k1,n1,op1,kids1,body1,_,_,_,_,_,_,c2,rfl,trivial,Y1.wf,(Y1.rk.kept m1 hD1).imp (fun b _ hb=>by omega),(Y1.rb.kept m1 hD1).imp (fun b _ hb=>by omega),?_,m0,gg.weaken (by omega) (by omega) (by omega),?_,Y1.deep,Y1.xd⟩
 · exact⟨hC.obj Y1.st.obj (by omega),h.nums.kept m0,Y1.st.tot,Y1.st.lo,Y1.st.lab,Y1.st.inn,Y1.st.flo⟩
 · have q1:=Y1.cost
   simp only[]at q1 ⊢
   omega
theorem expr_call(d j:Nat)(hd2:d≤1)(hC:ContrCall (d+1) j)(w:World)(mb:Nat)(ns:Value)(fl:Bool)(c:MC)(h:MSt w mb ns fl c)(hj:c.inner+j=2)(D:Int)(hD:D=(d+1:Nat))(hl:0≤c.left-1)
 (n:Nat) (hn:n<536870912) (hnext:Calls Tryz.prog 42 #[.pointer (some ⟨mb,0,none⟩)] (w.alloc (zeroX)) (NextN (w.alloc zeroX) mb ns fl c n)) (hr:n%12=5∨n%12=6) :
 Calls Tryz.prog 44 #[.pointer (some ⟨mb,0,none⟩),.int .i64 D] w (ExprP w mb ns fl c 1 (1+(d+1:Nat)+11*j) 1 0 (1+(d+1)+8*j) (fun _=>True)):=by
 have hmb:=lt_of_heap h.obj
 have hC':=Lib.hid hC
 have hn':=Lib.hid hnext
 have hd:(D == 0)=false:=by simp;omega
 have hDd:=Lib.hid hD
 clear hC hnext hD
 rcases hr with hr|hr
 all_goals
  have hr1:=Lib.hid hr
  clear hr
  go_enter Tryz.func44,Tryz.ntmps44
  go_wp2_with fail
  refine hn'.out.mono ?_
  rintro e w1 ⟨rfl,hst,hk⟩
  have z1:w.heap.size<w1.heap.size:=by have:=hk.size;simp[zeroX]at this;omega
  have cl:=cell_of_cells hst.obj 2 rfl
  have hk1:=keptA.trans hk
  have o1:w1.heap[w.heap.size]?=some zeroX:=hk.new (by omega)
  clear hk hn'
  have hr2:=congrArg (fun n:Nat=>(n:Int)) hr1.out
  simp only[Int.natCast_emod]at hr2
  go_wp2_with fail
  refine(hC'.out w1 mb ns fl _ n hst hj (by simp only[];omega) (by omega) (by omega) _ hDd.out).mono ?_
  rintro e w2 ⟨k1,n1,op1,kids1,body1,ak1,nk1,ck1,ab1,nb1,cb1,c2,rfl,rfl,Y1⟩
  have z2:w.heap.size<w2.heap.size:=by have:=Y1.kept.size;omega
  obtain⟨c0,c1,c2',c3,c4,f0,f1,f2,f3,f4⟩:=slot5 (Y1.kept.obj o1 (by omega))
  go_wp2_with fail
  refine bodyPost_ret (v:=.agg #[.int .i64 5,.int .i64 n1,.string op1,.slice ak1 nk1 ck1,.slice ab1 nb1 cb1]) (by simp[results,Tryz.results44,go_sem,c0,c1,c2',c3,c4];done) rfl ?_
  exact expr_call_end h hl hk1 z1 Y1 (Kept.set5 (M:=fun b=>b=w.heap.size) rfl)
theorem Labs.nil(w:World)(mb q:Nat):Labs w mb q (.slice none 0 0):=⟨none,0,0,.nil,rfl,Nat.zero_le _,trivial,trivial,⟨_,_,rfl⟩⟩
theorem expr_lit_end{w w1 w2 w3 wf:World}{mb:Nat}{ns:Value}{fl:Bool}{c c2:MC}{d j:Nat}{t:T}{a:Option Addr}{n cap:Nat}(hfl:fl=false)(hd:d≤1)
 (h:MSt w mb ns fl c) (hl:0≤c.left-1) (hin:c.inner+(j+1)=2) (hk1:Kept (fun b=>b=mb) w w1) (z1:w.heap.size<w1.heap.size) (hk2:Kept (fun b=>b=mb) w1 w2)
 (Y1:GotL w2 mb ns fl { c with m:=c.m+1,left:=c.left-1,inner:=c.inner+1 } (3+11*(d+j)) (4+5*d+8*j) t a n cap c2 w3)
 (hC:Kept (fun b=>b=mb∨b=w.heap.size) w3 wf) (hobj:wf.heap[mb]?=some (.cells [ns,.int .i64 (c2.m:Int),.int .i64 c2.left,.int .i64 (c2.labels:Int),.int .i64 (c.inner:Int),.bool fl].toArray 80 (0,0))) :
 ExprP w mb ns fl c 1 (1+(d+1:Nat)+11*(j+1:Nat)) 1 0 (1+(d+1)+8*(j+1)) (fun _=>True) (.returned (.agg #[.int .i64 6,.int .i64 0,.string ⟨#[]⟩,.slice none 0 0,.slice a n cap])) wf:=by
 have hmb:=lt_of_heap h.obj
 have a2:=hk2.size
 have g:=Y1.went
 have q:=Y1.cost
 have t0:=g.tot
 have t1:=g.le
 have t2:=g.lab0
 have t3:=g.lab1
 simp only[]at q t0 t1 t2 t3
 have m0:Kept (fun b=>b=mb) w wf:=((((hk1.trans hk2).trans Y1.kept).mono (M':=fun b=>b=mb∨w.heap.size≤b) fun _ _ h=>.inl h).trans (hC.mono fun b _ h=>h.imp id (fun e=>by omega))).fresh (Nat.le_refl _)
 have hD1:∀ b,w2.heap.size≤b→¬ (b=mb∨b=w.heap.size):=fun b hb=>by omega
 subst hfl
 refine⟨6,0,sE,.nil,t,_,_,_,_,_,_,{ c2 with inner:=c.inner },rfl,trivial,.lit t rfl Y1.wf,⟨_,_,rfl⟩,(Y1.rep.kept hC hD1).imp (fun b _ hb=>by omega),?_,m0,?_,?_,?_,by simp only[T.xd];omega⟩
 · exact⟨hobj,h.nums.kept m0,Y1.st.tot,Y1.st.lo,Y1.st.lab,by simp only[];omega,h.flo⟩
 · have l0:=g.low hl
   exact { tot:=by simp only[];omega,le:=by simp only[];omega,lab0:=t2,lab1:=by simp only[];omega,inner:=rfl,low:=fun _=>by simp only[];omega,low':=fun h0=>by omega }
 · simp only[T.cost,Nat.reduceEqDiff,if_true,if_false]
   omega
 · have:=Y1.deep
   simp only[T.deep,if_true]
   omega
theorem expr_lit(d j:Nat)(hd2:d≤1)(hL:ContrL d j)(w:World)(mb:Nat)(ns:Value)(c:MC)(h:MSt w mb ns false c)(hj:c.inner+(j+1)=2)(D:Int)(hD:D=(d+1:Nat))(hl:0≤c.left-1)
 (n:Nat) (hn:n<536870912) (hnext:Calls Tryz.prog 42 #[.pointer (some ⟨mb,0,none⟩)] (w.alloc (zeroX)) (NextN (w.alloc zeroX) mb ns false c n)) (hr:n%12=7) :
 Calls Tryz.prog 44 #[.pointer (some ⟨mb,0,none⟩),.int .i64 D] w (ExprP w mb ns false c 1 (1+(d+1:Nat)+11*(j+1:Nat)) 1 0 (1+(d+1)+8*(j+1)) (fun _=>True)):=by
 have hmb:=lt_of_heap h.obj
 have hL':=Lib.hid hL
 have hn':=Lib.hid hnext
 have hd:(D == 0)=false:=by simp;omega
 have hD0:1≤D:=by omega
 have hD1:D≤2:=by omega
 have hDd:=Lib.hid hD
 have hr1:=Lib.hid hr
 clear hL hnext hD hr
 go_enter Tryz.func44,Tryz.ntmps44
 go_wp2_with fail
 refine hn'.out.mono ?_
 rintro e w1 ⟨rfl,hst,hk⟩
 have z1:w.heap.size<w1.heap.size:=by have:=hk.size;simp[zeroX]at this;omega
 have cl:=cell_of_cells hst.obj 2 rfl
 have ci:=cell_of_cells hst.obj 4 rfl
 have cf:=cell_of_cells hst.obj 5 rfl
 have ff:=free_of_cells hst.obj 4
 have hin:(c.inner:Int)<2:=by omega
 have hk1:=keptA.trans hk
 have o1:w1.heap[w.heap.size]?=some zeroX:=hk.new (by omega)
 clear hk hn'
 have hr2:=congrArg (fun n:Nat=>(n:Int)) hr1.out
 simp only[Int.natCast_emod]at hr2
 go_wp2_with fail
 have hst2:MSt (w1.setCell ⟨mb,4,none⟩ (.int .i64 ((c.inner:Int)+1))) mb ns false { c with m:=c.m+1,left:=c.left-1,inner:=c.inner+1 } :=
  ⟨set_of_cells hst.obj 4 _,hst.nums.kept Kept.set1e,hst.tot,hst.lo,hst.lab,by simp only[];omega,hst.flo⟩
 refine(hL'.out _ mb ns false _ false (.slice none 0 0) hst2 (by simp only[];omega) (by simp only[];omega) (Labs.nil _ _ _) _ (by have:=hDd.out;omega)).mono ?_
 rintro e w3 ⟨t,a,k,cap,c2,rfl,Y1⟩
 have hk2:Kept (fun b=>b=mb) w1 (w1.setCell ⟨mb,4,none⟩ (.int .i64 ((c.inner:Int)+1))):=Kept.set1e
 have z2:w.heap.size<w3.heap.size:=by have:=Y1.kept.size;have:=hk2.size;omega
 have z3:w.heap.size≤w3.heap.size:=by omega
 obtain⟨c0,c1,c2',c3,c4,f0,f1,f2,f3,f4⟩:=slot5 ((hk2.trans Y1.kept).obj o1 (by omega))
 have ci3:=cell_of_cells Y1.st.obj 4 rfl
 have ff3:=free_of_cells Y1.st.obj 4
 have hci:c2.inner=c.inner+1:=Y1.went.inner
 have zmb:mb<w3.heap.size:=by omega
 rw[hci]at ci3
 clear hci
 go_wp2_with fail
 refine bodyPost_ret (v:=.agg #[.int .i64 6,.int .i64 0,.string ⟨#[]⟩,.slice none 0 0,.slice a k cap]) (by simp[results,Tryz.results44,go_sem,c0,c1,c2',c3,c4,z2];done) rfl ?_
 refine expr_lit_end rfl hd2 h hl hj hk1 z1 hk2 Y1 ?_ ?_
 · exact(((Kept.set1e (w:=w3) (b:=mb)).mono fun _ _ h=>.inl h).trans ((Kept.set5 (M:=fun b=>b=w.heap.size) rfl).mono fun _ _ h=>.inr h)).trans keptA
 · exact((Kept.set5 (M:=fun b=>b=w.heap.size) rfl).trans keptA).obj (set_of_cells Y1.st.obj 4 _) (by omega)
theorem expr_succ(d j:Nat)(hd:d≤1)(hE:ContrE d j)(hL:∀ j',j=j'+1→ContrL d j'):ContrE (d+1) j:=by
 intro w mb ns fl c h hj hlo D hD
 obtain⟨n,hn,hnext⟩:=next_ex (w.alloc zeroX) mb ns fl c (h.keptBut (Kept.alloc _ _ _) (M:=fun _=>False) (fun _ f=>f.elim)) (by omega)
 by_cases hl:c.left-1<0
 · exact expr_low d j hd w mb ns fl c h hj D hD hl n hn hnext
 · replace hl:0≤c.left-1:=by omega
   have hC:ContrCall (d+1) j:=call_any d j hd hE
   have hr:n%12<12:=Nat.mod_lt _ (by decide)
   by_cases h1:n%12=0∨n%12=1∨n%12=2
   · exact expr_bin d j hd hE w mb ns fl c h hj D hD hl n hn hnext h1
   by_cases h2:n%12=3∨n%12=4
   · exact expr_not d j hd hE w mb ns fl c h hj D hD hl n hn hnext h2
   by_cases h3:n%12=5∨n%12=6
   · exact expr_call d j hd hC w mb ns fl c h hj D hD hl n hn hnext h3
   by_cases h4:n%12=7
   · by_cases h5:fl=true∨j=0
     · exact expr_plain d j hd w mb ns fl c h hj D hD hl n hn hnext (.inr (.inr (.inr (.inr ⟨h4,h5⟩))))
     · cases j with
       | zero=>exact absurd (.inr rfl) h5
       | succ j =>
         cases fl with
         | true=>exact absurd (.inl rfl) h5
         | false=>exact expr_lit d j hd (hL j rfl) w mb ns c h hj D hD hl n hn hnext h4
   · exact expr_plain d j hd w mb ns fl c h hj D hD hl n hn hnext (by omega)
theorem expr_any(j:Nat)(hL:∀ j',j=j'+1→∀ d,d≤1→ContrL d j'):∀ d,d≤2→ContrE d j
 | 0,_=>expr_zero j
 | d+1,h=>expr_succ d j (by omega) (expr_any j hL d (by omega)) fun j' e=>hL j' e d (by omega)
end Go.Proofs.YtleolbpibjnedaaGreat
