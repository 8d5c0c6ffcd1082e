/- The laws' maker: statements: loops, blocks, returns, conditions. -/
import Derived.Test.YtleolbpibjnedaaGreatQMkD
set_option linter.unusedSimpArgs false
set_option linter.unusedVariables false
set_option maxRecDepth 100000
set_option maxHeartbeats 4000000
namespace Go.Proofs.YtleolbpibjnedaaGreat
open Go Go.RowKit Gc
theorem stmt_loop_end{w w1 w2 w3 wf:World}{mb:Nat}{ns:Value}{fl:Bool}{c c2 c3:MC}{d dd j kind de:Nat}{k1 n1:Nat}{op1:Str}{kids1 body1 t:T}{ak1:Option Addr}{nk1 ck1:Nat}{ab1:Option Addr}{nb1 cb1:Nat}
 {a2:Option Addr} {n2 cap2:Nat} (hkind:kind=4∨kind=5) (hde:de≤2) (hdd:dd=d+1) (h:MSt w mb ns fl c) (hl:0≤c.left) (hk1:Kept (fun b=>b=mb) w w1) (z1:w.heap.size<w1.heap.size)
 (Y1:GotE w1 mb ns fl { c with m:=c.m+1,left:=c.left-1 } 1 (1+(de:Nat)+11*j) 1 0 (1+de+8*j) k1 n1 op1 kids1 body1 ak1 nk1 ck1 ab1 nb1 cb1 c2 w2)
 (Y2:GotL w2 mb ns fl c2 (3+11*(d+j)) (4+5*d+8*j) t a2 n2 cap2 c3 w3) (hC:Kept (fun b=>b=w.heap.size) w3 wf) :
 StmtP w mb ns fl c 1 (3+11*(dd+j)) 1 0 (4+5*dd+8*j) (fun _=>True)
  (.returned (.agg #[.int .i64 kind,.int .i64 0,.string ⟨#[]⟩,.string ⟨#[]⟩,.int .i64 k1,.int .i64 n1,.string op1,.slice ak1 nk1 ck1,.slice ab1 nb1 cb1,.slice a2 n2 cap2,.slice none 0 0,.bool false,.bool false,.slice none 0 0])) wf:=by
 have hmb:=lt_of_heap h.obj
 have z2:=Y1.kept.size
 have z3:=Y2.kept.size
 have k03:Kept (fun b=>b=mb) w w3:=(hk1.trans Y1.kept).trans Y2.kept
 have m0:Kept (fun b=>b=mb) w wf:=((k03.mono (M':=fun b=>b=mb∨w.heap.size≤b) fun _ _ h=>.inl h).trans (hC.mono fun b _ h=>.inr (by omega))).fresh (Nat.le_refl _)
 have e1:∀ {g:G} {v:Value},Rep w2 (fun b=>w1.heap.size≤b) g [v]→Rep wf (fun b=>w.heap.size≤b) g [v]:=fun r =>
  (((r.imp (D':=fun b=>w.heap.size<b) fun b hl hb=>by omega).kept Y2.kept (fun b hb=>by omega)).kept hC (fun b hb=>by omega)).imp fun b _ hb=>by omega
 have e2:Rep wf (fun b=>w.heap.size≤b) t.g [.slice a2 n2 cap2]:=((Y2.rep.imp (D':=fun b=>w.heap.size<b) fun b hl hb=>by omega).kept hC (fun b hb=>by omega)).imp fun b _ hb=>by omega
 have g1:=Y1.went
 have g2:=Y2.went
 have q1:=Y1.cost
 have q2:=Y2.cost
 have d1:=Y1.deep
 have d2:=Y2.deep
 have hwent:Went 1 (3+11*(dd+j)) 1 c c3:=by
  have a1:=g1.tot;have a2:=g1.le;have a3:=g1.lab0;have a4:=g1.lab1;have a5:=g1.inner;have a6:=g1.low;have a7:=g1.low'
  have b1:=g2.tot;have b2:=g2.le;have b3:=g2.lab0;have b4:=g2.lab1;have b5:=g2.inner;have b6:=g2.low;have b7:=g2.low'
  simp only[]at a1 a2 a3 a4 a5 a6 a7
  exact⟨by omega,by omega,by omega,by omega,by omega,fun _=>by omega,fun _=>by omega⟩
 have hW:W fl .S (.s kind 0 sE sE (.x k1 n1 op1 kids1 body1) t .nil false false .nil):=by
  rcases hkind with rfl|rfl
  · exact .for_ _ _ Y1.wf Y2.wf
  · exact .range _ _ Y1.wf Y2.wf
 refine⟨⟨kind,0,_,_,k1,n1,op1,ak1,nk1,ck1,ab1,nb1,cb1,a2,n2,cap2,none,0,0,false,false,none,0,0⟩,kids1,body1,t,.nil,.nil,c3,rfl,trivial,hW,e1 Y1.rk,e1 Y1.rb,e2,⟨_,_,rfl⟩,⟨_,_,rfl⟩,?_,m0,hwent,?_,?_⟩
 · exact⟨hC.obj Y2.st.obj (by omega),h.nums.kept m0,Y2.st.tot,Y2.st.lo,Y2.st.lab,Y2.st.inn,Y2.st.flo⟩
 · simp only[T.cost,T.len]at q1 ⊢
   try simp only[]at q1
   omega
 · simp only[T.deep]at d1 ⊢
   rcases hkind with rfl|rfl<;>simp only[Nat.reduceEqDiff,if_false,Bool.false_eq_true]at d1 ⊢<;>omega
theorem stmt_one_end{w w1 w2 wf:World}{mb:Nat}{ns:Value}{fl:Bool}{c c2:MC}{dd j kind n0:Nat}{op0:Str}{k1 n1:Nat}{op1:Str}{kids1 body1:T}{ak1:Option Addr}{nk1 ck1:Nat}{ab1:Option Addr}{nb1 cb1:Nat}
 {ke O X more:Int} {dp:Nat} (h:MSt w mb ns fl c) (hl:0≤c.left) (hk1:Kept (fun b=>b=mb) w w1) (z1:w.heap.size<w1.heap.size)
 (Y1:GotE w1 mb ns fl { c with m:=c.m+1,left:=c.left-1 } ke O X more dp k1 n1 op1 kids1 body1 ak1 nk1 ck1 ab1 nb1 cb1 c2 w2) (hC:Kept (fun b=>b=w.heap.size) w2 wf)
 (hW:W fl .S (.s kind n0 op0 sE (.x k1 n1 op1 kids1 body1) .nil .nil false false .nil)) (hkind:kind≠7∧kind≠6) (hmore:more≤2) (hb:0≤ke∧O≤3+11*(dd+j)∧X≤2∧dp≤3+8*j) :
 StmtP w mb ns fl c 1 (3+11*(dd+j)) 1 0 (4+5*dd+8*j) (fun _=>True)
  (.returned (.agg #[.int .i64 kind,.int .i64 n0,.string op0,.string ⟨#[]⟩,.int .i64 k1,.int .i64 n1,.string op1,.slice ak1 nk1 ck1,.slice ab1 nb1 cb1,.slice none 0 0,.slice none 0 0,.bool false,.bool false,.slice none 0 0])) wf:=by
 have hmb:=lt_of_heap h.obj
 have z2:=Y1.kept.size
 have k02:Kept (fun b=>b=mb) w w2:=hk1.trans Y1.kept
 have m0:Kept (fun b=>b=mb) w wf:=((k02.mono (M':=fun b=>b=mb∨w.heap.size≤b) fun _ _ h=>.inl h).trans (hC.mono fun b _ h=>.inr (by omega))).fresh (Nat.le_refl _)
 have e1:∀ {g:G} {v:Value},Rep w2 (fun b=>w1.heap.size≤b) g [v]→Rep wf (fun b=>w.heap.size≤b) g [v]:=fun r =>
  ((r.imp (D':=fun b=>w.heap.size<b) fun b hl hb=>by omega).kept hC (fun b hb=>by omega)).imp fun b _ hb=>by omega
 have g1:=Y1.went
 have q1:=Y1.cost
 have d1:=Y1.deep
 have a1:=g1.tot;have a2:=g1.le;have a3:=g1.lab0;have a4:=g1.lab1;have a5:=g1.inner;have a6:=g1.low;have a7:=g1.low'
 simp only[]at a1 a2 a3 a4 a5 a6 a7
 refine⟨⟨kind,n0,op0,_,k1,n1,op1,ak1,nk1,ck1,ab1,nb1,cb1,none,0,0,none,0,0,false,false,none,0,0⟩,kids1,body1,.nil,.nil,.nil,c2,rfl,trivial,hW,e1 Y1.rk,e1 Y1.rb,⟨_,_,rfl⟩,⟨_,_,rfl⟩,⟨_,_,rfl⟩,?_,m0,?_,?_,?_⟩
 · exact⟨hC.obj Y1.st.obj (by omega),h.nums.kept m0,Y1.st.tot,Y1.st.lo,Y1.st.lab,Y1.st.inn,Y1.st.flo⟩
 · exact⟨by omega,by omega,by omega,by omega,by omega,fun _=>by omega,fun _=>by omega⟩
 · simp only[T.cost,T.len]at q1 ⊢
   try simp only[]at q1
   omega
 · simp only[T.deep]at d1 ⊢
   simp only[hkind.1,hkind.2,if_false,Bool.false_eq_true]at d1 ⊢
   omega
theorem stmt_block_end{w w1 w2 wf:World}{mb:Nat}{ns:Value}{fl:Bool}{c c2:MC}{d dd j:Nat}{t:T}{a2:Option Addr}{n2 cap2:Nat}
 (hdd:dd=d+1) (h:MSt w mb ns fl c) (hl:0≤c.left) (hk1:Kept (fun b=>b=mb) w w1) (z1:w.heap.size<w1.heap.size)
 (Y2:GotL w1 mb ns fl { c with m:=c.m+1,left:=c.left-1 } (3+11*(d+j)) (4+5*d+8*j) t a2 n2 cap2 c2 w2) (hC:Kept (fun b=>b=w.heap.size) w2 wf) :
 StmtP w mb ns fl c 1 (3+11*(dd+j)) 1 0 (4+5*dd+8*j) (fun _=>True)
  (.returned (.agg #[.int .i64 10,.int .i64 0,.string ⟨#[]⟩,.string ⟨#[]⟩,.int .i64 0,.int .i64 0,.string ⟨#[]⟩,.slice none 0 0,.slice none 0 0,.slice a2 n2 cap2,.slice none 0 0,.bool false,.bool false,.slice none 0 0])) wf:=by
 have hmb:=lt_of_heap h.obj
 have z2:=Y2.kept.size
 have k02:Kept (fun b=>b=mb) w w2:=hk1.trans Y2.kept
 have m0:Kept (fun b=>b=mb) w wf:=((k02.mono (M':=fun b=>b=mb∨w.heap.size≤b) fun _ _ h=>.inl h).trans (hC.mono fun b _ h=>.inr (by omega))).fresh (Nat.le_refl _)
 have e2:Rep wf (fun b=>w.heap.size≤b) t.g [.slice a2 n2 cap2]:=((Y2.rep.imp (D':=fun b=>w.heap.size<b) fun b hl hb=>by omega).kept hC (fun b hb=>by omega)).imp fun b _ hb=>by omega
 have g2:=Y2.went
 have q2:=Y2.cost
 have d2:=Y2.deep
 refine⟨⟨10,0,_,_,0,0,_,none,0,0,none,0,0,a2,n2,cap2,none,0,0,false,false,none,0,0⟩,.nil,.nil,t,.nil,.nil,c2,rfl,trivial,.block _ Y2.wf,⟨_,_,rfl⟩,⟨_,_,rfl⟩,e2,⟨_,_,rfl⟩,⟨_,_,rfl⟩,?_,m0,?_,?_,?_⟩
 · exact⟨hC.obj Y2.st.obj (by omega),h.nums.kept m0,Y2.st.tot,Y2.st.lo,Y2.st.lab,Y2.st.inn,Y2.st.flo⟩
 · have b1:=g2.tot;have b2:=g2.le;have b3:=g2.lab0;have b4:=g2.lab1;have b5:=g2.inner;have b6:=g2.low;have b7:=g2.low'
   simp only[]at b1 b2 b3 b4 b5 b6 b7
   exact⟨by omega,by omega,by omega,by omega,by omega,fun _=>by omega,fun _=>by omega⟩
 · simp only[T.cost,T.len]at q2 ⊢
   try simp only[]at q2
   simp only[Nat.reduceEqDiff,if_false]
   omega
 · simp only[T.deep]at d2 ⊢
   simp only[Nat.reduceEqDiff,if_false,Bool.false_eq_true]at d2 ⊢
   omega
theorem stmt_for(d dd j:Nat)(hd:d≤2)(hdd:dd=d+1)(hj2:j≤2)(hE:ContrE 2 j)(hL:ContrL d j)(w:World)(mb:Nat)(ns:Value)(fl:Bool)(c:MC)(inn:Bool)(ls:Value)(h:MSt w mb ns fl c)(hj:c.inner+j=2)(hl:0≤c.left)(hls:Labs w mb (3-dd) ls)(D:Int)(hD:D=dd)
 (n:Nat) (hn:n<536870912) (hnext:Calls Tryz.prog 42 #[.pointer (some ⟨mb,0,none⟩)] (w.alloc zeroS) (NextN (w.alloc zeroS) mb ns fl c n)) (hr:(n:Int)%16=8) :
 Calls Tryz.prog 29 #[.pointer (some ⟨mb,0,none⟩),.int .i64 D,.bool inn,ls] w (StmtP w mb ns fl c 1 (3+11*(dd+j)) 1 0 (4+5*dd+8*j) (fun _=>True)):=by
 have hM:=h
 have hmb:=lt_of_heap h.obj
 have hn':=Lib.hid hnext
 have hE':=Lib.hid hE
 have hL':=Lib.hid hL
 have hDd:=Lib.hid hD
 have hD0:1≤D:=by omega
 have hD1:D≤3:=by omega
 have hd0:(D == 0)=false:=by simp;omega
 clear hnext hE hL hD
 go_enter Tryz.func29,Tryz.ntmps29
 go_wp2_with fail
 refine hn'.out.mono ?_
 rintro e w1 ⟨rfl,hst,hk⟩
 obtain⟨rc,rf⟩:=keptRules hk hmb
 have z1:w.heap.size<w1.heap.size:=by have:=hk.size;simp at this;omega
 have hk1:=keptA.trans hk
 have o1:w1.heap[w.heap.size]?=some zeroS:=hk.new (by omega)
 clear hk hn'
 go_wp2_with fail
 refine(hE'.out w1 mb ns fl _ hst hj (by simp only[];omega) _ rfl).mono ?_
 rintro e w2 ⟨k1,n1,op1,kids1,body1,ak1,nk1,ck1,ab1,nb1,cb1,c2,rfl,_,Y1⟩
 have z2:=Y1.kept.size
 have hlow:-280≤c2.left:=by have:=Y1.went.low;have:=Y1.went.low';simp only[]at *;omega
 go_wp2_with fail
 refine(hL'.out _ mb ns fl c2 true ls Y1.st (by have:=Y1.went.inner;simp only[]at this;omega) hlow (((hls.kept hk1).kept Y1.kept).up (by omega)) _ (by have:=hDd.out;omega)).mono ?_
 rintro e w3 ⟨t,a2,n2,cap2,c3,rfl,Y2⟩
 have z3:=Y2.kept.size
 have z4:w.heap.size<w3.heap.size:=by omega
 have b0:w3.heap[w.heap.size]?=some zeroS:=Y2.kept.obj (Y1.kept.obj o1 (by omega)) (by omega)
 obtain⟨r0,r1,r2,r3,r4,r5,r6,r7,r8,r9,r10,r11,r12,r13,q0,q1,q2,q3,q4,q5,q6,q7,q8,q9,q10,q11,q12,q13⟩:=slot14 b0
 go_wp2_with fail
 refine bodyPost_ret (v:=.agg #[.int .i64 4,.int .i64 0,.string ⟨#[]⟩,.string ⟨#[]⟩,.int .i64 k1,.int .i64 n1,.string op1,.slice ak1 nk1 ck1,.slice ab1 nb1 cb1,.slice a2 n2 cap2,.slice none 0 0,.bool false,.bool false,.slice none 0 0]) (by simp[results,Tryz.results29,go_sem,r0,r1,r2,r3,r4,r5,r6,r7,r8,r9,r10,r11,r12,r13,z4];done) rfl ?_
 exact stmt_loop_end (kind:=4) (de:=2) (.inl rfl) (by omega) hdd hM hl hk1 z1 Y1 Y2 (Kept.set14 (M:=fun b=>b=w.heap.size) rfl)
theorem stmt_range(d dd j:Nat)(hd:d≤2)(hdd:dd=d+1)(hj2:j≤2)(hE:ContrE 1 j)(hL:ContrL d j)(w:World)(mb:Nat)(ns:Value)(fl:Bool)(c:MC)(inn:Bool)(ls:Value)(h:MSt w mb ns fl c)(hj:c.inner+j=2)(hl:0≤c.left)(hls:Labs w mb (3-dd) ls)(D:Int)(hD:D=dd)
 (n:Nat) (hn:n<536870912) (hnext:Calls Tryz.prog 42 #[.pointer (some ⟨mb,0,none⟩)] (w.alloc zeroS) (NextN (w.alloc zeroS) mb ns fl c n)) (hr:(n:Int)%16=9) :
 Calls Tryz.prog 29 #[.pointer (some ⟨mb,0,none⟩),.int .i64 D,.bool inn,ls] w (StmtP w mb ns fl c 1 (3+11*(dd+j)) 1 0 (4+5*dd+8*j) (fun _=>True)):=by
 have hM:=h
 have hmb:=lt_of_heap h.obj
 have hn':=Lib.hid hnext
 have hE':=Lib.hid hE
 have hL':=Lib.hid hL
 have hDd:=Lib.hid hD
 have hD0:1≤D:=by omega
 have hD1:D≤3:=by omega
 have hd0:(D == 0)=false:=by simp;omega
 clear hnext hE hL hD
 go_enter Tryz.func29,Tryz.ntmps29
 go_wp2_with fail
 refine hn'.out.mono ?_
 rintro e w1 ⟨rfl,hst,hk⟩
 obtain⟨rc,rf⟩:=keptRules hk hmb
 have z1:w.heap.size<w1.heap.size:=by have:=hk.size;simp at this;omega
 have hk1:=keptA.trans hk
 have o1:w1.heap[w.heap.size]?=some zeroS:=hk.new (by omega)
 clear hk hn'
 go_wp2_with fail
 refine(hE'.out w1 mb ns fl _ hst hj (by simp only[];omega) _ rfl).mono ?_
 rintro e w2 ⟨k1,n1,op1,kids1,body1,ak1,nk1,ck1,ab1,nb1,cb1,c2,rfl,_,Y1⟩
 have z2:=Y1.kept.size
 have hlow:-280≤c2.left:=by have:=Y1.went.low;have:=Y1.went.low';simp only[]at *;omega
 go_wp2_with fail
 refine(hL'.out _ mb ns fl c2 true ls Y1.st (by have:=Y1.went.inner;simp only[]at this;omega) hlow (((hls.kept hk1).kept Y1.kept).up (by omega)) _ (by have:=hDd.out;omega)).mono ?_
 rintro e w3 ⟨t,a2,n2,cap2,c3,rfl,Y2⟩
 have z3:=Y2.kept.size
 have z4:w.heap.size<w3.heap.size:=by omega
 have b0:w3.heap[w.heap.size]?=some zeroS:=Y2.kept.obj (Y1.kept.obj o1 (by omega)) (by omega)
 obtain⟨r0,r1,r2,r3,r4,r5,r6,r7,r8,r9,r10,r11,r12,r13,q0,q1,q2,q3,q4,q5,q6,q7,q8,q9,q10,q11,q12,q13⟩:=slot14 b0
 go_wp2_with fail
 refine bodyPost_ret (v:=.agg #[.int .i64 5,.int .i64 0,.string ⟨#[]⟩,.string ⟨#[]⟩,.int .i64 k1,.int .i64 n1,.string op1,.slice ak1 nk1 ck1,.slice ab1 nb1 cb1,.slice a2 n2 cap2,.slice none 0 0,.bool false,.bool false,.slice none 0 0]) (by simp[results,Tryz.results29,go_sem,r0,r1,r2,r3,r4,r5,r6,r7,r8,r9,r10,r11,r12,r13,z4];done) rfl ?_
 exact stmt_loop_end (kind:=5) (de:=1) (.inr rfl) (by omega) hdd hM hl hk1 z1 Y1 Y2 (Kept.set14 (M:=fun b=>b=w.heap.size) rfl)
theorem stmt_block(d dd j:Nat)(hd:d≤2)(hdd:dd=d+1)(hj2:j≤2)(hL:ContrL d j)(w:World)(mb:Nat)(ns:Value)(fl:Bool)(c:MC)(inn:Bool)(ls:Value)(h:MSt w mb ns fl c)(hj:c.inner+j=2)(hl:0≤c.left)(hls:Labs w mb (3-dd) ls)(D:Int)(hD:D=dd)
 (n:Nat) (hn:n<536870912) (hnext:Calls Tryz.prog 42 #[.pointer (some ⟨mb,0,none⟩)] (w.alloc zeroS) (NextN (w.alloc zeroS) mb ns fl c n)) (hr:(n:Int)%16=14) :
 Calls Tryz.prog 29 #[.pointer (some ⟨mb,0,none⟩),.int .i64 D,.bool inn,ls] w (StmtP w mb ns fl c 1 (3+11*(dd+j)) 1 0 (4+5*dd+8*j) (fun _=>True)):=by
 have hM:=h
 have hmb:=lt_of_heap h.obj
 have hn':=Lib.hid hnext
 have hL':=Lib.hid hL
 have hDd:=Lib.hid hD
 have hD0:1≤D:=by omega
 have hD1:D≤3:=by omega
 have hd0:(D == 0)=false:=by simp;omega
 clear hnext hL hD
 go_enter Tryz.func29,Tryz.ntmps29
 go_wp2_with fail
 refine hn'.out.mono ?_
 rintro e w1 ⟨rfl,hst,hk⟩
 obtain⟨rc,rf⟩:=keptRules hk hmb
 have z1:w.heap.size<w1.heap.size:=by have:=hk.size;simp at this;omega
 have hk1:=keptA.trans hk
 have o1:w1.heap[w.heap.size]?=some zeroS:=hk.new (by omega)
 clear hk hn'
 go_wp2_with fail
 refine(hL'.out w1 mb ns fl _ inn ls hst hj (by simp only[];omega) ((hls.kept hk1).up (by omega)) _ (by have:=hDd.out;omega)).mono ?_
 rintro e w2 ⟨t,a2,n2,cap2,c2,rfl,Y2⟩
 have z2:=Y2.kept.size
 have z4:w.heap.size<w2.heap.size:=by omega
 have b0:w2.heap[w.heap.size]?=some zeroS:=Y2.kept.obj o1 (by omega)
 obtain⟨r0,r1,r2,r3,r4,r5,r6,r7,r8,r9,r10,r11,r12,r13,q0,q1,q2,q3,q4,q5,q6,q7,q8,q9,q10,q11,q12,q13⟩:=slot14 b0
 go_wp2_with fail
 refine bodyPost_ret (v:=.agg #[.int .i64 10,.int .i64 0,.string ⟨#[]⟩,.string ⟨#[]⟩,.int .i64 0,.int .i64 0,.string ⟨#[]⟩,.slice none 0 0,.slice none 0 0,.slice a2 n2 cap2,.slice none 0 0,.bool false,.bool false,.slice none 0 0]) (by simp[results,Tryz.results29,go_sem,r0,r1,r2,r3,r4,r5,r6,r7,r8,r9,r10,r11,r12,r13,z4];done) rfl ?_
 exact stmt_block_end hdd hM hl hk1 z1 Y2 (Kept.set14 (M:=fun b=>b=w.heap.size) rfl)
theorem stmt_ret(d dd j:Nat)(hd:d≤2)(hdd:dd=d+1)(hj2:j≤2)(hE:ContrE 2 j)(w:World)(mb:Nat)(ns:Value)(fl:Bool)(c:MC)(inn:Bool)(ls:Value)(h:MSt w mb ns fl c)(hj:c.inner+j=2)(hl:0≤c.left)(hls:Labs w mb (3-dd) ls)(D:Int)(hD:D=dd)
 (n:Nat) (hn:n<536870912) (hnext:Calls Tryz.prog 42 #[.pointer (some ⟨mb,0,none⟩)] (w.alloc zeroS) (NextN (w.alloc zeroS) mb ns fl c n)) (hr:(n:Int)%16=13) (hr2:(n:Int) / 32%3=0) :
 Calls Tryz.prog 29 #[.pointer (some ⟨mb,0,none⟩),.int .i64 D,.bool inn,ls] w (StmtP w mb ns fl c 1 (3+11*(dd+j)) 1 0 (4+5*dd+8*j) (fun _=>True)):=by
 have hM:=h
 have hmb:=lt_of_heap h.obj
 have hn':=Lib.hid hnext
 have hE':=Lib.hid hE
 have hDd:=Lib.hid hD
 have hD0:1≤D:=by omega
 have hD1:D≤3:=by omega
 have hd0:(D == 0)=false:=by simp;omega
 clear hnext hE hD
 go_enter Tryz.func29,Tryz.ntmps29
 go_wp2_with fail
 refine hn'.out.mono ?_
 rintro e w1 ⟨rfl,hst,hk⟩
 obtain⟨rc,rf⟩:=keptRules hk hmb
 have z1:w.heap.size<w1.heap.size:=by have:=hk.size;simp at this;omega
 have hk1:=keptA.trans hk
 have o1:w1.heap[w.heap.size]?=some zeroS:=hk.new (by omega)
 clear hk hn'
 go_wp2_with fail
 refine(hE'.out w1 mb ns fl _ hst hj (by simp only[];omega) _ rfl).mono ?_
 rintro e w2 ⟨k1,n1,op1,kids1,body1,ak1,nk1,ck1,ab1,nb1,cb1,c2,rfl,_,Y1⟩
 have z2:=Y1.kept.size
 have z4:w.heap.size<w2.heap.size:=by omega
 have b0:w2.heap[w.heap.size]?=some zeroS:=Y1.kept.obj o1 (by omega)
 obtain⟨r0,r1,r2,r3,r4,r5,r6,r7,r8,r9,r10,r11,r12,r13,q0,q1,q2,q3,q4,q5,q6,q7,q8,q9,q10,q11,q12,q13⟩:=slot14 b0
 go_wp2_with fail
 refine bodyPost_ret (v:=.agg #[.int .i64 9,.int .i64 0,.string ⟨#[]⟩,.string ⟨#[]⟩,.int .i64 k1,.int .i64 n1,.string op1,.slice ak1 nk1 ck1,.slice ab1 nb1 cb1,.slice none 0 0,.slice none 0 0,.bool false,.bool false,.slice none 0 0]) (by simp[results,Tryz.results29,go_sem,r0,r1,r2,r3,r4,r5,r6,r7,r8,r9,r10,r11,r12,r13,z4];done) rfl ?_
 exact stmt_one_end (kind:=9) (n0:=0) (op0:=sE) hM hl hk1 z1 Y1 (Kept.set14 (M:=fun b=>b=w.heap.size) rfl) (.ret _ Y1.wf) (by decide) (by decide) (by omega)
theorem stmt_cond_end{w w1 w2 wf:World}{mb:Nat}{ns:Value}{fl:Bool}{c c2:MC}{d dd j:Nat}{s:SV}{kids xb body els cases:T}
 (hdd:dd=d+1) (h:MSt w mb ns fl c) (hl:0≤c.left) (hk1:Kept (fun b=>b=mb) w w1) (z1:w.heap.size<w1.heap.size)
 (Y:GotS w1 mb ns fl { c with m:=c.m+1,left:=c.left-1 } 2 (3+11*(d+1+j)-3*(0:Nat)) (12-3*(0:Nat)) (-2) (4+5*(d+1)+8*j-0) s kids xb body els cases c2 w2) (hkd:s.kind=3) (hC:Kept (fun b=>b=w.heap.size) w2 wf) :
 StmtP w mb ns fl c 1 (3+11*(dd+j)) 1 0 (4+5*dd+8*j) (fun _=>True)
  (.returned (.agg #[.int .i64 3,.int .i64 s.n,.string s.op,.string s.lab,.int .i64 s.xk,.int .i64 s.xn,.string s.xop,.slice s.a1 s.n1 s.c1,.slice s.a2 s.n2 s.c2,.slice s.a3 s.n3 s.c3,.slice s.a4 s.n4 s.c4,.bool s.has,.bool s.chain,.slice s.a5 s.n5 s.c5])) wf:=by
 have hmb:=lt_of_heap h.obj
 have z2:=Y.kept.size
 have k02:Kept (fun b=>b=mb) w w2:=hk1.trans Y.kept
 have m0:Kept (fun b=>b=mb) w wf:=((k02.mono (M':=fun b=>b=mb∨w.heap.size≤b) fun _ _ h=>.inl h).trans (hC.mono fun b _ h=>.inr (by omega))).fresh (Nat.le_refl _)
 have e1:∀ {g:G} {v:Value},Rep w2 (fun b=>w1.heap.size≤b) g [v]→Rep wf (fun b=>w.heap.size≤b) g [v]:=fun r =>
  ((r.imp (D':=fun b=>w.heap.size<b) fun b hl hb=>by omega).kept hC (fun b hb=>by omega)).imp fun b _ hb=>by omega
 have g1:=Y.went
 have q1:=Y.cost
 have d1:=Y.deep
 have a1:=g1.tot;have a2:=g1.le;have a3:=g1.lab0;have a4:=g1.lab1;have a5:=g1.inner;have a6:=g1.low;have a7:=g1.low'
 simp only[]at a1 a2 a3 a4 a5 a6 a7
 refine⟨s,kids,xb,body,els,cases,c2,by rw[hkd];rfl,trivial,Y.wf,e1 Y.r1,e1 Y.r2,e1 Y.r3,e1 Y.r4,e1 Y.r5,?_,m0,?_,?_,?_⟩
 · exact⟨hC.obj Y.st.obj (by omega),h.nums.kept m0,Y.st.tot,Y.st.lo,Y.st.lab,Y.st.inn,Y.st.flo⟩
 · exact⟨by omega,by omega,by omega,by omega,by omega,fun _=>by omega,fun _=>by omega⟩
 · simp only[]at q1
   omega
 · omega
theorem stmt_cond(d dd j:Nat)(hd:d≤2)(hdd:dd=d+1)(hj2:j≤2)(hQ:ContrCond d j 0)(w:World)(mb:Nat)(ns:Value)(fl:Bool)(c:MC)(inn:Bool)(ls:Value)(h:MSt w mb ns fl c)(hj:c.inner+j=2)(hl:0≤c.left)(hls:Labs w mb (3-dd) ls)(D:Int)(hD:D=dd)
 (n:Nat) (hn:n<536870912) (hnext:Calls Tryz.prog 42 #[.pointer (some ⟨mb,0,none⟩)] (w.alloc zeroS) (NextN (w.alloc zeroS) mb ns fl c n)) (hr:(n:Int)%16=5∨(n:Int)%16=6∨(n:Int)%16=7) :
 Calls Tryz.prog 29 #[.pointer (some ⟨mb,0,none⟩),.int .i64 D,.bool inn,ls] w (StmtP w mb ns fl c 1 (3+11*(dd+j)) 1 0 (4+5*dd+8*j) (fun _=>True)):=by
 have hM:=h
 have hmb:=lt_of_heap h.obj
 have hn':=Lib.hid hnext
 have hQ':=Lib.hid hQ
 have hDd:=Lib.hid hD
 have hD0:1≤D:=by omega
 have hD1:D≤3:=by omega
 have hd0:(D == 0)=false:=by simp;omega
 clear hnext hQ hD
 rcases hr with hr|hr|hr
 all_goals
  go_enter Tryz.func29,Tryz.ntmps29
  go_wp2_with fail
  refine hn'.out.mono ?_
  rintro e w1 ⟨rfl,hst,hk⟩
  obtain⟨rc,rf⟩:=keptRules hk hmb
  have z1:w.heap.size<w1.heap.size:=by have:=hk.size;simp at this;omega
  have hk1:=keptA.trans hk
  have o1:w1.heap[w.heap.size]?=some zeroS:=hk.new (by omega)
  clear hk hn'
  go_wp2_with fail
  refine(hQ'.out w1 mb ns fl _ n inn ls hst hj (by simp only[];omega) hn ((hls.kept hk1).up (by omega)) D (by have:=hDd.out;omega) 0 rfl).mono ?_
  rintro e w2 ⟨s,kids,xb,body,els,cases,c2,rfl,hkd,Y⟩
  have z2:=Y.kept.size
  have z4:w.heap.size<w2.heap.size:=by omega
  have b0:w2.heap[w.heap.size]?=some zeroS:=Y.kept.obj o1 (by omega)
  obtain⟨r0,r1,r2,r3,r4,r5,r6,r7,r8,r9,r10,r11,r12,r13,q0,q1,q2,q3,q4,q5,q6,q7,q8,q9,q10,q11,q12,q13⟩:=slot14 b0
  go_wp2_with fail
  refine bodyPost_ret (v:=.agg #[.int .i64 3,.int .i64 s.n,.string s.op,.string s.lab,.int .i64 s.xk,.int .i64 s.xn,.string s.xop,.slice s.a1 s.n1 s.c1,.slice s.a2 s.n2 s.c2,.slice s.a3 s.n3 s.c3,.slice s.a4 s.n4 s.c4,.bool s.has,.bool s.chain,.slice s.a5 s.n5 s.c5]) (by simp[results,Tryz.results29,go_sem,r0,r1,r2,r3,r4,r5,r6,r7,r8,r9,r10,r11,r12,r13,z4];done) rfl ?_
  exact stmt_cond_end hdd hM hl hk1 z1 Y hkd (Kept.set14 (M:=fun b=>b=w.heap.size) rfl)
end Go.Proofs.YtleolbpibjnedaaGreat
