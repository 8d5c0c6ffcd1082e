/- The laws' maker: the condition with an else. -/
import Derived.Test.YtleolbpibjnedaaGreatQMkD
set_option linter.unusedSimpArgs false
set_option linter.unusedVariables false
set_option maxRecDepth 100000
set_option maxHeartbeats 4000000
namespace Go.Proofs.YtleolbpibjnedaaGreat
open Go Go.RowKit Gc
theorem cond_else(d j k:Nat)(hd:d≤2)(hk3:k≤3)(hE:ContrE 2 j)(hL:ContrL d j)(w:World)(mb:Nat)(ns:Value)(fl:Bool)(c:MC)(n:Nat)(inn:Bool)(ls:Value)(h:MSt w mb ns fl c)(hj:c.inner+j=2)
 (hlo:-200-3*(k:Int)≤c.left) (hn:n<536870912) (hls:Labs w mb (3-(d+1)) ls) (D:Int) (hD:D=(d+1:Nat)) (K:Int) (hK:K=k) (hr1:(n:Int) / 32%4=1) :
 Calls Tryz.prog 43 #[.pointer (some ⟨mb,0,none⟩),.int .u32 n,.int .i64 D,.bool inn,ls,.int .i64 K] w
 (StmtP w mb ns fl c 2 (3+11*(d+1+j)-3*k) (12-3*k) (-2) (4+5*(d+1)+8*j-k) (fun s=>s.kind=3)):=by
 have hM:=h
 have hmb:=lt_of_heap h.obj
 have hE':=Lib.hid hE
 have hL':=Lib.hid hL
 have hDd:=Lib.hid hD
 have hD0:1≤D:=by omega
 have hD1:D≤3:=by omega
 have hK0:0≤K:=by omega
 have hK1:K≤3:=by omega
 clear hE hL hD hK
 go_enter Tryz.func43,Tryz.ntmps43
 go_wp2_with fail
 refine(hE'.out _ mb ns fl c (h.keptBut (Kept.alloc _ _ _) (M:=fun _=>False) (fun _ f=>f.elim)) hj (by omega) _ rfl).mono ?_
 rintro e w1 ⟨k1,n1,op1,kids1,body1,ak1,nk1,ck1,ab1,nb1,cb1,c1,rfl,_,Y1⟩
 go_wp2_with fail
 refine(hL'.out _ mb ns fl c1 inn ls Y1.st (by have:=Y1.went.inner;omega) (by have:=Y1.went.low;have:=Y1.went.low';omega) (((hls.kept keptA).kept Y1.kept).up (by omega)) _ (by have:=hDd.out;omega)).mono ?_
 rintro e w2 ⟨t,a2,n2,cap2,c2,rfl,Y2⟩
 have z1:=Y1.kept.size
 have z2:=Y2.kept.size
 have z0:w.heap.size<w1.heap.size:=by simp at z1;omega
 have z3:w.heap.size<w2.heap.size:=by omega
 have b0:w2.heap[w.heap.size]?=some zeroS:=Y2.kept.obj (Y1.kept.obj (heap_alloc_new w _) (by omega)) (by omega)
 have hlow2:-280≤c2.left:=by
  have:=Y1.went.low;have:=Y1.went.low';have:=Y2.went.low;have:=Y2.went.low'
  omega
 have hin2:c2.inner+j=2:=by have:=Y1.went.inner;have:=Y2.went.inner;omega
 go_wp2_with fail
 all_goals go_outline
 refine(hL'.out _ mb ns fl c2 inn ls (Y2.st.keptBut (Kept.alloc _ _ _) (M:=fun _=>False) (fun _ f=>f.elim)) hin2 hlow2 (((((hls.kept keptA).kept Y1.kept).kept Y2.kept).kept keptA).up (by omega)) _ (by have:=hDd.out;omega)).mono ?_
 rintro e w3 ⟨e3,a3,n3,cap3,c3,rfl,Y3⟩
 have z4:w2.heap.size<w3.heap.size:=by have:=Y3.kept.size;simp at this;omega
 have z5:w.heap.size<w3.heap.size:=by omega
 have b1:=Y3.kept.new (by omega)
 have b2:w3.heap[w.heap.size]?=some zeroS:=Y3.kept.obj ((Kept.alloc (fun _=>False) _ _).obj b0 (fun f=>f)) (by omega)
 obtain⟨r0,r1,r2,r3,r4,r5,r6,r7,r8,r9,r10,r11,r12,r13,q0,q1,q2,q3,q4,q5,q6,q7,q8,q9,q10,q11,q12,q13⟩:=slot14 b2
 obtain⟨s0,s1,s2,s3,s4,s5,s6,s7,s8,s9,s10,s11,s12,s13,p0,p1,p2,p3,p4,p5,p6,p7,p8,p9,p10,p11,p12,p13⟩:=slot14 b1
 go_wp2_with fail
 refine bodyPost_ret (v:=.agg #[.int .i64 3,.int .i64 0,.string ⟨#[]⟩,.string ⟨#[]⟩,.int .i64 k1,.int .i64 n1,.string op1,.slice ak1 nk1 ck1,.slice ab1 nb1 cb1,.slice a2 n2 cap2,.slice a3 n3 cap3,.bool true,.bool false,.slice none 0 0]) (by simp[results,Tryz.results43,go_sem,r0,r1,r2,r3,r4,r5,r6,r7,r8,r9,r10,r11,r12,r13,s0,s1,s2,s3,s4,s5,s6,s7,s8,s9,s10,s11,s12,s13,z3,z4,z5];done) rfl ?_
 refine cond_end (wf:=_) (has:=true) (chain:=false) (O3:=3+11*(d+j)) (X3:=1) hk3 hM Y1 Y2 Y3.st (keptA.trans Y3.kept) (Y3.rep.imp fun b _ hb=>by simp at hb;omega) (Y3.went.weaken (by omega) (by omega) (by omega)) ?_ ?_ ?_ ?_ (.ifElse _ _ _ Y1.wf Y2.wf Y3.wf) ?_
 · omega
 · omega
 · have:=Y3.cost;omega
 · have:=Y3.deep;simp only[if_true];omega
 · exact(((Kept.setCell (M:=fun b=>b=w.heap.size∨b=w2.heap.size) _ (.inr rfl) _).trans (Kept.setCell _ (.inr rfl) _)).trans (Kept.set14 (.inl rfl)))
theorem cond_chain(d j k:Nat)(hd:d≤2)(hk3:k<3)(hE:ContrE 2 j)(hL:ContrL d j)(hQ:ContrCond d j (k+1))(w:World)(mb:Nat)(ns:Value)(fl:Bool)(c:MC)(n:Nat)(inn:Bool)(ls:Value)(h:MSt w mb ns fl c)(hj:c.inner+j=2)
 (hlo:-200-3*(k:Int)≤c.left) (hn:n<536870912) (hls:Labs w mb (3-(d+1)) ls) (D:Int) (hD:D=(d+1:Nat)) (K:Int) (hK:K=k) (hr1:(n:Int) / 32%4=2) :
 Calls Tryz.prog 43 #[.pointer (some ⟨mb,0,none⟩),.int .u32 n,.int .i64 D,.bool inn,ls,.int .i64 K] w
 (StmtP w mb ns fl c 2 (3+11*(d+1+j)-3*k) (12-3*k) (-2) (4+5*(d+1)+8*j-k) (fun s=>s.kind=3)):=by
 have hM:=h
 have hmb:=lt_of_heap h.obj
 have hE':=Lib.hid hE
 have hL':=Lib.hid hL
 have hQ':=Lib.hid hQ
 have hDd:=Lib.hid hD
 have hKk:=Lib.hid hK
 have hD0:1≤D:=by omega
 have hD1:D≤3:=by omega
 have hK0:0≤K:=by omega
 have hK1:K≤3:=by omega
 have hK2:K<3:=by omega
 clear hE hL hQ hD hK
 go_enter Tryz.func43,Tryz.ntmps43
 go_wp2_with fail
 refine(hE'.out _ mb ns fl c (h.keptBut (Kept.alloc _ _ _) (M:=fun _=>False) (fun _ f=>f.elim)) hj (by omega) _ rfl).mono ?_
 rintro e w1 ⟨k1,n1,op1,kids1,body1,ak1,nk1,ck1,ab1,nb1,cb1,c1,rfl,_,Y1⟩
 go_wp2_with fail
 refine(hL'.out _ mb ns fl c1 inn ls Y1.st (by have:=Y1.went.inner;omega) (by have:=Y1.went.low;have:=Y1.went.low';omega) (((hls.kept keptA).kept Y1.kept).up (by omega)) _ (by have:=hDd.out;omega)).mono ?_
 rintro e w2 ⟨t,a2,n2,cap2,c2,rfl,Y2⟩
 have z1:=Y1.kept.size
 have z2:=Y2.kept.size
 have z0:w.heap.size<w1.heap.size:=by simp at z1;omega
 have z3:w.heap.size<w2.heap.size:=by omega
 have b0:w2.heap[w.heap.size]?=some zeroS:=Y2.kept.obj (Y1.kept.obj (heap_alloc_new w _) (by omega)) (by omega)
 have hlow2:-202-3*(k:Int)≤c2.left:=by
  have:=Y1.went.low;have:=Y1.went.low';have:=Y2.went.low;have:=Y2.went.low'
  omega
 have hin2:c2.inner+j=2:=by have:=Y1.went.inner;have:=Y2.went.inner;omega
 go_wp2_with fail
 refine(next_any _ mb ns fl c2 (Y2.st.keptBut (Kept.alloc _ _ _) (M:=fun _=>False) (fun _ f=>f.elim)) (by omega)).mono ?_
 rintro e w3 ⟨n',hn',rfl,st3,hk3'⟩
 go_wp2_with fail
 refine(hQ'.out _ mb ns fl _ n' inn ls st3 hin2 (by simp only[];omega) hn' (((((hls.kept keptA).kept Y1.kept).kept Y2.kept).kept keptA).kept hk3') D hDd.out _ (by have:=hKk.out;omega)).mono ?_
 rintro e w4 ⟨s4,kids4,xb4,body4,els4,cases4,c4,rfl,hkd,Y4⟩
 have z4:w2.heap.size<w3.heap.size:=by have:=hk3'.size;simp at this;omega
 have z5:w2.heap.size<w4.heap.size:=by have:=Y4.kept.size;omega
 have z6:w.heap.size<w4.heap.size:=by omega
 have b1:=Y4.kept.obj (hk3'.new (by omega)) (by omega)
 have b2:w4.heap[w.heap.size]?=some zeroS:=Y4.kept.obj (hk3'.obj ((Kept.alloc (fun _=>False) _ _).obj b0 (fun f=>f)) (by omega)) (by omega)
 obtain⟨r0,r1,r2,r3,r4,r5,r6,r7,r8,r9,r10,r11,r12,r13,q0,q1,q2,q3,q4,q5,q6,q7,q8,q9,q10,q11,q12,q13⟩:=slot14 b2
 obtain⟨s0,s1,s2,s3,s4',s5,s6,s7,s8,s9,s10,s11,s12,s13,p0,p1,p2,p3,p4,p5,p6,p7,p8,p9,p10,p11,p12,p13⟩:=slot14 b1
 go_wp2_with fail
 refine bodyPost_ret (v:=.agg #[.int .i64 3,.int .i64 0,.string ⟨#[]⟩,.string ⟨#[]⟩,.int .i64 k1,.int .i64 n1,.string op1,.slice ak1 nk1 ck1,.slice ab1 nb1 cb1,.slice a2 n2 cap2,.slice (some ⟨w4.heap.size,0,none⟩) 1 1,.bool false,.bool true,.slice none 0 0]) (by simp[results,Tryz.results43,go_sem,r0,r1,r2,r3,r4,r5,r6,r7,r8,r9,r10,r11,r12,r13,s10,s11,s12,s13,z3,z5,z6];done) rfl ?_
 obtain⟨sk,sn,sop,slab,xk4,xn4,xop4,a41,n41,c41,a42,n42,c42,a43,n43,c43,a44,n44,c44,has4,ch4,a45,n45,c45⟩:=s4
 obtain rfl:sk=3:=hkd
 have Yw:W fl .S (.s 3 sn sop slab (.x xk4 xn4 xop4 kids4 xb4) body4 els4 has4 ch4 cases4):=Y4.wf
 obtain⟨e1,e2,e3,e4⟩:=W.if_inv Yw
 subst e1 e2 e3 e4
 refine cond_end0 (wf:=_) (has:=false) (chain:=true) (e:=.cons (.s 3 0 sE sE (.x xk4 xn4 xop4 kids4 xb4) body4 els4 has4 ch4 .nil) .nil) (O3:=3+11*(d+1+j)-3*k) (X3:=10-3*k) (w3:=w4) (by omega) hM Y1 Y2 Y4.st ((keptA.trans hk3').trans Y4.kept) ?_ ?_ ?_ ?_ ?_ ?_ (.ifChain _ _ _ _ _ _ _ Y1.wf Y2.wf Yw) ?_
 · refine rep_one (T0:=66) (heap_new_at ?_ _) (by omega) (Y4.rep (M:=fun b=>b=w.heap.size∨b=w2.heap.size) ?_ (fun b hb=>by omega) (fun b hb=>by omega))
   · simp
   · exact((Kept.setCell (M:=fun b=>b=w.heap.size∨b=w2.heap.size) _ (.inr rfl) _).trans (Kept.set14 (.inl rfl))).trans keptA
 · exact((Went.next c2).trans (O'':=3+11*(d+1+j)-3*k) (X'':=10-3*k) Y4.went (by omega) (by omega) (by omega) (by omega)).weaken (by omega) (by omega) (by omega)
 · omega
 · omega
 · have q:=Y4.cost
   simp only[T.cost]at q ⊢
   omega
 · have q:=Y4.deep
   simp only[T.deep]at q ⊢
   simp only[Nat.max_zero,Nat.zero_le,if_false,Bool.false_eq_true]at q ⊢
   omega
 · exact((Kept.setCell (M:=fun b=>b=w.heap.size∨b=w2.heap.size) _ (.inr rfl) _).trans (Kept.set14 (.inl rfl))).trans keptA
theorem cond_any(d j:Nat)(hd:d≤2)(hE:ContrE 2 j)(hL:ContrL d j):∀ (m k:Nat),k+m=3→ContrCond d j k
 | 0,k,hk=>fun w mb ns fl c n inn ls h hj hlo hn hls D hD K hK=>by
   by_cases h1:(n:Int) / 32%4=1
   · exact cond_else d j k hd (by omega) hE hL w mb ns fl c n inn ls h hj hlo hn hls D hD K hK h1
   · exact cond_plain d j k hd (by omega) hE hL w mb ns fl c n inn ls h hj hlo hn hls D hD K hK h1 (by omega)
 | m+1,k,hk=>fun w mb ns fl c n inn ls h hj hlo hn hls D hD K hK=>by
   by_cases h1:(n:Int) / 32%4=1
   · exact cond_else d j k hd (by omega) hE hL w mb ns fl c n inn ls h hj hlo hn hls D hD K hK h1
   · by_cases h2:(n:Int) / 32%4=2
     · exact cond_chain d j k hd (by omega) hE hL (cond_any d j hd hE hL m (k+1) (by omega)) w mb ns fl c n inn ls h hj hlo hn hls D hD K hK h2
     · exact cond_plain d j k hd (by omega) hE hL w mb ns fl c n inn ls h hj hlo hn hls D hD K hK h1 (by omega)
end Go.Proofs.YtleolbpibjnedaaGreat
