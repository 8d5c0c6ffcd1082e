/- The laws' statements as parts of syntax: lists, blocks. -/
import Derived.Test.YtleolbpibjnedaaGreatQLsA
import Derived.Test.YtleolbpibjnedaaGreatQMkA
set_option linter.unusedSimpArgs false
set_option linter.unusedVariables false
set_option maxRecDepth 100000
set_option maxHeartbeats 4000000
namespace Go.Proofs.YtleolbpibjnedaaGreat
open Go Go.RowKit Gc
def StmtN(t:T):Prop:=∀ (w:World) (D:Nat→Prop) (s:SV) (kids xb body els cases:T),t=.s s.kind s.n s.op s.lab (.x s.xk s.xn s.xop kids xb) body els s.has s.chain cases→Rep w D kids.g [.slice s.a1 s.n1 s.c1]→Rep w D xb.g [.slice s.a2 s.n2 s.c2]→Rep w D body.g [.slice s.a3 s.n3 s.c3]→Rep w D els.g [.slice s.a4 s.n4 s.c4]→Rep w D cases.g [.slice s.a5 s.n5 s.c5] →
 Calls Tryz.prog 58 #[.agg #[.int .i64 s.kind,.int .i64 s.n,.string s.op,.string s.lab,.int .i64 s.xk,.int .i64 s.xn,.string s.xop,.slice s.a1 s.n1 s.c1,.slice s.a2 s.n2 s.c2,.slice s.a3 s.n3 s.c3,.slice s.a4 s.n4 s.c4,.bool s.has,.bool s.chain,.slice s.a5 s.n5 s.c5]] w (NodeP w (t.N 0))
def IsS(t:T):Prop:=∃ kind n op lab xk xn xop kids xb body els has chain cases,t=.s kind n op lab (.x xk xn xop kids xb) body els has chain cases∧kids.isList∧xb.isList∧body.isList∧els.isList∧cases.isList
def StmtX(t:T):Prop:=StmtN t∧IsS t
theorem all_s_len{w:World}{D:Nat→Prop}:∀ {t:T},t.All StmtX→∀ (hs:List Value) (h:G),Rep w D h hs→t.All (fun x=>x.g=h→hs.length=14)
 | .cons _ t,ha,hs,h,hr=>by
   refine⟨fun e=>?_,all_s_len ha.2 hs h hr⟩
   obtain⟨_,kind,n,op,lab,xk,xn,xop,kids,xb,body,els,has,chain,cases,rfl,_⟩:=ha.1
   rw[← e]at hr
   obtain⟨_,rfl,_,rfl,_,rfl,_,rfl,xs,rs,rfl,⟨_,rfl,_,rfl,_,rfl,u1,_,rfl,h1,u2,_,rfl,h2,rfl⟩,u3,_,rfl,h3,u4,_,rfl,h4,_,rfl,_,rfl,u5,_,rfl,h5,rfl⟩:=hr
   rfl
 | .nil,_,_,_,_ | .x ..,_,_,_,_ | .s ..,_,_,_,_=>trivial
theorem s_at{w:World}{D:Nat→Prop}{t:T}{g o n c k:Nat}(h:Rep w D t.g [.slice (some ⟨g,o,none⟩) n c])(hl:t.isList)(ha:t.All StmtX)(hk:k<t.len) :
 ∃ (s:SV) (kids xb body els cases:T),t.get k=.s s.kind s.n s.op s.lab (.x s.xk s.xn s.xop kids xb) body els s.has s.chain cases∧StmtN (t.get k)∧g<w.heap.size∧Rep w D kids.g [.slice s.a1 s.n1 s.c1]∧Rep w D xb.g [.slice s.a2 s.n2 s.c2]∧Rep w D body.g [.slice s.a3 s.n3 s.c3]∧Rep w D els.g [.slice s.a4 s.n4 s.c4]∧Rep w D cases.g [.slice s.a5 s.n5 s.c5] ∧
  w.cell? ⟨g,o+k*14,none⟩=some (.int .i64 s.kind)∧w.cell? ⟨g,o+k*14+1,none⟩=some (.int .i64 s.n)∧w.cell? ⟨g,o+k*14+2,none⟩=some (.string s.op)∧w.cell? ⟨g,o+k*14+3,none⟩=some (.string s.lab)∧w.cell? ⟨g,o+k*14+4,none⟩=some (.int .i64 s.xk)∧w.cell? ⟨g,o+k*14+5,none⟩=some (.int .i64 s.xn)∧w.cell? ⟨g,o+k*14+6,none⟩=some (.string s.xop)∧w.cell? ⟨g,o+k*14+7,none⟩=some (.slice s.a1 s.n1 s.c1)∧w.cell? ⟨g,o+k*14+8,none⟩=some (.slice s.a2 s.n2 s.c2)∧w.cell? ⟨g,o+k*14+9,none⟩=some (.slice s.a3 s.n3 s.c3)∧w.cell? ⟨g,o+k*14+10,none⟩=some (.slice s.a4 s.n4 s.c4)∧w.cell? ⟨g,o+k*14+11,none⟩=some (.bool s.has)∧w.cell? ⟨g,o+k*14+12,none⟩=some (.bool s.chain)∧w.cell? ⟨g,o+k*14+13,none⟩=some (.slice s.a5 s.n5 s.c5):=by
 obtain⟨hs,hx,hlen,_,hg,hc⟩:=T.rep_at 14 h hl (fun hs h hr=>all_s_len ha hs h hr) hk
 obtain⟨hE,kind,n,op,lab,xk,xn,xop,kids,xb,body,els,has,chain,cases,he,l1,l2,l3,l4,l5⟩:=ha.get hk
 rw[he]at hx
 obtain⟨_,rfl,_,rfl,_,rfl,_,rfl,xs,rs,rfl,⟨_,rfl,_,rfl,_,rfl,u1,_,rfl,h1,u2,_,rfl,h2,rfl⟩,u3,_,rfl,h3,u4,_,rfl,h4,_,rfl,_,rfl,u5,_,rfl,h5,rfl⟩:=hx
 obtain⟨a1,n1,c1,rfl,-⟩:=list_val (T.g_isList _ l1) h1
 obtain⟨a2,n2,c2,rfl,-⟩:=list_val (T.g_isList _ l2) h2
 obtain⟨a3,n3,c3,rfl,-⟩:=list_val (T.g_isList _ l3) h3
 obtain⟨a4,n4,c4,rfl,-⟩:=list_val (T.g_isList _ l4) h4
 obtain⟨a5,n5,c5,rfl,-⟩:=list_val (T.g_isList _ l5) h5
 exact⟨⟨kind,n,op,lab,xk,xn,xop,a1,n1,c1,a2,n2,c2,a3,n3,c3,a4,n4,c4,has,chain,a5,n5,c5⟩,kids,xb,body,els,cases,he,hE,hg,h1,h2,h3,h4,h5,hc 0 _ rfl,hc 1 _ rfl,hc 2 _ rfl,hc 3 _ rfl,hc 4 _ rfl,hc 5 _ rfl,hc 6 _ rfl,hc 7 _ rfl,hc 8 _ rfl,hc 9 _ rfl,hc 10 _ rfl,hc 11 _ rfl,hc 12 _ rfl,hc 13 _ rfl⟩
def ListN(w:World)(l:N)(e:Ending)(w':World):Prop :=
 ∃ (a:Option Addr) (n c:Nat),e=.returned (.slice a n c)∧Rep w' (fun b=>w.heap.size≤b) l.g [.slice a n c]∧Kept (fun _=>False) w w'
theorem stmts_N(l:T)(hl:l.isList)(hmax:l.len≤100000)(hall:l.All StmtX)(w:World)(D:Nat→Prop)(a3:Option Addr)(n3 c3:Nat)(h3:Rep w D l.g [.slice a3 n3 c3]) :
 Calls Tryz.prog 37 #[.slice a3 n3 c3] w (ListN w (l.N 0)):=by
 have hlen:=Rep.len_eq (T.g_isList _ hl) h3
 rw[T.g_len]at hlen
 have H3:=Lib.hid h3
 have Hall:=Lib.hid hall
 have Hlen:=Lib.hid hlen
 obtain⟨i0,hi,hz0,hz1,hz2⟩:=info_parts info_N
 have hn3:n3≤100000:=by omega
 clear h3 hall hlen
 have hs0:=RowI.start w
 go_enter Tryz.func37,Tryz.ntmps37
 go_wp2_with fail
 go_loopw [3,9] (fun v i wr=>∃ (k:Nat) (a:Option Addr) (cap:Nat),k≤n3∧v=.slice a k cap∧i=.int .i64 k∧RowI w (l.pre k) k a cap wr) (fun _ i _=>(n3-intOf i).toNat)
 case atStart=>exact⟨0,_,0,by omega,rfl,rfl,by rw[T.pre_zero];exact hs0⟩
 case round =>
  clear hs0
  obtain⟨k,a,cap,hk3,rfl,rfl,I⟩:=hrel
  by_cases hlt:(k:Int)<n3
  · obtain⟨g,o,rfl⟩:=slice_some (T.g_isList _ hl) H3.out (by omega)
    obtain⟨s,kids,xb,body,els,cases,he,hE,hg,h1,h2,h3,h4,h5,p0,p1,p2,p3,p4,p5,p6,p7,p8,p9,p10,p11,p12,p13⟩:=s_at (k:=k) H3.out hl Hall.out (by have:=Hlen.out;omega)
    have hxs:=I.kept.size
    have P0:=I.kept.cell p0 (by simp only[];omega)
    have P1:=I.kept.cell p1 (by simp only[];omega)
    have P2:=I.kept.cell p2 (by simp only[];omega)
    have P3:=I.kept.cell p3 (by simp only[];omega)
    have P4:=I.kept.cell p4 (by simp only[];omega)
    have P5:=I.kept.cell p5 (by simp only[];omega)
    have P6:=I.kept.cell p6 (by simp only[];omega)
    have P7:=I.kept.cell p7 (by simp only[];omega)
    have P8:=I.kept.cell p8 (by simp only[];omega)
    have P9:=I.kept.cell p9 (by simp only[];omega)
    have P10:=I.kept.cell p10 (by simp only[];omega)
    have P11:=I.kept.cell p11 (by simp only[];omega)
    have P12:=I.kept.cell p12 (by simp only[];omega)
    have P13:=I.kept.cell p13 (by simp only[];omega)
    have R:∀ {g:G} {vs:List Value} {o:Obj},Rep w D g vs→Rep (wr.alloc o) (fun b=>b<w.heap.size) g vs:=fun r=>(((r.imp (D':=fun b=>b<w.heap.size) fun b hl _=>hl).kept I.kept (fun b hb=>by omega)).kept (keptA (M:=fun _=>False)) (fun _ _ f=>f))
    have hE':=Lib.hid hE
    have he':=Lib.hid he
    have H1:=Lib.hid h1
    have H2:=Lib.hid h2
    have H3':=Lib.hid h3
    have H4:=Lib.hid h4
    have H5:=Lib.hid h5
    clear hE he h1 h2 h3 h4 h5
    go_wp2_with fail
    refine(hE'.out _ (fun b=>b<w.heap.size) s kids xb body els cases he'.out (R H1.out) (R H2.out) (R H3'.out) (R H4.out) (R H5.out)).mono ?_
    rintro e w2 ⟨k1,t1,i1,l1,m1,d1,rfl,R1,hk1⟩
    go_wp2_with (at_builtin;go_must (refine wpList_append_one (D:=fun b=>w.heap.size≤b) (base:=w.heap.size) (v:=.slice a k cap) rfl (.tmp 13) (.tmp 16) 28 rfl i0 _ 64 ul_sN hi hz0 hz1 hz2 rfl rfl (I.app keptA hk1 R1 _).1 k (by rw[N.g_len,I.len]) ⟨w2.heap.size,0,none⟩ 1 rfl _ _ rfl (new_cells _ _ _) one4 (I.app keptA hk1 R1 _).2.1 (by omega) (by omega) (by have:=(I.app keptA hk1 R1 (Obj.cells #[] 66)).2.2;simp;omega) ?_);intro g4 cap' w4 O4 K4 hb4 hg4)
    have I':=I.next (T.pre_isList _ _) keptA hk1 O4 K4
    rw[← T.pre_succ _ _ (by have:=Hlen.out;omega)]at I'
    go_roundw
    · exact⟨k+1,_,_,by omega,rfl,by go_num,I'⟩
    · simp[intOf];omega
  · go_wp2_with fail
    go_ret
    obtain rfl:k=l.len:=by have:=Hlen.out;omega
    have hI:=I.own.rep (D:=fun b=>w.heap.size≤b) (fun b h0 _=>h0)
    rw[T.pre_all _ hl]at hI
    exact⟨_,_,_,rfl,hI,(I.kept.mono (M':=fun b=>False∨w.heap.size≤b) fun b _ h=>.inr h).fresh (Nat.le_refl _)⟩
theorem block_N(l:T)(hl:l.isList)(hmax:l.len≤100000)(hall:l.All StmtX)(w:World)(D:Nat→Prop)(a3:Option Addr)(n3 c3:Nat)(h3:Rep w D l.g [.slice a3 n3 c3]) :
 Calls Tryz.prog 23 #[.slice a3 n3 c3] w (NodeP w (.block (l.N 0))):=by
 have H3:=Lib.hid h3
 have Hall:=Lib.hid hall
 clear h3 hall
 go_enter Tryz.func23,Tryz.ntmps23
 go_wp2_with fail
 refine(stmts_N l hl hmax Hall.out _ D a3 n3 c3 (H3.out.kept (keptA (M:=fun _=>False)) (fun _ _ f=>f))).mono ?_
 rintro e w1 ⟨a,n,c,rfl,R1,hk1⟩
 go_wp2_with fail
 refine(listOf_any _ _ _ _).mono ?_
 rintro e w2 ⟨rfl,hk2⟩
 go_wp2_with fail
 refine(part_any _ _ _ _ _).mono ?_
 rintro e w3 ⟨rfl,hk3⟩
 have k13:Kept (fun _=>False) w1 w3:=(hk2.trans keptA).trans hk3
 have oz:w3.heap[w.heap.size]?=some zeroN:=k13.obj (hk1.obj (heap_alloc_new w zeroN) (fun f=>f)) (fun f=>f)
 obtain⟨r0,r1,r2,r3,q0,q1,q2,q3⟩:=slot4 oz
 have z3:w.heap.size<w3.heap.size:=lt_of_heap oz
 go_wp2_with fail
 refine bodyPost_ret (v:=.agg #[.string kBlock,.string sE,.int .i64 0,.slice (some ⟨w2.heap.size,0,none⟩) 1 1]) (by simp[results,Tryz.results23,go_sem,kBlock,r0,r1,r2,r3,z3];done) rfl ?_
 have kF:∀ {u0 u1 u2 u3:Value},Kept (fun b=>b=w.heap.size) w3 ((((w3.setCell ⟨w.heap.size,0,none⟩ u0).setCell ⟨w.heap.size,1,none⟩ u1).setCell ⟨w.heap.size,2,none⟩ u2).setCell ⟨w.heap.size,3,none⟩ u3):=Kept.set4 (M:=fun b=>b=w.heap.size) rfl
 have s1:=hk1.size
 have s2:=hk2.size
 have s1':w.heap.size<w1.heap.size:=by simp at s1;omega
 refine⟨kBlock,sE,0,_,1,1,rfl,⟨_,rfl,_,rfl,_,rfl,_,_,rfl,rep_one (xs:=[_,_,_,_]) (kF.obj (hk3.obj (heap_alloc_new w2 _) (fun f=>f)) (by omega)) (by omega) ?_,rfl⟩,?_⟩
 · exact⟨_,rfl,_,rfl,_,rfl,_,_,rfl,((((R1.imp (D':=fun b=>w.heap.size<b) fun b _ hb=>by simp at hb;omega).kept k13 (fun _ _ f=>f)).kept kF (fun b hb=>by omega)).imp fun b _ hb=>by omega),rfl⟩
 · exact((((keptA.trans hk1).trans k13).mono (M':=fun b=>False∨w.heap.size≤b) fun _ _ f=>f.elim).trans (kF.mono fun b _ h=>.inr (by omega))).fresh (Nat.le_refl _)
theorem rep_three{w:World}{D:Nat→Prop}{r T0:Nat}{x y z:G}{xs ys zs:List Value}(hr:w.heap[r]?=some (.cells (xs++(ys++zs)).toArray T0 (0,0)))(hD:D r)(hx:Rep w D x xs)(hy:Rep w D y ys)(hz:Rep w D z zs) :
 Rep w D (.cons x (.cons y (.cons z .nil))) [.slice (some ⟨r,0,none⟩) 3 3]:=by
 refine RepL.slice hD (lt_of_heap hr) 0 3 3 (xs:=xs++(ys++zs)) ⟨xs,ys++zs,rfl,hx,ys,zs,rfl,hy,zs,[],by simp,hz,rfl⟩ rfl (by omega) fun j u hu=>?_
 simpa using cell_of_cells hr j hu
theorem rep_four{w:World}{D:Nat→Prop}{r T0:Nat}{x y z u:G}{xs ys zs us:List Value}(hr:w.heap[r]?=some (.cells (xs++(ys++(zs++us))).toArray T0 (0,0)))(hD:D r)(hx:Rep w D x xs)(hy:Rep w D y ys)(hz:Rep w D z zs)(hu:Rep w D u us) :
 Rep w D (.cons x (.cons y (.cons z (.cons u .nil)))) [.slice (some ⟨r,0,none⟩) 4 4]:=by
 refine RepL.slice hD (lt_of_heap hr) 0 4 4 (xs:=xs++(ys++(zs++us))) ⟨xs,ys++(zs++us),rfl,hx,ys,zs++us,rfl,hy,zs,us,rfl,hz,us,[],by simp,hu,rfl⟩ rfl (by omega) fun j u hu=>?_
 simpa using cell_of_cells hr j hu
theorem rep_none(w:World)(D:Nat→Prop):Rep w D Gc.N.none.g [.string sE,.string sE,.int .i64 0,.slice none 0 0]:=⟨_,rfl,_,rfl,_,rfl,_,_,rfl,⟨_,_,rfl⟩,rfl⟩
theorem expr_funN(n:Nat)(op:Str)(body:T)(hl:body.isList)(hmax:body.len≤100000)(hall:body.All StmtX):ExprN (.x 6 n op .nil body):=by
 intro w D v0 v1 v2 v3 v4 hr
 obtain⟨rfl,rfl,rfl,h3,h4⟩:=x_inv hr
 obtain⟨a3,n3,c3,rfl,-⟩:=list_val (T.g_isList _ (by trivial)) h3
 obtain⟨a4,n4,c4,rfl,-⟩:=list_val (T.g_isList _ hl) h4
 have H4:=Lib.hid h4
 have Hall:=Lib.hid hall
 clear hr h3 h4 hall
 show Calls Tryz.prog 98 #[.agg #[.int .i64 6,.int .i64 n,.string op,.slice a3 n3 c3,.slice a4 n4 c4]] w _
 go_enter Tryz.func98,Tryz.ntmps98
 go_upto_region 19 with fail
 obtain⟨W0,hW0⟩:∃ W0,W0=(w.alloc (.cells #[.int .i64 6,.int .i64 n,.string op,.slice a3 n3 c3,.slice a4 n4 c4] 64)).alloc zeroN:=⟨_,rfl⟩
 rw[← hW0]
 have K0:Kept (fun b=>b=w.heap.size+1) w W0:=by rw[hW0];exact keptA.trans keptA
 have ob:=hW0▸heap2_0 w _ zeroN
 have oz:W0.heap[w.heap.size+1]?=some zeroN:=hW0▸heap2_1 w _ zeroN
 obtain⟨x0,x1,x2,x3,x4,_⟩:=slot5 ob
 have z0:w.heap.size+1<W0.heap.size:=by rw[hW0];simp
 clear hW0
 have rule:∀ wx:World,Kept (fun b=>b=w.heap.size+1) W0 wx→wx.cell? ⟨w.heap.size,4,none⟩=some (.slice a4 n4 c4):=fun wx hk=>hk.cell x4 (by simp)
 have ozr:∀ wx:World,Kept (fun _=>False) W0 wx→wx.heap[w.heap.size+1]?=some zeroN:=fun wx hk=>hk.obj oz (fun f=>f)
 have kk:Kept (fun _=>False) W0 W0.drew:=keptD
 go_region_held3 (fun wx=>Kept (fun b=>b=w.heap.size+1) W0 wx) (first | assumption | exact keptD | exact Kept.trans (by assumption) keptA | exact Kept.trans (by assumption) (Kept.set4 (M:=fun b=>b=w.heap.size+1) rfl)) (first
  | (have _h:=RB;go_at_call 18;go_must (refine(part_any _ _ _ _ _).mono ?_);rintro e w9 ⟨rfl,hk⟩;have row3:=hk.obj (heap_alloc_new _ _) (fun f=>f);have kl:=keptA.trans (M:=fun _=>False) hk;have row1:=kl.obj row1 (fun f=>f);have row2:=kl.obj row2 (fun f=>f);have RB:=RB.kept kl (fun _ _ f=>f);have kk:=kk.trans kl;have hS:Kept (fun b=>b=w.heap.size+1) W0 w9:=kk.mono fun _ _ f=>f.elim;have oz9:=ozr _ kk;obtain⟨r0,r1,r2,r3,q0,q1,q2,q3⟩:=slot4 oz9;have z9:w.heap.size+1<w9.heap.size:=lt_of_heap oz9)
  | (go_at_call 23;go_must (refine(block_N body hl hmax Hall.out _ (fun b=>b<w.heap.size) _ _ _ ((H4.out.imp fun b hl _=>hl).kept (K0.trans (by assumption)) (fun b hb=>by omega))).mono ?_);rintro e w8 ⟨kb,tb,ib,ab,nb,cb,rfl,RB,hk⟩;have K78:=hk;have row1:=hk.obj row1 (fun f=>f);have row2:=hk.obj row2 (fun f=>f);have kk:=kk.trans hk;have hS:Kept (fun b=>b=w.heap.size+1) W0 w8:=kk.mono fun _ _ f=>f.elim)
  | (have _h:=row1;go_at_call 18;go_must (refine(part_any _ _ _ _ _).mono ?_);rintro e w7 ⟨rfl,hk⟩;have row2:=hk.obj (heap_alloc_new _ _) (fun f=>f);have kl:=keptA.trans (M:=fun _=>False) hk;have K57:=kl;have row1:=kl.obj row1 (fun f=>f);have kk:=kk.trans kl;have hS:Kept (fun b=>b=w.heap.size+1) W0 w7:=kk.mono fun _ _ f=>f.elim)
  | (go_at_call 18;go_must (refine(part_any _ _ _ _ _).mono ?_);rintro e w4 ⟨rfl,hk⟩;have row1:=hk.obj (heap_alloc_new _ _) (fun f=>f);have kl:=keptA.trans (M:=fun _=>False) hk;have K24:=kl;have kk:=kk.trans kl;have hS:Kept (fun b=>b=w.heap.size+1) W0 w4:=kk.mono fun _ _ f=>f.elim)
  | (have _h:=row1;go_at_call 21;go_must (refine(none_any _).mono ?_);rintro e w5 ⟨rfl,hk⟩;have K25:=K24.trans hk;have row1:=hk.obj row1 (fun f=>f);have kk:=kk.trans hk;have hS:Kept (fun b=>b=w.heap.size+1) W0 w5:=kk.mono fun _ _ f=>f.elim)
  | (go_at_call 21;go_must (refine(none_any _).mono ?_);rintro e w2 ⟨rfl,hk⟩;have kk:=kk.trans hk;have K2:=kk;have hS:Kept (fun b=>b=w.heap.size+1) W0 w2:=kk.mono fun _ _ f=>f.elim))
 go_wp2_with fail
 refine bodyPost_ret (v:=.agg #[.string kFuncLit,.string sE,.int .i64 0,.slice (some ⟨w8.heap.size,0,none⟩) 2 2]) (by simp[results,Tryz.results98,go_sem,kFuncLit,r0,r1,r2,r3,z9,(show w.heap.size<w9.heap.size by omega)];done) rfl ?_
 rw[show(T.x 6 n op .nil body).N 0=.part kFuncLit (.two .ftype (.block (body.N 0))) by simp[T.N]]
 have kF:∀ {u0 u1 u2 u3:Value},Kept (fun b=>b=w.heap.size+1) w9 ((((w9.setCell ⟨w.heap.size+1,0,none⟩ u0).setCell ⟨w.heap.size+1,1,none⟩ u1).setCell ⟨w.heap.size+1,2,none⟩ u2).setCell ⟨w.heap.size+1,3,none⟩ u3):=Kept.set4 (M:=fun b=>b=w.heap.size+1) rfl
 have y2:w.heap.size+1<w2.heap.size:=by have:=lt_of_heap oz;have:=(K2:Kept (fun _=>False) W0 w2).size;omega
 have y5:w2.heap.size≤w5.heap.size:=K25.size
 have y7:w5.heap.size≤w7.heap.size:=K57.size
 have y8:w7.heap.size≤w8.heap.size:=K78.size
 refine⟨kFuncLit,sE,0,_,2,2,rfl,⟨_,rfl,_,rfl,_,rfl,_,_,rfl,rep_two (xs:=[_,_,_,_]) (ys:=[_,_,_,_]) (kF.obj row3 (by omega)) (by omega) ?_ ?_,rfl⟩,?_⟩
 · refine⟨_,rfl,_,rfl,_,rfl,_,_,rfl,rep_three (xs:=[_,_,_,_]) (ys:=[_,_,_,_]) (zs:=[_,_,_,_]) (kF.obj row2 (by omega)) (by omega) (rep_none _ _) ?_ (rep_none _ _),rfl⟩
   exact⟨_,rfl,_,rfl,_,rfl,_,_,rfl,rep_one (xs:=[_,_,_,_]) (kF.obj row1 (by omega)) (by omega) (rep_none _ _),rfl⟩
 · exact(((RB.imp (D':=fun b=>w.heap.size+1<b) fun b _ hb=>by omega).kept kF (fun b hb=>by omega)).imp fun b _ hb=>by omega)
 · exact(((K0.trans (kk.mono fun _ _ f=>f.elim)).trans kF).mono (M':=fun b=>False∨w.heap.size≤b) fun b _ h=>.inr (by omega)).fresh (Nat.le_refl _)
theorem func_N(f:Str)(body:T)(hl:body.isList)(hmax:body.len≤100000)(hall:body.All StmtX)(w:World)(D:Nat→Prop)(a4:Option Addr)(n4 c4:Nat)(h4:Rep w D body.g [.slice a4 n4 c4]) :
 Calls Tryz.prog 9 #[.string f,.slice a4 n4 c4] w (NodeP w (N.func f (body.N 0))):=by
 have H4:=Lib.hid h4
 have Hall:=Lib.hid hall
 clear h4 hall
 go_enter Tryz.func9,Tryz.ntmps9
 go_upto_region 1 with fail
 obtain⟨W0,hW0⟩:∃ W0,W0=w.alloc zeroN:=⟨_,rfl⟩
 rw[← hW0]
 have K0:Kept (fun _=>False) w W0:=by rw[hW0];exact keptA
 have oz:W0.heap[w.heap.size]?=some zeroN:=hW0▸heap_alloc_new w zeroN
 have z0:w.heap.size<W0.heap.size:=by rw[hW0];simp
 clear hW0
 have ozr:∀ wx:World,Kept (fun _=>False) W0 wx→wx.heap[w.heap.size]?=some zeroN:=fun wx hk=>hk.obj oz (fun f=>f)
 have kk:Kept (fun _=>False) W0 W0:=Kept.refl _ _
 go_wp2_with (first
  | (have _h:=RB;go_at_call 18;go_must (refine(part_any _ _ _ _ _).mono ?_);rintro e w9 ⟨rfl,hk⟩;have row3:=hk.obj (heap_alloc_new _ _) (fun f=>f);have kl:=keptA.trans (M:=fun _=>False) hk;have row1:=kl.obj row1 (fun f=>f);have row2:=kl.obj row2 (fun f=>f);have RB:=RB.kept kl (fun _ _ f=>f);have kk:=kk.trans kl;have oz9:=ozr _ kk;obtain⟨r0,r1,r2,r3,q0,q1,q2,q3⟩:=slot4 oz9;have z9:w.heap.size<w9.heap.size:=lt_of_heap oz9)
  | (go_at_call 23;go_must (refine(block_N body hl hmax Hall.out _ D _ _ _ ((H4.out.kept K0 (fun _ _ f=>f)).kept kk (fun _ _ f=>f))).mono ?_);rintro e w8 ⟨kb,tb,ib,ab,nb,cb,rfl,RB,hk⟩;have K78:=hk;have row1:=hk.obj row1 (fun f=>f);have row2:=hk.obj row2 (fun f=>f);have kk:=kk.trans hk)
  | (have _h:=row1;go_at_call 18;go_must (refine(part_any _ _ _ _ _).mono ?_);rintro e w7 ⟨rfl,hk⟩;have row2:=hk.obj (heap_alloc_new _ _) (fun f=>f);have kl:=keptA.trans (M:=fun _=>False) hk;have K57:=kl;have row1:=kl.obj row1 (fun f=>f);have kk:=kk.trans kl)
  | (go_at_call 18;go_must (refine(part_any _ _ _ _ _).mono ?_);rintro e w4 ⟨rfl,hk⟩;have row1:=hk.obj (heap_alloc_new _ _) (fun f=>f);have kl:=keptA.trans (M:=fun _=>False) hk;have K24:=kl;have kk:=kk.trans kl)
  | (go_at_call 22;go_must (refine(name_any _ _ _).mono ?_);rintro e w3 ⟨rfl,hk⟩;have kk:=kk.trans hk)
  | (have _h:=row1;go_at_call 21;go_must (refine(none_any _).mono ?_);rintro e w5 ⟨rfl,hk⟩;have K25:=K24.trans hk;have row1:=hk.obj row1 (fun f=>f);have kk:=kk.trans hk)
  | (go_at_call 21;go_must (refine(none_any _).mono ?_);rintro e w2 ⟨rfl,hk⟩;have kk:=kk.trans hk;have K2:=kk))
 refine bodyPost_ret (v:=.agg #[.string kFuncDecl,.string sE,.int .i64 0,.slice (some ⟨w8.heap.size,0,none⟩) 4 4]) (by simp[results,Tryz.results9,go_sem,kFuncDecl,r0,r1,r2,r3,z9];done) rfl ?_
 have kF:∀ {u0 u1 u2 u3:Value},Kept (fun b=>b=w.heap.size) w9 ((((w9.setCell ⟨w.heap.size,0,none⟩ u0).setCell ⟨w.heap.size,1,none⟩ u1).setCell ⟨w.heap.size,2,none⟩ u2).setCell ⟨w.heap.size,3,none⟩ u3):=Kept.set4 (M:=fun b=>b=w.heap.size) rfl
 have y2:w.heap.size<w2.heap.size:=by have:=(K2:Kept (fun _=>False) W0 w2).size;omega
 have y5:w2.heap.size≤w5.heap.size:=K25.size
 have y7:w5.heap.size≤w7.heap.size:=K57.size
 have y8:w7.heap.size≤w8.heap.size:=K78.size
 refine⟨kFuncDecl,sE,0,_,4,4,rfl,⟨_,rfl,_,rfl,_,rfl,_,_,rfl,rep_four (xs:=[_,_,_,_]) (ys:=[_,_,_,_]) (zs:=[_,_,_,_]) (us:=[_,_,_,_]) (kF.obj row3 (by omega)) (by omega) (rep_none _ _) ?_ ?_ ?_,rfl⟩,?_⟩
 · exact⟨_,rfl,_,rfl,_,rfl,_,_,rfl,⟨_,_,rfl⟩,rfl⟩
 · refine⟨_,rfl,_,rfl,_,rfl,_,_,rfl,rep_three (xs:=[_,_,_,_]) (ys:=[_,_,_,_]) (zs:=[_,_,_,_]) (kF.obj row2 (by omega)) (by omega) (rep_none _ _) ?_ (rep_none _ _),rfl⟩
   exact⟨_,rfl,_,rfl,_,rfl,_,_,rfl,rep_one (xs:=[_,_,_,_]) (kF.obj row1 (by omega)) (by omega) (rep_none _ _),rfl⟩
 · exact(((RB.imp (D':=fun b=>w.heap.size<b) fun b _ hb=>by omega).kept kF (fun b hb=>by omega)).imp fun b _ hb=>by omega)
 · exact(((K0.trans kk).mono (M':=fun b=>False∨w.heap.size≤b) fun _ _ f=>f.elim).trans (kF.mono fun b _ h=>.inr (by omega))).fresh (Nat.le_refl _)
theorem digit8(r:Nat)(h:r<10):48≤(48+r).toUInt8.toNat∧(48+r).toUInt8.toNat≤57:=by
 have:r=0∨r=1∨r=2∨r=3∨r=4∨r=5∨r=6∨r=7∨r=8∨r=9:=by omega
 rcases this with rfl|rfl|rfl|rfl|rfl|rfl|rfl|rfl|rfl|rfl<;>decide
theorem dec_digit:∀ (m n:Nat),n≤m→∀ b∈dec n,48≤b.toNat∧b.toNat≤57:=by
 intro m
 induction m with
 | zero =>
   intro n hn b hb
   obtain rfl:n=0:=by omega
   rw[dec_lt (by decide)]at hb
   simp at hb
   subst hb
   decide
 | succ m ih =>
   intro n hn b hb
   by_cases h:n<10
   · rw[dec_lt h]at hb
     rw[List.mem_singleton.1 hb]
     exact digit8 n h
   · rw[dec_ge h]at hb
     rcases List.mem_append.1 hb with hb|hb
     · exact ih (n / 10) (by omega) b hb
     · rw[List.mem_singleton.1 hb]
       exact digit8 _ (Nat.mod_lt _ (by decide))
def pf(k j:Nat):Nat:=((dec k).take j).foldl (fun n b=>n*10+(b.toNat-48)) 0
theorem pf_succ(k j:Nat)(hj:j<(dec k).length):pf k (j+1)=pf k j*10+((dec k)[j].toNat-48):=by
 unfold pf
 rw[List.take_succ_eq_append_getElem hj,List.foldl_append]
 rfl
theorem pf_lt(k:Nat):∀ j,j≤(dec k).length→pf k j<10 ^ j
 | 0,_=>by simp[pf]
 | j+1,h=>by
   have:=pf_lt k j (by omega)
   have hd:=dec_digit k k (Nat.le_refl _) (dec k)[j] (List.getElem_mem _)
   rw[pf_succ k j (by omega),Nat.pow_succ]
   omega
theorem pf_all(k:Nat):pf k (dec k).length=labNum (lab k):=by
 unfold pf labNum lab strOf
 simp
theorem label_N(k:Nat)(hk:k≤1000)(w:World):Calls Tryz.prog 99 #[.string (lab k)] w (IsNode w kIdent (lab k) (50+labNum (lab k):Nat) none 0 0):=by
 have hdl:(dec k).length≤4:=dec_len 3 k (by omega)
 obtain⟨s,hs⟩:∃ s,s=lab k:=⟨_,rfl⟩
 have hsz0:s.size=(dec k).length+1:=by rw[hs];show(strOf (108 :: dec k)).size=_;rw[strOf_size];rfl
 have hsz:s.size≤5:=by omega
 have hsz1:1≤s.size:=by omega
 have hby:∀ (j:Nat) (h:j+1<s.size) (h':j<(dec k).length),s[j+1]=(dec k)[j]:=by
  subst hs
  intro j h h'
  rfl
 have Hs:=Lib.hid hs
 have Hz:=Lib.hid hsz0
 have Hby:=Lib.hid hby
 rw[← hs]
 clear hs hsz0 hby
 go_enter Tryz.func99,Tryz.ntmps99
 go_wp2_with fail
 go_loopw [3,4] (fun n i wr=>∃ (m j:Nat),n=.int .i64 m∧i=.int .i64 (j+1:Nat)∧j+1≤s.size∧RowKit.Hid (m=pf k j)∧m<10000∧wr=w.alloc zeroN) (fun _ i _=>((s.size:Int)-intOf i).toNat)
 case atStart=>exact⟨0,0,rfl,rfl,by omega,Lib.hid (by simp[pf]),by omega,rfl⟩
 case round =>
  obtain⟨m,j,rfl,rfl,h1,h4,h5,rfl⟩:=hrel
  by_cases hlt:((j+1:Nat):Int)<s.size
  · have hjl:j<(dec k).length:=by have:=Hz.out;omega
    have hd:=dec_digit k k (Nat.le_refl _) (dec k)[j] (List.getElem_mem _)
    rw[← Hby.out j (by omega) hjl]at hd
    go_wp2_with fail
    have e:(s[j+1]'(by omega))=(dec k)[j]:=Hby.out j (by omega) hjl
    have p1:=pf_succ k j hjl
    have p2:=pf_lt k (j+1) hjl
    have p3:10 ^ (j+1)≤10000:=by
     have:=Nat.pow_le_pow_right (n:=10) (by decide) (show j+1≤4 by omega)
     omega
    rw[← e]at p1
    have h4':=h4.out
    refine⟨⟨pf k (j+1),j+1,?_,?_,by omega,Lib.hid rfl,by omega,trivial⟩,?_⟩
    · congr 1
      omega
    · congr 1
    · simp[intOf]
      omega
  · go_wp2_with fail
    refine(name_any _ _ _).mono ?_
    rintro e w1 ⟨rfl,hk1⟩
    obtain⟨r0,r1,r2,r3,q0,q1,q2,q3⟩:=slot4 (hk1.obj (heap_alloc_new w zeroN) (fun f=>f))
    have z1:w.heap.size<w1.heap.size:=by have:=hk1.size;simp at this;omega
    go_wp2_with fail
    refine bodyPost_ret (v:=.agg #[.string kIdent,.string s,.int .i64 (50+m),.slice none 0 0]) (by simp[results,Tryz.results99,go_sem,r0,r1,r2,r3,z1];done) rfl ?_
    have e:m=labNum s:=by
     rw[h4.out,Hs.out,← pf_all]
     congr 1
     have:=Hz.out
     omega
    subst e
    exact⟨rfl,keptSet4 hk1⟩
end Go.Proofs.YtleolbpibjnedaaGreat
