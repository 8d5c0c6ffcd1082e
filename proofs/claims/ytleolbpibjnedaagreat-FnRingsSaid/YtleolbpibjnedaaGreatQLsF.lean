/- The laws' switches as syntax. -/
import Derived.Test.YtleolbpibjnedaaGreatQLsE
set_option linter.unusedSimpArgs false
set_option linter.unusedVariables false
set_option maxRecDepth 100000
set_option maxHeartbeats 4000000
namespace Go.Proofs.YtleolbpibjnedaaGreat
open Go Go.RowKit Gc
theorem stmt_switchN(nn:Nat)(op lb:Str)(xk xn:Nat)(xop:Str)(kids xb body els:T)(has chain:Bool)(cases:T)(hc:cases.isList)(hlen3:cases.len≤3)(hpos:1≤cases.len)(hall:cases.All CaseX)(hE:ExprN (.x xk xn xop kids xb)):StmtN (.s 6 nn op lb (.x xk xn xop kids xb) body els has chain cases):=by
 have Hall:=Lib.hid hall
 clear hall
 have hE':=Lib.hid hE
 clear hE
 intro w D s kids' xb' body' els' cases' e h1 h2 h3 h4 h5
 obtain⟨kind,nn,op,lb,xk,xn,xop,a1,n1,c1,a2,n2,c2,a3,n3,c3,a4,n4,c4,has,chain,a5,n5,c5⟩:=s
 simp only[T.s.injEq,T.x.injEq]at e
 obtain⟨rfl,rfl,rfl,rfl,⟨rfl,rfl,rfl,rfl,rfl⟩,rfl,rfl,rfl,rfl,rfl⟩:=e
 have hX:Rep w D (T.x xk xn xop kids xb).g [.int .i64 xk,.int .i64 xn,.string xop,.slice a1 n1 c1,.slice a2 n2 c2]:=⟨_,rfl,_,rfl,_,rfl,_,_,rfl,h1,_,_,rfl,h2,rfl⟩
 have HX:=Lib.hid hX
 have h5:Rep w D cases.g [.slice a5 n5 c5]:=h5
 have hn5:=Rep.len_eq (T.g_isList _ hc) h5
 rw[T.g_len]at hn5
 have Hlen:=Lib.hid hn5
 have hn5':n5≤3:=by omega
 have hn50:1≤n5:=by omega
 clear hn5
 have H3:=Lib.hid h3
 have H4:=Lib.hid h4
 have H5:=Lib.hid h5
 clear hX h1 h2 h3 h4 h5
 show Calls Tryz.prog 58 #[.agg #[.int .i64 6,.int .i64 nn,.string op,.string lb,.int .i64 xk,.int .i64 xn,.string xop,.slice a1 n1 c1,.slice a2 n2 c2,.slice a3 n3 c3,.slice a4 n4 c4,.bool has,.bool chain,.slice a5 n5 c5]] w _
 go_enter Tryz.func58,Tryz.ntmps58
 go_upto_region 18 with fail
 obtain⟨W0,hW0⟩:∃ W0,W0=(w.alloc (.cells #[.int .i64 6,.int .i64 nn,.string op,.string lb,.int .i64 xk,.int .i64 xn,.string xop,.slice a1 n1 c1,.slice a2 n2 c2,.slice a3 n3 c3,.slice a4 n4 c4,.bool has,.bool chain,.slice a5 n5 c5] 66)).alloc zeroN:=⟨_,rfl⟩
 rw[← hW0]
 have K0:Kept (fun _=>False) w W0:=by rw[hW0];exact keptA.trans keptA
 have ob:=hW0▸heap2_0 w _ zeroN
 have oz:W0.heap[w.heap.size+1]?=some zeroN:=hW0▸heap2_1 w _ zeroN
 obtain⟨x0,x1,x2,x3,x4,x5,x6,x7,x8,x9,x10,x11,x12,x13,y0,y1,y2,y3,y4,y5,y6,y7,y8,y9,y10,y11,y12,y13⟩:=slot14 ob
 have z0:w.heap.size+1<W0.heap.size:=by rw[hW0];simp
 clear hW0
 have ozr:∀ wx:World,Kept (fun _=>False) W0 wx→wx.heap[w.heap.size+1]?=some zeroN:=fun wx hk=>hk.obj oz (fun f=>f)
 obtain⟨i0,hi,hz0,hz1,hz2⟩:=info_parts info_N
 have hs0:=RowI.start W0
 have z1:w.heap.size<W0.heap.size:=by omega
 obtain⟨g,o,rfl⟩:=slice_some (T.g_isList _ hc) H5.out (by omega)
 go_wp2_with fail
 go_loopw [4,98] (fun v i wr=>∃ (k:Nat) (a:Option Addr) (cap:Nat),k≤n5∧v=.slice a k cap∧i=.int .i64 k∧RowI W0 (cases.cpre 0 k) k a cap wr) (fun _ i _=>(n5-intOf i).toNat)
 case atStart=>exact⟨0,_,0,by omega,rfl,rfl,by rw[T.cpre_zero];exact hs0⟩
 case round =>
  clear hs0
  obtain⟨k,a,cap,hk3,rfl,rfl,I⟩:=hrel
  have hxs:=I.kept.size
  by_cases hlt:(k:Int)<n5
  · obtain⟨ca,cn,cc,p0,hcr,hX,hg⟩:=c_at (k:=k) H5.out hc Hall.out (by have:=Hlen.out;omega)
    have K1:Kept (fun b=>w.heap.size+1<b) w wr:=(K0.mono fun _ _ f=>f.elim).trans (I.kept.mono fun b _ h=>by omega)
    have P0:=K1.cell p0 (by simp only[];omega)
    have X13:=I.kept.cell x13 (by simp only[];omega)
    have zr:w.heap.size<wr.heap.size:=by omega
    have zg:g<wr.heap.size:=by omega
    have Hcr:=Lib.hid hcr
    have HC:=Lib.hid hX
    have hk':=Lib.hid hk3
    have hn0:(0:Int)≤k:=by omega
    clear p0 hcr hX
    by_cases hla:(n5:Int)-1≤k
    · have hq:((k:Int) == (n5:Int)-1)=true:=by simp;omega
      go_wp2_with fail
      refine(listOf_any _ _ _ _).mono ?_
      rintro e w2 ⟨rfl,hk2⟩
      have row0:=hk2.obj (heap_alloc_new _ _) (fun f=>f)
      have hk0:Kept (fun _=>False) wr w2:=keptA.trans hk2
      have X13a:=hk0.cell X13 (fun f=>f)
      have P0a:=hk0.cell P0 (fun f=>f)
      have z2:w.heap.size<w2.heap.size:=by have:=hk0.size;omega
      have z2g:g<w2.heap.size:=by have:=hk0.size;omega
      have z2r:wr.heap.size<w2.heap.size:=lt_of_heap row0
      go_wp2_with fail
      refine(none_any _).mono ?_
      rintro e w3 ⟨rfl,hk3⟩
      have oo:=hk3.obj (heap_alloc_new _ _) (fun f=>f)
      obtain⟨u0,u1,u2,u3,v0,v1,v2,v3⟩:=slot4 oo
      have z7:w2.heap.size<w3.heap.size:=lt_of_heap oo
      go_upto_region 25 with fail
      obtain⟨W1,hW1⟩:∃ W1,W1=((((w3.setCell ⟨w2.heap.size,0,none⟩ (.string sE)).setCell ⟨w2.heap.size,1,none⟩ (.string sE)).setCell ⟨w2.heap.size,2,none⟩ (.int .i64 0)).setCell ⟨w2.heap.size,3,none⟩ (.slice none 0 0)):=⟨_,rfl⟩
      rw[← hW1]
      have KS:Kept (fun b=>b=w2.heap.size) w3 W1:=by rw[hW1];exact Kept.set4 (M:=fun b=>b=w2.heap.size) rfl
      have KW:Kept (fun _=>False) wr W1:=(((hk0.mono (M':=fun b=>False∨w2.heap.size≤b) fun _ _ f=>f.elim).trans ((keptA.trans hk3).mono (M':=fun b=>False∨w2.heap.size≤b) fun _ _ f=>f.elim)).trans (KS.mono fun b _ h=>.inr (by omega))).fresh hk0.size
      have oc:=hW1▸set4_cells oo
      have RO:Rep W1 (fun b=>wr.heap.size≤b) Gc.N.none.g [.string sE,.string sE,.int .i64 0,.slice none 0 0]:=rep_none _ _
      have zo:w2.heap.size<W1.heap.size:=lt_of_heap oc
      clear hW1
      have kk:Kept (fun _=>False) W1 W1.drew:=keptD
      obtain⟨e0,e1,e2,e3,-⟩:=slot4 oc
      have rule:∀ wx:World,Kept (fun b=>b≠w2.heap.size) W1 wx→wx.cell? ⟨w2.heap.size,0,none⟩=some (.string sE)∧wx.cell? ⟨w2.heap.size,1,none⟩=some (.string sE)∧wx.cell? ⟨w2.heap.size,2,none⟩=some (.int .i64 0)∧wx.cell? ⟨w2.heap.size,3,none⟩=some (.slice none 0 0):=fun wx hk =>
       ⟨hk.cell e0 (by simp),hk.cell e1 (by simp),hk.cell e2 (by simp),hk.cell e3 (by simp)⟩
      go_region_held3 (fun wx=>Kept (fun b=>b≠w2.heap.size) W1 wx) (first | assumption | exact keptD | exact Kept.trans (by assumption) keptA) (first
       | (have _h:=R5;refine step_append_one (D:=fun b=>W0.heap.size≤b) (base:=W0.heap.size) (v:=.slice a k cap) rfl (.tmp 117) (.tmp 124) 28 rfl i0 _ 64 ul_sN hi hz0 hz1 hz2 rfl rfl (I.app (Kept.refl _ _) kA R5 _).1 k (by rw[N.g_len,I.len]) ⟨w5.heap.size,0,none⟩ 1 rfl _ _ rfl (new_cells _ _ _) one4 (I.app (Kept.refl _ _) kA R5 _).2.1 (by omega) (by omega) (by have:=(I.app (Kept.refl _ _) kA R5 (Obj.cells #[] 66)).2.2;simp;omega) ?_;intro g4 cap' wz O4 K4 hb4 hg4;have hS:Kept (fun b=>b≠w2.heap.size) W1 wz:=Kept.trans (by assumption) (keptA.trans (K4.mono fun b _ e e'=>by have:=I.own.lt b e.symm;omega)))
       | (go_at_call 37;go_must (refine(stmts_N _ HC.out.1 HC.out.2.1 HC.out.2.2 _ (fun b=>b<w.heap.size) _ _ _ ((((Hcr.out.imp fun b hl _=>hl).kept K1 (fun b hb=>by omega)).kept (KW.trans kk) (fun _ _ f=>f)))).mono ?_);rintro e w7 ⟨a7,n7,c7,rfl,RS,hk⟩;have RS':=RS.imp (D':=fun b=>w2.heap.size<b) (fun b _ hb=>by have:=kk.size;omega);have kk:=kk.trans hk;have hS:Kept (fun b=>b≠w2.heap.size) W1 w7:=kk.mono fun _ _ f=>f.elim)
       | (go_at_call 36;go_must (refine(listOf_any _ _ _ _).mono ?_);rintro e w8 ⟨rfl,hk⟩;have RS':=RS'.kept hk (fun _ _ f=>f);have kk:=kk.trans hk;have kk8:=kk;have hS:Kept (fun b=>b≠w2.heap.size) W1 w8:=kk.mono fun _ _ f=>f.elim)
       | (go_at_call 18;go_must (refine(part_any _ _ _ _ _).mono ?_);rintro e w5 ⟨rfl,hk⟩;have row2:=hk.obj (heap_alloc_new _ _) (fun f=>f);have kl:=keptA.trans (M:=fun _=>False) hk;have RS':=RS'.kept kl (fun _ _ f=>f);have kk:=kk.trans kl;have kA:Kept (fun _=>False) wr w5:=KW.trans kk;have hS:Kept (fun b=>b≠w2.heap.size) W1 w5:=kk.mono fun _ _ f=>f.elim;have y8:W1.heap.size≤w8.heap.size:=kk8.size;have R5:Rep w5 (fun b=>wr.heap.size≤b) (Gc.N.clause (0+2*k) true ((cases.get k).N 0)).g [.string kCase,.string sE,.int .i64 0,.slice (some ⟨w8.heap.size,0,none⟩) 2 2]:=clause_repswitch row2 (by omega) (RO.kept kk (fun _ _ f=>f)) (RS'.imp fun b _ hb=>by omega)))
      go_wp2_with fail
      have I':=I.next (T.cpre_isList _ _ _) (Kept.refl _ _) kA O4 K4
      rw[show true=decide (k+1=cases.len) by simp;have:=Hlen.out;omega,← T.cpre_succ _ _ _ hc (by have:=Hlen.out;omega)]at I'
      go_roundw
      · exact⟨k+1,_,_,by omega,rfl,by go_num,I'⟩
      · simp[intOf];omega
    · have hq:((k:Int) == (n5:Int)-1)=false:=by simp;omega
      go_wp2_with fail
      refine(listOf_any _ _ _ _).mono ?_
      rintro e w2 ⟨rfl,hk2⟩
      have row0:=hk2.obj (heap_alloc_new _ _) (fun f=>f)
      have hk0:Kept (fun _=>False) wr w2:=keptA.trans hk2
      have X13a:=hk0.cell X13 (fun f=>f)
      have P0a:=hk0.cell P0 (fun f=>f)
      have z2:w.heap.size<w2.heap.size:=by have:=hk0.size;omega
      have z2g:g<w2.heap.size:=by have:=hk0.size;omega
      have z2r:wr.heap.size<w2.heap.size:=lt_of_heap row0
      go_upto_region 25 with fail
      obtain⟨W1,hW1⟩:∃ W1,W1=w2.alloc (.cells #[.string kList,.string sE,.int .i64 0,.slice (some ⟨wr.heap.size,0,none⟩) 1 1] 30):=⟨_,rfl⟩
      rw[← hW1]
      have KW:Kept (fun _=>False) wr W1:=by rw[hW1];exact hk0.trans keptA
      have oc:=hW1▸heap_alloc_new w2 (.cells #[.string kList,.string sE,.int .i64 0,.slice (some ⟨wr.heap.size,0,none⟩) 1 1] 30)
      have RO:Rep W1 (fun b=>wr.heap.size≤b) (Gc.N.list (.one (.lit (1+k)))).g [.string kList,.string sE,.int .i64 0,.slice (some ⟨wr.heap.size,0,none⟩) 1 1]:=by
       refine⟨_,rfl,_,rfl,_,rfl,_,_,rfl,rep_one (xs:=[_,_,_,_]) (by rw[hW1];exact keptA.obj (M:=fun _=>False) row0 (fun f=>f)) (Nat.le_refl _) ?_,rfl⟩
       have e:=enc_digit (1+k) (by have:=hk'.out;omega)
       rw[show(48:Int)+((1+k:Nat):Int)=49+(k:Int) by omega]at e
       rw[e]
       exact⟨_,rfl,_,rfl,_,rfl,_,_,rfl,⟨_,_,rfl⟩,rfl⟩
      have zo:w2.heap.size<W1.heap.size:=lt_of_heap oc
      clear hW1
      have kk:Kept (fun _=>False) W1 W1.drew:=keptD
      obtain⟨e0,e1,e2,e3,-⟩:=slot4 oc
      have rule:∀ wx:World,Kept (fun b=>b≠w2.heap.size) W1 wx→wx.cell? ⟨w2.heap.size,0,none⟩=some (.string kList)∧wx.cell? ⟨w2.heap.size,1,none⟩=some (.string sE)∧wx.cell? ⟨w2.heap.size,2,none⟩=some (.int .i64 0)∧wx.cell? ⟨w2.heap.size,3,none⟩=some (.slice (some ⟨wr.heap.size,0,none⟩) 1 1):=fun wx hk =>
       ⟨hk.cell e0 (by simp),hk.cell e1 (by simp),hk.cell e2 (by simp),hk.cell e3 (by simp)⟩
      go_region_held3 (fun wx=>Kept (fun b=>b≠w2.heap.size) W1 wx) (first | assumption | exact keptD | exact Kept.trans (by assumption) keptA) (first
       | (have _h:=R5;refine step_append_one (D:=fun b=>W0.heap.size≤b) (base:=W0.heap.size) (v:=.slice a k cap) rfl (.tmp 117) (.tmp 124) 28 rfl i0 _ 64 ul_sN hi hz0 hz1 hz2 rfl rfl (I.app (Kept.refl _ _) kA R5 _).1 k (by rw[N.g_len,I.len]) ⟨w5.heap.size,0,none⟩ 1 rfl _ _ rfl (new_cells _ _ _) one4 (I.app (Kept.refl _ _) kA R5 _).2.1 (by omega) (by omega) (by have:=(I.app (Kept.refl _ _) kA R5 (Obj.cells #[] 66)).2.2;simp;omega) ?_;intro g4 cap' wz O4 K4 hb4 hg4;have hS:Kept (fun b=>b≠w2.heap.size) W1 wz:=Kept.trans (by assumption) (keptA.trans (K4.mono fun b _ e e'=>by have:=I.own.lt b e.symm;omega)))
       | (go_at_call 37;go_must (refine(stmts_N _ HC.out.1 HC.out.2.1 HC.out.2.2 _ (fun b=>b<w.heap.size) _ _ _ ((((Hcr.out.imp fun b hl _=>hl).kept K1 (fun b hb=>by omega)).kept (KW.trans kk) (fun _ _ f=>f)))).mono ?_);rintro e w7 ⟨a7,n7,c7,rfl,RS,hk⟩;have RS':=RS.imp (D':=fun b=>w2.heap.size<b) (fun b _ hb=>by have:=kk.size;omega);have kk:=kk.trans hk;have hS:Kept (fun b=>b≠w2.heap.size) W1 w7:=kk.mono fun _ _ f=>f.elim)
       | (go_at_call 36;go_must (refine(listOf_any _ _ _ _).mono ?_);rintro e w8 ⟨rfl,hk⟩;have RS':=RS'.kept hk (fun _ _ f=>f);have kk:=kk.trans hk;have kk8:=kk;have hS:Kept (fun b=>b≠w2.heap.size) W1 w8:=kk.mono fun _ _ f=>f.elim)
       | (go_at_call 18;go_must (refine(part_any _ _ _ _ _).mono ?_);rintro e w5 ⟨rfl,hk⟩;have row2:=hk.obj (heap_alloc_new _ _) (fun f=>f);have kl:=keptA.trans (M:=fun _=>False) hk;have RS':=RS'.kept kl (fun _ _ f=>f);have kk:=kk.trans kl;have kA:Kept (fun _=>False) wr w5:=KW.trans kk;have hS:Kept (fun b=>b≠w2.heap.size) W1 w5:=kk.mono fun _ _ f=>f.elim;have y8:W1.heap.size≤w8.heap.size:=kk8.size;have R5:Rep w5 (fun b=>wr.heap.size≤b) (Gc.N.clause (0+2*k) false ((cases.get k).N 0)).g [.string kCase,.string sE,.int .i64 0,.slice (some ⟨w8.heap.size,0,none⟩) 2 2]:=clause_repswitch row2 (by omega) (RO.kept kk (fun _ _ f=>f)) (RS'.imp fun b _ hb=>by omega)))
      go_wp2_with fail
      have I':=I.next (T.cpre_isList _ _ _) (Kept.refl _ _) kA O4 K4
      rw[show false=decide (k+1=cases.len) by simp;have:=Hlen.out;omega,← T.cpre_succ _ _ _ hc (by have:=Hlen.out;omega)]at I'
      go_roundw
      · exact⟨k+1,_,_,by omega,rfl,by go_num,I'⟩
      · simp[intOf];omega
  · obtain rfl:k=n5:=by omega
    have hI:=I.own.rep (D:=fun b=>W0.heap.size≤b) (fun b h0 _=>h0)
    have hI:Rep wr (fun b=>W0.heap.size≤b) (cases.N 1).g [.slice a k cap]:=by
     have kall:=Hlen.out
     have e:=T.cpre_all cases 0 hc
     rw[← kall]at e
     rw[← e]
     exact hI
    have ozr1:∀ wx:World,Kept (fun _=>False) wr wx→wx.heap[w.heap.size+1]?=some zeroN:=fun wx hk=>hk.obj (I.kept.obj oz (by omega)) (fun f=>f)
    have Y4:=I.kept.cell x4 (by simp only[];omega)
    have Y5:=I.kept.cell x5 (by simp only[];omega)
    have Y6:=I.kept.cell x6 (by simp only[];omega)
    have Y7:=I.kept.cell x7 (by simp only[];omega)
    have Y8:=I.kept.cell x8 (by simp only[];omega)
    have K1:Kept (fun b=>w.heap.size+1≤b) w wr:=(K0.mono fun _ _ f=>f.elim).trans (I.kept.mono fun b _ h=>by omega)
    have rule:∀ wx:World,Kept (fun b=>b=w.heap.size+1) wr wx→wx.cell? ⟨w.heap.size,4,none⟩=some (.int .i64 xk)∧wx.cell? ⟨w.heap.size,5,none⟩=some (.int .i64 xn)∧wx.cell? ⟨w.heap.size,6,none⟩=some (.string xop)∧wx.cell? ⟨w.heap.size,7,none⟩=some (.slice a1 n1 c1)∧wx.cell? ⟨w.heap.size,8,none⟩=some (.slice a2 n2 c2):=fun wx hk =>
     ⟨hk.cell Y4 (by simp),hk.cell Y5 (by simp),hk.cell Y6 (by simp),hk.cell Y7 (by simp),hk.cell Y8 (by simp)⟩
    have kk:Kept (fun _=>False) wr wr.drew:=keptD
    have zr:w.heap.size+1<wr.heap.size:=by omega
    go_upto_region 27 with fail
    go_region_held3 (fun wx=>Kept (fun b=>b=w.heap.size+1) wr wx) (first | assumption | exact keptD | exact Kept.trans (by assumption) keptA | exact Kept.trans (by assumption) (Kept.set4 (M:=fun b=>b=w.heap.size+1) rfl) | exact Kept.trans (by assumption) ((Kept.set4 (M:=fun b=>b=w.heap.size+1) rfl).trans keptA)) (first
     | (have _h:=rowB;go_at_call 18;go_must (refine(part_any _ _ _ _ _).mono ?_);rintro e w9 ⟨rfl,hk⟩;have row3:=hk.obj (heap_alloc_new _ _) (fun f=>f);have kl:=keptA.trans (M:=fun _=>False) hk;have rowB:=kl.obj rowB (fun f=>f);have R1':=R1'.kept kl (fun _ _ f=>f);have kk8:=kk;have kk:=kk.trans kl;have hS:Kept (fun b=>b=w.heap.size+1) wr w9:=kk.mono fun _ _ f=>f.elim;obtain⟨r0,r1,r2,r3,q0,q1,q2,q3⟩:=slot4 (ozr1 _ kk);have z9:w.heap.size+1<w9.heap.size:=lt_of_heap (ozr1 _ kk);have z8:w.heap.size<w9.heap.size:=by omega)
     | (go_at_call 18;go_must (refine(part_any _ _ _ _ _).mono ?_);rintro e w8 ⟨rfl,hk⟩;have rowB:=hk.obj (heap_alloc_new _ _) (fun f=>f);have kl:=keptA.trans (M:=fun _=>False) hk;have R1':=R1'.kept kl (fun _ _ f=>f);have kk7:=kk;have kk:=kk.trans kl;have hS:Kept (fun b=>b=w.heap.size+1) wr w8:=kk.mono fun _ _ f=>f.elim)
     | (go_at_call 36;go_must (refine(listOf_any _ _ _ _).mono ?_);rintro e w7 ⟨rfl,hk⟩;have R1':=R1'.kept hk (fun _ _ f=>f);have kk:=kk.trans hk;have hS:Kept (fun b=>b=w.heap.size+1) wr w7:=kk.mono fun _ _ f=>f.elim)
     | (go_at_call 98;go_must (refine(hE'.out _ (fun b=>b<w.heap.size) _ _ _ _ _ ((HX.out.imp fun b hl _=>hl).kept (K1.trans ((by assumption:Kept (fun b=>b=w.heap.size+1) wr _).mono fun b _ h=>by omega)) (fun b hb=>by omega))).mono ?_);rintro e w4 ⟨k1,t1,i1,l1,m1,d1,rfl,R1,hk⟩;have R1':=R1.imp (D':=fun b=>w.heap.size+1<b) (fun b _ hb=>by have:=kk.size;omega);have kk:=kk.trans hk;have hS:Kept (fun b=>b=w.heap.size+1) wr w4:=kk.mono fun _ _ f=>f.elim)
     | (go_at_call 21;go_must (refine(none_any _).mono ?_);rintro e wn ⟨rfl,hk⟩;have kk:=kk.trans hk;have hS:Kept (fun b=>b=w.heap.size+1) wr wn:=kk.mono fun _ _ f=>f.elim))
    go_wp2_with fail
    refine bodyPost_ret (v:=.agg #[.string kSwitch,.string sE,.int .i64 0,.slice (some ⟨w8.heap.size,0,none⟩) 3 3]) (by simp[results,Tryz.results58,go_sem,kSwitch,r0,r1,r2,r3,z9,z8];done) rfl ?_
    rw[show(T.s 6 nn op lb (.x xk xn xop kids xb) body els has chain cases).N 0=.part kSwitch (.three .none ((T.x xk xn xop kids xb).N 0) (.part kBlock (.one (.list (cases.N 1))))) by simp[T.N]]
    have kF:∀ {u0 u1 u2 u3:Value},Kept (fun b=>b=w.heap.size+1) w9 ((((w9.setCell ⟨w.heap.size+1,0,none⟩ u0).setCell ⟨w.heap.size+1,1,none⟩ u1).setCell ⟨w.heap.size+1,2,none⟩ u2).setCell ⟨w.heap.size+1,3,none⟩ u3):=Kept.set4 (M:=fun b=>b=w.heap.size+1) rfl
    have y8:wr.heap.size≤w8.heap.size:=kk8.size
    have y7:wr.heap.size≤w7.heap.size:=kk7.size
    refine⟨kSwitch,sE,0,_,3,3,rfl,⟨_,rfl,_,rfl,_,rfl,_,_,rfl,rep_three (xs:=[_,_,_,_]) (ys:=[_,_,_,_]) (zs:=[_,_,_,_]) (kF.obj row3 (by omega)) (by omega) (rep_none _ _) ((R1'.kept kF (fun b hb=>by omega)).imp fun b _ hb=>by omega) ?_,rfl⟩,?_⟩
    · refine⟨_,rfl,_,rfl,_,rfl,_,_,rfl,rep_one (xs:=[_,_,_,_]) (kF.obj rowB (by omega)) (by omega) ?_,rfl⟩
      refine⟨_,rfl,_,rfl,_,rfl,_,_,rfl,?_,rfl⟩
      exact((((hI.imp (D':=fun b=>w.heap.size+1<b) fun b _ hb=>by omega).kept kk (fun _ _ f=>f)).kept kF (fun b hb=>by omega)).imp fun b _ hb=>by omega)
    · exact((((K0.mono fun _ _ f=>f.elim).trans (I.kept.mono (M':=fun b=>False∨w.heap.size≤b) fun b _ h=>.inr (by omega))).trans (kk.mono fun _ _ f=>f.elim)).trans (kF.mono fun b _ h=>.inr (by omega))).fresh (Nat.le_refl _)
theorem stmt_selectN(nn:Nat)(op lb:Str)(xk xn:Nat)(xop:Str)(kids xb body els:T)(has chain:Bool)(cases:T)(hc:cases.isList)(hlen3:cases.len≤3)(hpos:1≤cases.len)(hall:cases.All CaseX):StmtN (.s 7 nn op lb (.x xk xn xop kids xb) body els has chain cases):=by
 have Hall:=Lib.hid hall
 clear hall
 intro w D s kids' xb' body' els' cases' e h1 h2 h3 h4 h5
 obtain⟨kind,nn,op,lb,xk,xn,xop,a1,n1,c1,a2,n2,c2,a3,n3,c3,a4,n4,c4,has,chain,a5,n5,c5⟩:=s
 simp only[T.s.injEq,T.x.injEq]at e
 obtain⟨rfl,rfl,rfl,rfl,⟨rfl,rfl,rfl,rfl,rfl⟩,rfl,rfl,rfl,rfl,rfl⟩:=e
 have hX:Rep w D (T.x xk xn xop kids xb).g [.int .i64 xk,.int .i64 xn,.string xop,.slice a1 n1 c1,.slice a2 n2 c2]:=⟨_,rfl,_,rfl,_,rfl,_,_,rfl,h1,_,_,rfl,h2,rfl⟩
 have HX:=Lib.hid hX
 have h5:Rep w D cases.g [.slice a5 n5 c5]:=h5
 have hn5:=Rep.len_eq (T.g_isList _ hc) h5
 rw[T.g_len]at hn5
 have Hlen:=Lib.hid hn5
 have hn5':n5≤3:=by omega
 have hn50:1≤n5:=by omega
 clear hn5
 have H3:=Lib.hid h3
 have H4:=Lib.hid h4
 have H5:=Lib.hid h5
 clear hX h1 h2 h3 h4 h5
 show Calls Tryz.prog 58 #[.agg #[.int .i64 7,.int .i64 nn,.string op,.string lb,.int .i64 xk,.int .i64 xn,.string xop,.slice a1 n1 c1,.slice a2 n2 c2,.slice a3 n3 c3,.slice a4 n4 c4,.bool has,.bool chain,.slice a5 n5 c5]] w _
 go_enter Tryz.func58,Tryz.ntmps58
 go_upto_region 29 with fail
 obtain⟨W0,hW0⟩:∃ W0,W0=(w.alloc (.cells #[.int .i64 7,.int .i64 nn,.string op,.string lb,.int .i64 xk,.int .i64 xn,.string xop,.slice a1 n1 c1,.slice a2 n2 c2,.slice a3 n3 c3,.slice a4 n4 c4,.bool has,.bool chain,.slice a5 n5 c5] 66)).alloc zeroN:=⟨_,rfl⟩
 rw[← hW0]
 have K0:Kept (fun _=>False) w W0:=by rw[hW0];exact keptA.trans keptA
 have ob:=hW0▸heap2_0 w _ zeroN
 have oz:W0.heap[w.heap.size+1]?=some zeroN:=hW0▸heap2_1 w _ zeroN
 obtain⟨x0,x1,x2,x3,x4,x5,x6,x7,x8,x9,x10,x11,x12,x13,y0,y1,y2,y3,y4,y5,y6,y7,y8,y9,y10,y11,y12,y13⟩:=slot14 ob
 have z0:w.heap.size+1<W0.heap.size:=by rw[hW0];simp
 clear hW0
 have ozr:∀ wx:World,Kept (fun _=>False) W0 wx→wx.heap[w.heap.size+1]?=some zeroN:=fun wx hk=>hk.obj oz (fun f=>f)
 obtain⟨i0,hi,hz0,hz1,hz2⟩:=info_parts info_N
 have hs0:=RowI.start W0
 have z1:w.heap.size<W0.heap.size:=by omega
 obtain⟨g,o,rfl⟩:=slice_some (T.g_isList _ hc) H5.out (by omega)
 go_wp2_with fail
 go_loopw [8,143] (fun v i wr=>∃ (k:Nat) (a:Option Addr) (cap:Nat),k≤n5∧v=.slice a k cap∧i=.int .i64 k∧RowI W0 (cases.cpre 1 k) k a cap wr) (fun _ i _=>(n5-intOf i).toNat)
 case atStart=>exact⟨0,_,0,by omega,rfl,rfl,by rw[T.cpre_zero];exact hs0⟩
 case round =>
  clear hs0
  obtain⟨k,a,cap,hk3,rfl,rfl,I⟩:=hrel
  have hxs:=I.kept.size
  by_cases hlt:(k:Int)<n5
  · obtain⟨ca,cn,cc,p0,hcr,hX,hg⟩:=c_at (k:=k) H5.out hc Hall.out (by have:=Hlen.out;omega)
    have K1:Kept (fun b=>w.heap.size+1<b) w wr:=(K0.mono fun _ _ f=>f.elim).trans (I.kept.mono fun b _ h=>by omega)
    have P0:=K1.cell p0 (by simp only[];omega)
    have X13:=I.kept.cell x13 (by simp only[];omega)
    have zr:w.heap.size<wr.heap.size:=by omega
    have zg:g<wr.heap.size:=by omega
    have Hcr:=Lib.hid hcr
    have HC:=Lib.hid hX
    have hk':=Lib.hid hk3
    have hn0:(0:Int)≤k:=by omega
    clear p0 hcr hX
    by_cases hla:(n5:Int)-1≤k
    · have hq:((k:Int) == (n5:Int)-1)=true:=by simp;omega
      go_wp2_with fail
      refine(none_any _).mono ?_
      rintro e w2 ⟨rfl,hk0⟩
      have X13a:=hk0.cell X13 (fun f=>f)
      have P0a:=hk0.cell P0 (fun f=>f)
      have z2:w.heap.size<w2.heap.size:=by have:=hk0.size;omega
      have z2g:g<w2.heap.size:=by have:=hk0.size;omega
      have z2r:wr.heap.size≤w2.heap.size:=hk0.size
      go_upto_region 36 with fail
      obtain⟨W1,hW1⟩:∃ W1,W1=w2.alloc (.cells #[.string sE,.string sE,.int .i64 0,.slice none 0 0] 30):=⟨_,rfl⟩
      rw[← hW1]
      have KW:Kept (fun _=>False) wr W1:=by rw[hW1];exact hk0.trans keptA
      have oc:=hW1▸heap_alloc_new w2 (.cells #[.string sE,.string sE,.int .i64 0,.slice none 0 0] 30)
      have RO:Rep W1 (fun b=>wr.heap.size≤b) Gc.N.none.g [.string sE,.string sE,.int .i64 0,.slice none 0 0]:=rep_none _ _
      have zo:w2.heap.size<W1.heap.size:=lt_of_heap oc
      clear hW1
      have kk:Kept (fun _=>False) W1 W1.drew:=keptD
      obtain⟨e0,e1,e2,e3,-⟩:=slot4 oc
      have rule:∀ wx:World,Kept (fun b=>b≠w2.heap.size) W1 wx→wx.cell? ⟨w2.heap.size,0,none⟩=some (.string sE)∧wx.cell? ⟨w2.heap.size,1,none⟩=some (.string sE)∧wx.cell? ⟨w2.heap.size,2,none⟩=some (.int .i64 0)∧wx.cell? ⟨w2.heap.size,3,none⟩=some (.slice none 0 0):=fun wx hk =>
       ⟨hk.cell e0 (by simp),hk.cell e1 (by simp),hk.cell e2 (by simp),hk.cell e3 (by simp)⟩
      go_region_held3 (fun wx=>Kept (fun b=>b≠w2.heap.size) W1 wx) (first | assumption | exact keptD | exact Kept.trans (by assumption) keptA) (first
       | (have _h:=R5;refine step_append_one (D:=fun b=>W0.heap.size≤b) (base:=W0.heap.size) (v:=.slice a k cap) rfl (.tmp 160) (.tmp 167) 28 rfl i0 _ 64 ul_sN hi hz0 hz1 hz2 rfl rfl (I.app (Kept.refl _ _) kA R5 _).1 k (by rw[N.g_len,I.len]) ⟨w5.heap.size,0,none⟩ 1 rfl _ _ rfl (new_cells _ _ _) one4 (I.app (Kept.refl _ _) kA R5 _).2.1 (by omega) (by omega) (by have:=(I.app (Kept.refl _ _) kA R5 (Obj.cells #[] 66)).2.2;simp;omega) ?_;intro g4 cap' wz O4 K4 hb4 hg4;have hS:Kept (fun b=>b≠w2.heap.size) W1 wz:=Kept.trans (by assumption) (keptA.trans (K4.mono fun b _ e e'=>by have:=I.own.lt b e.symm;omega)))
       | (go_at_call 37;go_must (refine(stmts_N _ HC.out.1 HC.out.2.1 HC.out.2.2 _ (fun b=>b<w.heap.size) _ _ _ ((((Hcr.out.imp fun b hl _=>hl).kept K1 (fun b hb=>by omega)).kept (KW.trans kk) (fun _ _ f=>f)))).mono ?_);rintro e w7 ⟨a7,n7,c7,rfl,RS,hk⟩;have RS':=RS.imp (D':=fun b=>w2.heap.size<b) (fun b _ hb=>by have:=kk.size;omega);have kk:=kk.trans hk;have hS:Kept (fun b=>b≠w2.heap.size) W1 w7:=kk.mono fun _ _ f=>f.elim)
       | (go_at_call 36;go_must (refine(listOf_any _ _ _ _).mono ?_);rintro e w8 ⟨rfl,hk⟩;have RS':=RS'.kept hk (fun _ _ f=>f);have kk:=kk.trans hk;have kk8:=kk;have hS:Kept (fun b=>b≠w2.heap.size) W1 w8:=kk.mono fun _ _ f=>f.elim)
       | (go_at_call 18;go_must (refine(part_any _ _ _ _ _).mono ?_);rintro e w5 ⟨rfl,hk⟩;have row2:=hk.obj (heap_alloc_new _ _) (fun f=>f);have kl:=keptA.trans (M:=fun _=>False) hk;have RS':=RS'.kept kl (fun _ _ f=>f);have kk:=kk.trans kl;have kA:Kept (fun _=>False) wr w5:=KW.trans kk;have hS:Kept (fun b=>b≠w2.heap.size) W1 w5:=kk.mono fun _ _ f=>f.elim;have y8:W1.heap.size≤w8.heap.size:=kk8.size;have R5:Rep w5 (fun b=>wr.heap.size≤b) (Gc.N.clause (1+2*k) true ((cases.get k).N 0)).g [.string kComm,.string sE,.int .i64 0,.slice (some ⟨w8.heap.size,0,none⟩) 2 2]:=clause_repselect row2 (by omega) (RO.kept kk (fun _ _ f=>f)) (RS'.imp fun b _ hb=>by omega)))
      go_wp2_with fail
      have I':=I.next (T.cpre_isList _ _ _) (Kept.refl _ _) kA O4 K4
      rw[show true=decide (k+1=cases.len) by simp;have:=Hlen.out;omega,← T.cpre_succ _ _ _ hc (by have:=Hlen.out;omega)]at I'
      go_roundw
      · exact⟨k+1,_,_,by omega,rfl,by go_num,I'⟩
      · simp[intOf];omega
    · have hq:((k:Int) == (n5:Int)-1)=false:=by simp;omega
      go_wp2_with fail
      refine(none_any _).mono ?_
      rintro e w2 ⟨rfl,hk0⟩
      have X13a:=hk0.cell X13 (fun f=>f)
      have P0a:=hk0.cell P0 (fun f=>f)
      have z2:w.heap.size<w2.heap.size:=by have:=hk0.size;omega
      have z2g:g<w2.heap.size:=by have:=hk0.size;omega
      have z2r:wr.heap.size≤w2.heap.size:=hk0.size
      go_wp2_with fail
      refine(name_any _ _ _).mono ?_
      rintro e w4 ⟨rfl,hkn⟩
      go_wp2_with fail
      refine(part_any _ _ _ _ _).mono ?_
      rintro e w3 ⟨rfl,hkp⟩
      have rowB:=hkp.obj (heap_alloc_new _ _) (fun f=>f)
      have rowA:=hkp.obj (keptA.obj (M:=fun _=>False) (heap_alloc_new _ _) (fun f=>f)) (fun f=>f)
      have hk3:=hkn.trans ((keptA.trans keptA).trans hkp)
      have oo:=hk3.obj (heap_alloc_new _ _) (fun f=>f)
      obtain⟨u0,u1,u2,u3,v0,v1,v2,v3⟩:=slot4 oo
      have z7:w2.heap.size<w3.heap.size:=lt_of_heap oo
      have z4:w2.heap.size<w4.heap.size:=by have:=hkn.size;simp at this;omega
      go_upto_region 36 with fail
      obtain⟨W1,hW1⟩:∃ W1,W1=((((w3.setCell ⟨w2.heap.size,0,none⟩ (.string ⟨#[69,120,112,114,83,116,109,116]⟩)).setCell ⟨w2.heap.size,1,none⟩ (.string sE)).setCell ⟨w2.heap.size,2,none⟩ (.int .i64 0)).setCell ⟨w2.heap.size,3,none⟩ (.slice (some ⟨w4.heap.size+1,0,none⟩) 1 1)):=⟨_,rfl⟩
      rw[← hW1]
      have KS:Kept (fun b=>b=w2.heap.size) w3 W1:=by rw[hW1];exact Kept.set4 (M:=fun b=>b=w2.heap.size) rfl
      have KW:Kept (fun _=>False) wr W1:=(((hk0.mono (M':=fun b=>False∨w2.heap.size≤b) fun _ _ f=>f.elim).trans ((keptA.trans hk3).mono (M':=fun b=>False∨w2.heap.size≤b) fun _ _ f=>f.elim)).trans (KS.mono fun b _ h=>.inr (by omega))).fresh hk0.size
      have oc:=hW1▸set4_cells oo
      have RO:Rep W1 (fun b=>wr.heap.size≤b) (Gc.N.part kExprS (.one (.n kUn sArrow 0 (.one (.name sCh 0))))).g [.string ⟨#[69,120,112,114,83,116,109,116]⟩,.string sE,.int .i64 0,.slice (some ⟨w4.heap.size+1,0,none⟩) 1 1]:=by
       have rA:=KS.obj rowA (by omega)
       have rB:=KS.obj rowB (by simp;omega)
       refine⟨_,rfl,_,rfl,_,rfl,_,_,rfl,rep_one (xs:=[_,_,_,_]) (T0:=30) (by simpa using rB) (by omega) ?_,rfl⟩
       refine⟨_,rfl,_,rfl,_,rfl,_,_,rfl,rep_one (xs:=[_,_,_,_]) rA (by omega) ?_,rfl⟩
       exact⟨_,rfl,_,rfl,_,rfl,_,_,rfl,⟨_,_,rfl⟩,rfl⟩
      have zo:w2.heap.size<W1.heap.size:=lt_of_heap oc
      clear hW1
      have kk:Kept (fun _=>False) W1 W1.drew:=keptD
      obtain⟨e0,e1,e2,e3,-⟩:=slot4 oc
      have rule:∀ wx:World,Kept (fun b=>b≠w2.heap.size) W1 wx→wx.cell? ⟨w2.heap.size,0,none⟩=some (.string ⟨#[69,120,112,114,83,116,109,116]⟩)∧wx.cell? ⟨w2.heap.size,1,none⟩=some (.string sE)∧wx.cell? ⟨w2.heap.size,2,none⟩=some (.int .i64 0)∧wx.cell? ⟨w2.heap.size,3,none⟩=some (.slice (some ⟨w4.heap.size+1,0,none⟩) 1 1):=fun wx hk =>
       ⟨hk.cell e0 (by simp),hk.cell e1 (by simp),hk.cell e2 (by simp),hk.cell e3 (by simp)⟩
      go_region_held3 (fun wx=>Kept (fun b=>b≠w2.heap.size) W1 wx) (first | assumption | exact keptD | exact Kept.trans (by assumption) keptA) (first
       | (have _h:=R5;refine step_append_one (D:=fun b=>W0.heap.size≤b) (base:=W0.heap.size) (v:=.slice a k cap) rfl (.tmp 160) (.tmp 167) 28 rfl i0 _ 64 ul_sN hi hz0 hz1 hz2 rfl rfl (I.app (Kept.refl _ _) kA R5 _).1 k (by rw[N.g_len,I.len]) ⟨w5.heap.size,0,none⟩ 1 rfl _ _ rfl (new_cells _ _ _) one4 (I.app (Kept.refl _ _) kA R5 _).2.1 (by omega) (by omega) (by have:=(I.app (Kept.refl _ _) kA R5 (Obj.cells #[] 66)).2.2;simp;omega) ?_;intro g4 cap' wz O4 K4 hb4 hg4;have hS:Kept (fun b=>b≠w2.heap.size) W1 wz:=Kept.trans (by assumption) (keptA.trans (K4.mono fun b _ e e'=>by have:=I.own.lt b e.symm;omega)))
       | (go_at_call 37;go_must (refine(stmts_N _ HC.out.1 HC.out.2.1 HC.out.2.2 _ (fun b=>b<w.heap.size) _ _ _ ((((Hcr.out.imp fun b hl _=>hl).kept K1 (fun b hb=>by omega)).kept (KW.trans kk) (fun _ _ f=>f)))).mono ?_);rintro e w7 ⟨a7,n7,c7,rfl,RS,hk⟩;have RS':=RS.imp (D':=fun b=>w2.heap.size<b) (fun b _ hb=>by have:=kk.size;omega);have kk:=kk.trans hk;have hS:Kept (fun b=>b≠w2.heap.size) W1 w7:=kk.mono fun _ _ f=>f.elim)
       | (go_at_call 36;go_must (refine(listOf_any _ _ _ _).mono ?_);rintro e w8 ⟨rfl,hk⟩;have RS':=RS'.kept hk (fun _ _ f=>f);have kk:=kk.trans hk;have kk8:=kk;have hS:Kept (fun b=>b≠w2.heap.size) W1 w8:=kk.mono fun _ _ f=>f.elim)
       | (go_at_call 18;go_must (refine(part_any _ _ _ _ _).mono ?_);rintro e w5 ⟨rfl,hk⟩;have row2:=hk.obj (heap_alloc_new _ _) (fun f=>f);have kl:=keptA.trans (M:=fun _=>False) hk;have RS':=RS'.kept kl (fun _ _ f=>f);have kk:=kk.trans kl;have kA:Kept (fun _=>False) wr w5:=KW.trans kk;have hS:Kept (fun b=>b≠w2.heap.size) W1 w5:=kk.mono fun _ _ f=>f.elim;have y8:W1.heap.size≤w8.heap.size:=kk8.size;have R5:Rep w5 (fun b=>wr.heap.size≤b) (Gc.N.clause (1+2*k) false ((cases.get k).N 0)).g [.string kComm,.string sE,.int .i64 0,.slice (some ⟨w8.heap.size,0,none⟩) 2 2]:=clause_repselect row2 (by omega) (RO.kept kk (fun _ _ f=>f)) (RS'.imp fun b _ hb=>by omega)))
      go_wp2_with fail
      have I':=I.next (T.cpre_isList _ _ _) (Kept.refl _ _) kA O4 K4
      rw[show false=decide (k+1=cases.len) by simp;have:=Hlen.out;omega,← T.cpre_succ _ _ _ hc (by have:=Hlen.out;omega)]at I'
      go_roundw
      · exact⟨k+1,_,_,by omega,rfl,by go_num,I'⟩
      · simp[intOf];omega
  · obtain rfl:k=n5:=by omega
    have hI:=I.own.rep (D:=fun b=>W0.heap.size≤b) (fun b h0 _=>h0)
    have hI:Rep wr (fun b=>W0.heap.size≤b) (cases.N 2).g [.slice a k cap]:=by
     have kall:=Hlen.out
     have e:=T.cpre_all cases 1 hc
     rw[← kall]at e
     rw[← e]
     exact hI
    have ozr1:∀ wx:World,Kept (fun _=>False) wr wx→wx.heap[w.heap.size+1]?=some zeroN:=fun wx hk=>hk.obj (I.kept.obj oz (by omega)) (fun f=>f)
    have zr:w.heap.size+1<wr.heap.size:=by omega
    go_wp2_with fail
    refine(listOf_any _ _ _ _).mono ?_
    rintro e w7 ⟨rfl,hk7⟩
    go_wp2_with fail
    refine(part_any _ _ _ _ _).mono ?_
    rintro e w8 ⟨rfl,hk8⟩
    have rowB:=hk8.obj (heap_alloc_new _ _) (fun f=>f)
    go_wp2_with fail
    refine(part_any _ _ _ _ _).mono ?_
    rintro e w9 ⟨rfl,hk9⟩
    have row3:=hk9.obj (heap_alloc_new _ _) (fun f=>f)
    have kl:=keptA.trans (M:=fun _=>False) hk9
    have rowB:=kl.obj rowB (fun f=>f)
    have kk8:=hk7.trans (keptA.trans hk8)
    have kk:=kk8.trans kl
    obtain⟨r0,r1,r2,r3,q0,q1,q2,q3⟩:=slot4 (ozr1 _ kk)
    have z9:w.heap.size+1<w9.heap.size:=lt_of_heap (ozr1 _ kk)
    have z8:w.heap.size<w9.heap.size:=by omega
    go_wp2_with fail
    refine bodyPost_ret (v:=.agg #[.string kSelect,.string sE,.int .i64 0,.slice (some ⟨w8.heap.size,0,none⟩) 1 1]) (by simp[results,Tryz.results58,go_sem,kSelect,r0,r1,r2,r3,z9,z8];done) rfl ?_
    rw[show(T.s 7 nn op lb (.x xk xn xop kids xb) body els has chain cases).N 0=.part kSelect (.one (.part kBlock (.one (.list (cases.N 2))))) by simp[T.N]]
    have kF:∀ {u0 u1 u2 u3:Value},Kept (fun b=>b=w.heap.size+1) w9 ((((w9.setCell ⟨w.heap.size+1,0,none⟩ u0).setCell ⟨w.heap.size+1,1,none⟩ u1).setCell ⟨w.heap.size+1,2,none⟩ u2).setCell ⟨w.heap.size+1,3,none⟩ u3):=Kept.set4 (M:=fun b=>b=w.heap.size+1) rfl
    have y8:wr.heap.size≤w8.heap.size:=kk8.size
    have y7:wr.heap.size≤w7.heap.size:=hk7.size
    refine⟨kSelect,sE,0,_,1,1,rfl,⟨_,rfl,_,rfl,_,rfl,_,_,rfl,rep_one (xs:=[_,_,_,_]) (kF.obj row3 (by omega)) (by omega) ?_,rfl⟩,?_⟩
    · refine⟨_,rfl,_,rfl,_,rfl,_,_,rfl,rep_one (xs:=[_,_,_,_]) (kF.obj rowB (by omega)) (by omega) ?_,rfl⟩
      refine⟨_,rfl,_,rfl,_,rfl,_,_,rfl,?_,rfl⟩
      exact((((hI.imp (D':=fun b=>w.heap.size+1<b) fun b _ hb=>by omega).kept kk (fun _ _ f=>f)).kept kF (fun b hb=>by omega)).imp fun b _ hb=>by omega)
    · exact((((K0.mono fun _ _ f=>f.elim).trans (I.kept.mono (M':=fun b=>False∨w.heap.size≤b) fun b _ h=>.inr (by omega))).trans (kk.mono fun _ _ f=>f.elim)).trans (kF.mono fun b _ h=>.inr (by omega))).fresh (Nat.le_refl _)
end Go.Proofs.YtleolbpibjnedaaGreat
