/- The laws' labelled statements as syntax. -/
import Derived.Test.YtleolbpibjnedaaGreatQLsC
set_option linter.unusedSimpArgs false
set_option linter.unusedVariables false
set_option maxRecDepth 100000
set_option maxHeartbeats 4000000
namespace Go.Proofs.YtleolbpibjnedaaGreat
open Go Go.RowKit Gc
theorem s_one{w:World}{D:Nat→Prop}{t:T}{a:Option Addr}{n c:Nat}(h:Rep w D (T.cons t .nil).g [.slice a n c])(hX:StmtX t) :
 ∃ g o,a=some ⟨g,o,none⟩∧n=1∧∃ (s:SV) (kids xb body els cases:T),t=.s s.kind s.n s.op s.lab (.x s.xk s.xn s.xop kids xb) body els s.has s.chain cases∧StmtN t∧g<w.heap.size∧Rep w D kids.g [.slice s.a1 s.n1 s.c1]∧Rep w D xb.g [.slice s.a2 s.n2 s.c2]∧Rep w D body.g [.slice s.a3 s.n3 s.c3]∧Rep w D els.g [.slice s.a4 s.n4 s.c4]∧Rep w D cases.g [.slice s.a5 s.n5 s.c5] ∧
  w.cell? ⟨g,o,none⟩=some (.int .i64 s.kind)∧w.cell? ⟨g,o+1,none⟩=some (.int .i64 s.n)∧w.cell? ⟨g,o+2,none⟩=some (.string s.op)∧w.cell? ⟨g,o+3,none⟩=some (.string s.lab)∧w.cell? ⟨g,o+4,none⟩=some (.int .i64 s.xk)∧w.cell? ⟨g,o+5,none⟩=some (.int .i64 s.xn)∧w.cell? ⟨g,o+6,none⟩=some (.string s.xop)∧w.cell? ⟨g,o+7,none⟩=some (.slice s.a1 s.n1 s.c1)∧w.cell? ⟨g,o+8,none⟩=some (.slice s.a2 s.n2 s.c2)∧w.cell? ⟨g,o+9,none⟩=some (.slice s.a3 s.n3 s.c3)∧w.cell? ⟨g,o+10,none⟩=some (.slice s.a4 s.n4 s.c4)∧w.cell? ⟨g,o+11,none⟩=some (.bool s.has)∧w.cell? ⟨g,o+12,none⟩=some (.bool s.chain)∧w.cell? ⟨g,o+13,none⟩=some (.slice s.a5 s.n5 s.c5):=by
 have hn:=Rep.len_eq (T.g_isList (T.cons t .nil) trivial) h
 rw[T.g_len]at hn
 simp only[T.len]at hn
 obtain⟨g,o,rfl⟩:=slice_some (T.g_isList (T.cons t .nil) trivial) h (by omega)
 obtain⟨s,kids,xb,body,els,cases,he,hE,hg,h1,h2,h3,h4,h5,hp⟩:=s_at (k:=0) h trivial ⟨hX,trivial⟩ (by simp[T.len])
 simp only[Nat.zero_mul,Nat.add_zero]at hp
 exact⟨g,o,rfl,hn,s,kids,xb,body,els,cases,he,hE,hg,h1,h2,h3,h4,h5,hp⟩
theorem stmt_labelN(nn:Nat)(op lb:Str)(xk xn:Nat)(xop:Str)(kids xb inner els:T)(has chain:Bool)(cases:T)(k:Nat)(hk:k≤1000)(hlb:lb=lab k)(hI:StmtX inner):StmtN (.s 11 nn op lb (.x xk xn xop kids xb) (.cons inner .nil) els has chain cases):=by
 have Hlb:=Lib.hid hlb
 clear hlb
 intro w D s kids' xb' body' els' cases' e h1 h2 h3 h4 h5
 obtain⟨kind,nn,op,lb,xk,xn,xop,a1,n1,c1,a2,n2,c2,a3,n3,c3,a4,n4,c4,has,chain,a5,n5,c5⟩:=s
 simp only[T.s.injEq,T.x.injEq]at e
 obtain⟨rfl,rfl,rfl,rfl,⟨rfl,rfl,rfl,rfl,rfl⟩,rfl,rfl,rfl,rfl,rfl⟩:=e
 obtain⟨g,o,rfl,rfl,⟨jk,jn,jop,jlb,jxk,jxn,jxop,ja1,jn1,jc1,ja2,jn2,jc2,ja3,jn3,jc3,ja4,jn4,jc4,jhas,jchain,ja5,jn5,jc5⟩,jkids,jxb,jbody,jels,jcases,he,hE,hg,j1,j2,j3,j4,j5,p0,p1,p2,p3,p4,p5,p6,p7,p8,p9,p10,p11,p12,p13⟩:=s_one h3 hI
 simp only[]at he j1 j2 j3 j4 j5 p0 p1 p2 p3 p4 p5 p6 p7 p8 p9 p10 p11 p12 p13
 have he':=Lib.hid he
 have hE':=Lib.hid hE
 have J1:=Lib.hid j1
 have J2:=Lib.hid j2
 have J3:=Lib.hid j3
 have J4:=Lib.hid j4
 have J5:=Lib.hid j5
 clear he hE j1 j2 j3 j4 j5 hI
 have hX:Rep w D (T.x xk xn xop kids xb).g [.int .i64 xk,.int .i64 xn,.string xop,.slice a1 n1 c1,.slice a2 n2 c2]:=⟨_,rfl,_,rfl,_,rfl,_,_,rfl,h1,_,_,rfl,h2,rfl⟩
 have HX:=Lib.hid hX
 have H4:=Lib.hid h4
 have H5:=Lib.hid h5
 clear hX h1 h2 h4 h5
 show Calls Tryz.prog 58 #[.agg #[.int .i64 11,.int .i64 nn,.string op,.string lb,.int .i64 xk,.int .i64 xn,.string xop,.slice a1 n1 c1,.slice a2 n2 c2,.slice (some ⟨g,o,none⟩) 1 c3,.slice a4 n4 c4,.bool has,.bool chain,.slice a5 n5 c5]] w _
 go_enter Tryz.func58,Tryz.ntmps58
 go_upto_region 49 with fail
 obtain⟨W0,hW0⟩:∃ W0,W0=(w.alloc (.cells #[.int .i64 11,.int .i64 nn,.string op,.string lb,.int .i64 xk,.int .i64 xn,.string xop,.slice a1 n1 c1,.slice a2 n2 c2,.slice (some ⟨g,o,none⟩) 1 c3,.slice a4 n4 c4,.bool has,.bool chain,.slice a5 n5 c5] 66)).alloc zeroN:=⟨_,rfl⟩
 rw[← hW0]
 have K0:Kept (fun _=>False) w W0:=by rw[hW0];exact keptA.trans keptA
 have ob:=hW0▸heap2_0 w _ zeroN
 have oz:W0.heap[w.heap.size+1]?=some zeroN:=hW0▸heap2_1 w _ zeroN
 obtain⟨x0,x1,x2,x3,x4,x5,x6,x7,x8,x9,x10,x11,x12,x13,y0,y1,y2,y3,y4,y5,y6,y7,y8,y9,y10,y11,y12,y13⟩:=slot14 ob
 have z0:w.heap.size+1<W0.heap.size:=by rw[hW0];simp
 clear hW0
 have ozr:∀ wx:World,Kept (fun _=>False) W0 wx→wx.heap[w.heap.size+1]?=some zeroN:=fun wx hk=>hk.obj oz (fun f=>f)
 have K0':Kept (fun b=>b=w.heap.size+1) w W0:=K0.mono fun _ _ f=>f.elim
 have rule:∀ wx:World,Kept (fun b=>b=w.heap.size+1) W0 wx→wx.cell? ⟨g,o,none⟩=some (.int .i64 jk)∧wx.cell? ⟨g,o+1,none⟩=some (.int .i64 jn)∧wx.cell? ⟨g,o+2,none⟩=some (.string jop)∧wx.cell? ⟨g,o+3,none⟩=some (.string jlb)∧wx.cell? ⟨g,o+4,none⟩=some (.int .i64 jxk)∧wx.cell? ⟨g,o+5,none⟩=some (.int .i64 jxn)∧wx.cell? ⟨g,o+6,none⟩=some (.string jxop)∧wx.cell? ⟨g,o+7,none⟩=some (.slice ja1 jn1 jc1)∧wx.cell? ⟨g,o+8,none⟩=some (.slice ja2 jn2 jc2)∧wx.cell? ⟨g,o+9,none⟩=some (.slice ja3 jn3 jc3)∧wx.cell? ⟨g,o+10,none⟩=some (.slice ja4 jn4 jc4)∧wx.cell? ⟨g,o+11,none⟩=some (.bool jhas)∧wx.cell? ⟨g,o+12,none⟩=some (.bool jchain)∧wx.cell? ⟨g,o+13,none⟩=some (.slice ja5 jn5 jc5)∧wx.cell? ⟨w.heap.size,3,none⟩=some (.string lb)∧wx.cell? ⟨w.heap.size,9,none⟩=some (.slice (some ⟨g,o,none⟩) 1 c3):=fun wx hk =>
  have hk':=K0'.trans hk
  have hne:∀ i,¬ (⟨g,i,none⟩:Addr).block=w.heap.size+1:=fun i=>by simp only[];omega
  ⟨hk'.cell p0 (hne _),hk'.cell p1 (hne _),hk'.cell p2 (hne _),hk'.cell p3 (hne _),hk'.cell p4 (hne _),hk'.cell p5 (hne _),hk'.cell p6 (hne _),hk'.cell p7 (hne _),hk'.cell p8 (hne _),hk'.cell p9 (hne _),hk'.cell p10 (hne _),hk'.cell p11 (hne _),hk'.cell p12 (hne _),hk'.cell p13 (hne _),hk.cell x3 (by simp),hk.cell x9 (by simp)⟩
 have hL:∀ W:World,Calls Tryz.prog 99 #[.string lb] W (IsNode W kIdent lb (50+labNum lb:Nat) none 0 0):=fun W=>by rw[Hlb.out];exact label_N k hk W
 have HL:=Lib.hid hL
 clear hL
 have kk:Kept (fun _=>False) W0 W0.drew:=keptD
 go_region_held3 (fun wx=>Kept (fun b=>b=w.heap.size+1) W0 wx) (first | assumption | exact keptD | exact Kept.trans (by assumption) keptA | exact Kept.trans (by assumption) (Kept.set4 (M:=fun b=>b=w.heap.size+1) rfl) | exact Kept.trans (by assumption) ((Kept.set4 (M:=fun b=>b=w.heap.size+1) rfl).trans keptA)) (first
  | (have _h:=R2;go_at_call 18;go_must (refine(part_any _ _ _ _ _).mono ?_);rintro e w6 ⟨rfl,hk⟩;have row1:=hk.obj (heap_alloc_new _ _) (fun f=>f);have kl:=keptA.trans (M:=fun _=>False) hk;have R2':=R2'.kept kl (fun _ _ f=>f);have kk5:=kk;have kk:=kk.trans kl;have hS:Kept (fun b=>b=w.heap.size+1) W0 w6:=kk.mono fun _ _ f=>f.elim;obtain⟨r0,r1,r2,r3,q0,q1,q2,q3⟩:=slot4 (ozr _ kk);have z9:w.heap.size+1<w6.heap.size:=lt_of_heap (ozr _ kk);have z8:w.heap.size<w6.heap.size:=by omega)
  | (go_at_call 58;go_must (refine(hE'.out _ (fun b=>b<w.heap.size) ⟨jk,jn,jop,jlb,jxk,jxn,jxop,ja1,jn1,jc1,ja2,jn2,jc2,ja3,jn3,jc3,ja4,jn4,jc4,jhas,jchain,ja5,jn5,jc5⟩ jkids jxb jbody jels jcases he'.out ((J1.out.imp fun b hl _=>hl).kept (K0'.trans (by assumption)) (fun b hb=>by omega)) ((J2.out.imp fun b hl _=>hl).kept (K0'.trans (by assumption)) (fun b hb=>by omega)) ((J3.out.imp fun b hl _=>hl).kept (K0'.trans (by assumption)) (fun b hb=>by omega)) ((J4.out.imp fun b hl _=>hl).kept (K0'.trans (by assumption)) (fun b hb=>by omega)) ((J5.out.imp fun b hl _=>hl).kept (K0'.trans (by assumption)) (fun b hb=>by omega))).mono ?_);rintro e w5 ⟨k2,t2,i2,l2,m2,d2,rfl,R2,hk⟩;have R2':=R2.imp (D':=fun b=>w.heap.size+1<b) (fun b _ hb=>by have:=kk.size;omega);have kk:=kk.trans hk;have hS:Kept (fun b=>b=w.heap.size+1) W0 w5:=kk.mono fun _ _ f=>f.elim)
  | (go_at_call 99;go_must (refine(HL.out _).mono ?_);rintro e w2 ⟨rfl,hk⟩;have kk:=kk.trans hk;have hS:Kept (fun b=>b=w.heap.size+1) W0 w2:=kk.mono fun _ _ f=>f.elim))
 go_wp2_with fail
 refine bodyPost_ret (v:=.agg #[.string kLabeled,.string sE,.int .i64 0,.slice (some ⟨w5.heap.size,0,none⟩) 2 2]) (by simp[results,Tryz.results58,go_sem,kLabeled,r0,r1,r2,r3,z9,z8];done) rfl ?_
 rw[show(T.s 11 nn op lb (.x xk xn xop kids xb) (.cons inner .nil) els has chain cases).N 0=.part kLabeled (.two (.label lb) (inner.N 0)) by simp[T.N,Gc.N.first]]
 have kF:∀ {u0 u1 u2 u3:Value},Kept (fun b=>b=w.heap.size+1) w6 ((((w6.setCell ⟨w.heap.size+1,0,none⟩ u0).setCell ⟨w.heap.size+1,1,none⟩ u1).setCell ⟨w.heap.size+1,2,none⟩ u2).setCell ⟨w.heap.size+1,3,none⟩ u3):=Kept.set4 (M:=fun b=>b=w.heap.size+1) rfl
 have y5:=kk5.size
 refine⟨kLabeled,sE,0,_,2,2,rfl,⟨_,rfl,_,rfl,_,rfl,_,_,rfl,rep_two (xs:=[_,_,_,_]) (ys:=[_,_,_,_]) (kF.obj row1 (by have:W0.heap.size≤w5.heap.size:=y5;omega)) (by have:W0.heap.size≤w5.heap.size:=y5;omega) ⟨_,rfl,_,rfl,_,rfl,_,_,rfl,⟨_,_,rfl⟩,rfl⟩ ((R2'.kept kF (fun b hb=>by omega)).imp fun b _ hb=>by omega),rfl⟩,?_⟩
 exact(((K0.trans kk).mono (M':=fun b=>False∨w.heap.size≤b) fun _ _ f=>f.elim).trans (kF.mono fun b _ h=>.inr (by omega))).fresh (Nat.le_refl _)
end Go.Proofs.YtleolbpibjnedaaGreat
namespace Gc
open Go
def T.cpre:T→Nat→Nat→Gc.N
 | .cons h t,m,k+1=>.cons (.clause m t.isNil (h.N 0)) (t.cpre (m+2) k)
 | _,_,_=>.nil
theorem T.cpre_zero(t:T)(m:Nat):t.cpre m 0=.nil:=by cases t<;>rfl
theorem T.cpre_isList:∀ (t:T) (m k:Nat),(t.cpre m k).isList
 | .cons _ t,m,k+1=>T.cpre_isList t (m+2) k
 | .cons _ _,_,0 | .nil,_,_ | .x ..,_,_ | .s ..,_,_=>trivial
theorem T.cpre_succ:∀ (t:T) (m k:Nat),t.isList→k<t.len→t.cpre m (k+1)=(t.cpre m k).snoc (.clause (m+2*k) (decide (k+1=t.len)) ((t.get k).N 0))
 | .cons h t,m,0,hl,_=>by
   simp only[T.cpre,T.cpre_zero,N.snoc,T.get,T.len]
   cases t with
   | nil=>rfl
   | cons=>simp[T.isNil,T.len]
   | _=>exact hl.elim
 | .cons h t,m,k+1,hl,hk=>by
   have:=T.cpre_succ t (m+2) k hl (by simp only[T.len]at hk;omega)
   simp only[T.cpre,N.snoc,T.get,T.len]
   have e:m+2+2*k=m+2*(k+1):=by omega
   rw[e]at this
   simp only[Nat.add_right_cancel_iff]
   exact congrArg _ this
 | .nil,_,_,_,h | .x ..,_,_,_,h | .s ..,_,_,_,h=>by simp[T.len]at h
theorem T.cpre_all:∀ (t:T) (m:Nat),t.isList→t.cpre m t.len=t.N (m+1)
 | .cons h t,m,hl=>by
   simp only[T.len,T.cpre]
   rw[T.cpre_all t (m+2) hl]
   simp[T.N]
 | .nil,_,_=>rfl
 | .x ..,_,h=>h.elim
 | .s ..,_,h=>h.elim
end Gc
namespace Go.Proofs.YtleolbpibjnedaaGreat
open Go Go.RowKit Gc
def CaseX(c:T):Prop:=c.isList∧c.len≤100000∧c.All StmtX
theorem all_c_len{w:World}{D:Nat→Prop}:∀ {t:T},t.All CaseX→∀ (hs:List Value) (h:G),Rep w D h hs→t.All (fun x=>x.g=h→hs.length=1)
 | .cons _ t,ha,hs,h,hr=>by
   refine⟨fun e=>?_,all_c_len ha.2 hs h hr⟩
   rw[← e]at hr
   have hl:=T.g_isList _ ha.1.1
   revert hr hl
   generalize T.g _=y
   intro hr hl
   cases y with
   | nil=>obtain⟨_,_,rfl⟩:=hr;rfl
   | cons=>obtain⟨_,_,_,_,_,rfl,_⟩:=hr;rfl
   | _=>exact hl.elim
 | .nil,_,_,_,_ | .x ..,_,_,_,_ | .s ..,_,_,_,_=>trivial
theorem c_at{w:World}{D:Nat→Prop}{t:T}{g o n c k:Nat}(h:Rep w D t.g [.slice (some ⟨g,o,none⟩) n c])(hl:t.isList)(ha:t.All CaseX)(hk:k<t.len) :
 ∃ a n' c',w.cell? ⟨g,o+k,none⟩=some (.slice a n' c')∧Rep w D (t.get k).g [.slice a n' c']∧CaseX (t.get k)∧g<w.heap.size:=by
 obtain⟨hs,hx,hlen,_,hg,hc⟩:=T.rep_at 1 h hl (fun hs h hr=>all_c_len ha hs h hr) hk
 have hX:=ha.get hk
 match hs,hlen with
 | [v],_ =>
   obtain⟨a,n',c',rfl,-⟩:=list_val (T.g_isList _ hX.1) hx
   exact⟨a,n',c',by simpa using hc 0 _ rfl,hx,hX,hg⟩
theorem clause_even(k:Nat)(last:Bool)(l:N):Gc.N.clause (0+2*k) last l=.part kCase (.two (if last=true then .none else .list (.one (.lit (1+k)))) (.list l)):=by
 have h1:(0+2*k)%2=0:=by omega
 have h2:(0+2*k) / 2=k:=by omega
 simp only[Gc.N.clause,h1,h2,if_true]
theorem clause_odd(k:Nat)(last:Bool)(l:N):Gc.N.clause (1+2*k) last l=.part kComm (.two (if last=true then .none else .part kExprS (.one (.n kUn sArrow 0 (.one (.name sCh 0))))) (.list l)):=by
 have h1:¬ (1+2*k)%2=0:=by omega
 simp only[Gc.N.clause,h1,if_false]
end Go.Proofs.YtleolbpibjnedaaGreat
