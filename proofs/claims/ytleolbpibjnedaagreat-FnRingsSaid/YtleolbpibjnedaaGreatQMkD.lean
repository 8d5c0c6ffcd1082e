/- The laws' maker: the condition. -/
import Derived.Test.YtleolbpibjnedaaGreatQMkB
set_option linter.unusedSimpArgs false
set_option linter.unusedVariables false
set_option maxRecDepth 100000
set_option maxHeartbeats 4000000
namespace Go.Proofs.YtleolbpibjnedaaGreat
open Go Go.RowKit Gc
def ContrCond(d j k:Nat):Prop:=∀ (w:World) (mb:Nat) (ns:Value) (fl:Bool) (c:MC) (n:Nat) (inn:Bool) (ls:Value),MSt w mb ns fl c→c.inner+j=2→-200-3*(k:Int)≤c.left→n<536870912→Labs w mb (3-(d+1)) ls →
 ∀ D:Int,D=(d+1:Nat)→∀ K:Int,K=k →
 Calls Tryz.prog 43 #[.pointer (some ⟨mb,0,none⟩),.int .u32 n,.int .i64 D,.bool inn,ls,.int .i64 K] w
  (StmtP w mb ns fl c 2 (3+11*(d+1+j)-3*k) (12-3*k) (-2) (4+5*(d+1)+8*j-k) (fun s=>s.kind=3))
theorem W.if_inv{fl:Bool}{n:Nat}{op lb:Str}{a body els cases:T}{has chain:Bool}(h:W fl .S (.s 3 n op lb a body els has chain cases)):n=0∧op=sE∧lb=sE∧cases=.nil:=by
 cases h<;>first | exact⟨rfl,rfl,rfl,rfl⟩ | (rename_i h;omega)
abbrev zeroS:Obj:=.cells #[.int .i64 0,.int .i64 0,.string ⟨#[]⟩,.string ⟨#[]⟩,.int .i64 0,.int .i64 0,.string ⟨#[]⟩,.slice none 0 0,.slice none 0 0,.slice none 0 0,.slice none 0 0,.bool false,.bool false,.slice none 0 0] 66
theorem Went.same(c:MC):Went 0 0 0 c c:=⟨rfl,by omega,Nat.le_refl _,Int.le_refl _,rfl,fun _=>by omega,fun _=>by omega⟩
theorem rep_nil(w:World)(D:Nat→Prop):Rep w D T.nil.g [.slice none 0 0]:=⟨_,_,rfl⟩
theorem cond_end0{w w1 w2 w3 wf:World}{mb:Nat}{ns:Value}{fl:Bool}{c c1 c2 c3:MC}{d j k:Nat}{k1 n1:Nat}{op1:Str}{kids1 body1 t e:T}{ak1:Option Addr}{nk1 ck1:Nat}{ab1:Option Addr}{nb1 cb1:Nat}
 {a2:Option Addr} {n2 cap2:Nat} {a3:Option Addr} {n3 cap3:Nat} {has chain:Bool} {O3 X3:Int} (hk3:k≤3) (h:MSt w mb ns fl c)
 (Y1:GotE (w.alloc zeroS) mb ns fl c 1 (1+(2:Nat)+11*j) 1 0 (1+2+8*j) k1 n1 op1 kids1 body1 ak1 nk1 ck1 ab1 nb1 cb1 c1 w1)
 (Y2:GotL w1 mb ns fl c1 (3+11*(d+j)) (4+5*d+8*j) t a2 n2 cap2 c2 w2)
 (st3:MSt w3 mb ns fl c3) (kept3:Kept (fun b=>b=mb) w2 w3) (rep3:Rep wf (fun b=>w.heap.size≤b) e.g [.slice a3 n3 cap3]) (went3:Went 0 O3 X3 c2 c3) (hO3:O3≤3+11*(d+1+j)-3*k) (hX3:X3≤10-3*k)
 (cost3:(e.cost:Int)≤5*(c2.left-c3.left)) (deep3:(if has=true then 1+e.deep else e.deep)≤8+5*d+8*j-k)
 (hW:W fl .S (.s 3 0 sE sE (.x k1 n1 op1 kids1 body1) t e has chain .nil)) (hC:Kept (fun b=>b=w.heap.size∨b=w2.heap.size) w3 wf) :
 StmtP w mb ns fl c 2 (3+11*(d+1+j)-3*k) (12-3*k) (-2) (4+5*(d+1)+8*j-k) (fun s=>s.kind=3)
  (.returned (.agg #[.int .i64 3,.int .i64 0,.string ⟨#[]⟩,.string ⟨#[]⟩,.int .i64 k1,.int .i64 n1,.string op1,.slice ak1 nk1 ck1,.slice ab1 nb1 cb1,.slice a2 n2 cap2,.slice a3 n3 cap3,.bool has,.bool chain,.slice none 0 0])) wf:=by
 have hmb:=lt_of_heap h.obj
 have z1:=Y1.kept.size
 have z2:=Y2.kept.size
 have z3:=kept3.size
 have z0:w.heap.size<w1.heap.size:=by simp at z1;omega
 have k02:Kept (fun b=>b=mb) w w3:=((keptA.trans Y1.kept).trans Y2.kept).trans kept3
 have m0:Kept (fun b=>b=mb) w wf:=((k02.mono (M':=fun b=>b=mb∨w.heap.size≤b) fun _ _ h=>.inl h).trans (hC.mono fun b _ h=>by omega)).fresh (Nat.le_refl _)
 have g1:=Y1.went
 have g2:=Y2.went
 have q1:=Y1.cost
 have q2:=Y2.cost
 have d1:=Y1.deep
 have d2:=Y2.deep
 have e1:∀ {v:Value} {t:T},Rep w1 (fun b=>(w.alloc zeroS).heap.size≤b) t.g [v]→Rep wf (fun b=>w.heap.size≤b) t.g [v]:=fun r =>
  (((r.imp (D':=fun b=>w.heap.size<b∧b<w1.heap.size) fun b hl hb=>⟨by simp at hb;omega,hl⟩).kept (Y2.kept.trans kept3) (fun b hb=>by omega)).kept hC (fun b hb=>by omega)).imp fun b _ hb=>by omega
 have hwent:Went 2 (3+11*(d+1+j)-3*k) (12-3*k) c c3:=by
  have a1:=g1.tot;have a2:=g1.le;have a3:=g1.lab0;have a4:=g1.lab1;have a5:=g1.inner;have a6:=g1.low;have a7:=g1.low'
  have b1:=g2.tot;have b2:=g2.le;have b3:=g2.lab0;have b4:=g2.lab1;have b5:=g2.inner;have b6:=g2.low;have b7:=g2.low'
  have c1:=went3.tot;have c2:=went3.le;have c3:=went3.lab0;have c4:=went3.lab1;have c5:=went3.inner;have c6:=went3.low;have c7:=went3.low'
  exact⟨by omega,by omega,by omega,by omega,by omega,fun _=>by omega,fun _=>by omega⟩
 refine⟨⟨3,0,_,_,k1,n1,op1,ak1,nk1,ck1,ab1,nb1,cb1,a2,n2,cap2,a3,n3,cap3,has,chain,none,0,0⟩,kids1,body1,t,e,.nil,c3,rfl,rfl,hW,e1 Y1.rk,e1 Y1.rb,?_,?_,⟨_,_,rfl⟩,?_,m0,hwent,?_,?_⟩
 · exact(((Y2.rep.imp (D':=fun b=>w.heap.size<b∧b<w2.heap.size) fun b hl hb=>⟨by omega,hl⟩).kept kept3 (fun b hb=>by omega)).kept hC (fun b hb=>by omega)).imp fun b _ hb=>by omega
 · exact rep3
 · exact⟨hC.obj st3.obj (by omega),h.nums.kept m0,st3.tot,st3.lo,st3.lab,st3.inn,st3.flo⟩
 · simp only[T.cost,T.len]at q1 ⊢
   omega
 · simp only[T.deep]at d1 ⊢
   simp only[show ¬ (3=7) by decide,show ¬ (3=6) by decide,if_false]at d1 ⊢
   generalize (if has=true then 1+e.deep else e.deep)=z at deep3 ⊢
   omega
theorem cond_end{w w1 w2 w3 wf:World}{mb:Nat}{ns:Value}{fl:Bool}{c c1 c2 c3:MC}{d j k:Nat}{k1 n1:Nat}{op1:Str}{kids1 body1 t e:T}{ak1:Option Addr}{nk1 ck1:Nat}{ab1:Option Addr}{nb1 cb1:Nat}
 {a2:Option Addr} {n2 cap2:Nat} {a3:Option Addr} {n3 cap3:Nat} {has chain:Bool} {O3 X3:Int} (hk3:k≤3) (h:MSt w mb ns fl c)
 (Y1:GotE (w.alloc zeroS) mb ns fl c 1 (1+(2:Nat)+11*j) 1 0 (1+2+8*j) k1 n1 op1 kids1 body1 ak1 nk1 ck1 ab1 nb1 cb1 c1 w1)
 (Y2:GotL w1 mb ns fl c1 (3+11*(d+j)) (4+5*d+8*j) t a2 n2 cap2 c2 w2)
 (st3:MSt w3 mb ns fl c3) (kept3:Kept (fun b=>b=mb) w2 w3) (rep3:Rep w3 (fun b=>w2.heap.size<b) e.g [.slice a3 n3 cap3]) (went3:Went 0 O3 X3 c2 c3) (hO3:O3≤3+11*(d+1+j)-3*k) (hX3:X3≤10-3*k)
 (cost3:(e.cost:Int)≤5*(c2.left-c3.left)) (deep3:(if has=true then 1+e.deep else e.deep)≤8+5*d+8*j-k)
 (hW:W fl .S (.s 3 0 sE sE (.x k1 n1 op1 kids1 body1) t e has chain .nil)) (hC:Kept (fun b=>b=w.heap.size∨b=w2.heap.size) w3 wf) :
 StmtP w mb ns fl c 2 (3+11*(d+1+j)-3*k) (12-3*k) (-2) (4+5*(d+1)+8*j-k) (fun s=>s.kind=3)
  (.returned (.agg #[.int .i64 3,.int .i64 0,.string ⟨#[]⟩,.string ⟨#[]⟩,.int .i64 k1,.int .i64 n1,.string op1,.slice ak1 nk1 ck1,.slice ab1 nb1 cb1,.slice a2 n2 cap2,.slice a3 n3 cap3,.bool has,.bool chain,.slice none 0 0])) wf :=
 cond_end0 hk3 h Y1 Y2 st3 kept3 ((rep3.kept hC (fun b hb=>by have:=Y1.kept.size;have:=Y2.kept.size;simp at *;omega)).imp fun b _ hb=>by have:=Y1.kept.size;have:=Y2.kept.size;simp at *;omega) went3 hO3 hX3 cost3 deep3 hW hC
theorem cond_plain(d j k:Nat)(hd:d≤2)(hk3:k≤3)(hE:ContrE 2 j)(hL:ContrL d j)(w:World)(mb:Nat)(ns:Value)(fl:Bool)(c:MC)(n:Nat)(inn:Bool)(ls:Value)(h:MSt w mb ns fl c)(hj:c.inner+j=2)
 (hlo:-200-3*(k:Int)≤c.left) (hn:n<536870912) (hls:Labs w mb (3-(d+1)) ls) (D:Int) (hD:D=(d+1:Nat)) (K:Int) (hK:K=k) (hr1:¬ (n:Int) / 32%4=1) (hr2:¬ ((n:Int) / 32%4=2∧k<3)) :
 Calls Tryz.prog 43 #[.pointer (some ⟨mb,0,none⟩),.int .u32 n,.int .i64 D,.bool inn,ls,.int .i64 K] w
 (StmtP w mb ns fl c 2 (3+11*(d+1+j)-3*k) (12-3*k) (-2) (4+5*(d+1)+8*j-k) (fun s=>s.kind=3)):=by
 have hM:=h
 have hmb:=lt_of_heap h.obj
 have hE':=Lib.hid hE
 have hL':=Lib.hid hL
 have hDd:=Lib.hid hD
 have hD0:1≤D:=by omega
 have hD1:D≤3:=by omega
 have hK0:0≤K:=by omega
 have hK1:K≤3:=by omega
 have hlt:(n:Int) / 32%4=2→¬ K<3:=by omega
 clear hE hL hD hr2 hK
 go_enter Tryz.func43,Tryz.ntmps43
 go_wp2_with fail
 refine(hE'.out _ mb ns fl c (h.keptBut (Kept.alloc _ _ _) (M:=fun _=>False) (fun _ f=>f.elim)) hj (by omega) _ rfl).mono ?_
 rintro e w1 ⟨k1,n1,op1,kids1,body1,ak1,nk1,ck1,ab1,nb1,cb1,c1,rfl,_,Y1⟩
 go_wp2_with fail
 refine(hL'.out _ mb ns fl c1 inn ls Y1.st (by have:=Y1.went.inner;omega) (by have:=Y1.went.low;have:=Y1.went.low';omega) (((hls.kept keptA).kept Y1.kept).up (by omega)) _ (by have:=hDd.out;omega)).mono ?_
 rintro e w2 ⟨t,a2,n2,cap2,c2,rfl,Y2⟩
 have z1:=Y1.kept.size
 have z2:=Y2.kept.size
 have z0:w.heap.size<w1.heap.size:=by simp at z1;omega
 have z3:w.heap.size<w2.heap.size:=by omega
 have b0:w2.heap[w.heap.size]?=some zeroS:=Y2.kept.obj (Y1.kept.obj (heap_alloc_new w _) (by omega)) (by omega)
 have cr:=slot14 b0
 obtain⟨r0,r1,r2,r3,r4,r5,r6,r7,r8,r9,r10,r11,r12,r13,q0,q1,q2,q3,q4,q5,q6,q7,q8,q9,q10,q11,q12,q13⟩:=cr
 go_wp2_with fail
 · exfalso
   simp only[beq_iff_eq]at *
   omega
 · refine bodyPost_ret (v:=.agg #[.int .i64 3,.int .i64 0,.string ⟨#[]⟩,.string ⟨#[]⟩,.int .i64 k1,.int .i64 n1,.string op1,.slice ak1 nk1 ck1,.slice ab1 nb1 cb1,.slice a2 n2 cap2,.slice none 0 0,.bool false,.bool false,.slice none 0 0]) (by simp[results,Tryz.results43,go_sem,r0,r1,r2,r3,r4,r5,r6,r7,r8,r9,r10,r11,r12,r13,z3];done) rfl ?_
   refine cond_end (wf:=_) (has:=false) (chain:=false) hk3 hM Y1 Y2 Y2.st (Kept.refl _ _) (rep_nil _ _) (Went.same c2) ?_ ?_ ?_ ?_ (.ifNo _ _ Y1.wf Y2.wf) ?_
   · omega
   · omega
   · simp[T.cost]
   · simp[T.deep]
   · exact(Kept.set14 (M:=fun b=>b=w.heap.size∨b=w2.heap.size) (.inl rfl)).trans keptA
 · refine bodyPost_ret (v:=.agg #[.int .i64 3,.int .i64 0,.string ⟨#[]⟩,.string ⟨#[]⟩,.int .i64 k1,.int .i64 n1,.string op1,.slice ak1 nk1 ck1,.slice ab1 nb1 cb1,.slice a2 n2 cap2,.slice none 0 0,.bool false,.bool false,.slice none 0 0]) (by simp[results,Tryz.results43,go_sem,r0,r1,r2,r3,r4,r5,r6,r7,r8,r9,r10,r11,r12,r13,z3];done) rfl ?_
   refine cond_end (wf:=_) (has:=false) (chain:=false) hk3 hM Y1 Y2 Y2.st (Kept.refl _ _) (rep_nil _ _) (Went.same c2) ?_ ?_ ?_ ?_ (.ifNo _ _ Y1.wf Y2.wf) ?_
   · omega
   · omega
   · simp[T.cost]
   · simp[T.deep]
   · exact(Kept.set14 (M:=fun b=>b=w.heap.size∨b=w2.heap.size) (.inl rfl)).trans keptA
end Go.Proofs.YtleolbpibjnedaaGreat
