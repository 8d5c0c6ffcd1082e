/- gocognit's sum is the one of spec: what walks do with what is held. -/
import Derived.Test.YtleolbpibjnedaaGreatQCgC
import Derived.Test.YtleolbpibjnedaaGreatQCsA
import Derived.Test.YtleolbpibjnedaaGreatQBdD
set_option linter.unusedSimpArgs false
set_option linter.unusedVariables false
set_option maxRecDepth 100000
set_option maxHeartbeats 4000000
namespace Gc
open Go
def A.spine:A→List Nat
 | .n .bin _ _ _ b f0 f1 _ _=>b :: (f0.spine++f1.spine)
 | .n .paren _ _ _ _ f0 _ _ _=>f0.spine
 | _=>[]
theorem spine_sub:∀ (a:A),∀ c∈a.spine,c∈a.blocks
 | .nil,c,h | .cons ..,c,h=>by simp[A.spine]at h
 | .n k text num o b f0 f1 f2 f3,c,h=>by
   have h0:=spine_sub f0
   have h1:=spine_sub f1
   cases k<;>simp only[A.spine]at h<;>first
    | (cases h;done)
    | (simp only[A.blocks,List.mem_append];exact .inr (.inl (h0 c h)))
    | (rcases List.mem_cons.1 h with rfl|h
       · simp[A.blocks]
       · rcases List.mem_append.1 h with h|h
         · simp only[A.blocks,List.mem_append];exact .inr (.inl (h0 c h))
         · simp only[A.blocks,List.mem_append];exact .inr (.inr (.inl (h1 c h))))
theorem coll_els:∀ (a:A) (s:CS),(a.coll s).els=s.els∧(a.coll s).nest=s.nest
 | .nil,s | .cons ..,s=>⟨rfl,rfl⟩
 | .n k text num o b f0 f1 f2 f3,s=>by
   have h0:=coll_els f0
   have h1:=coll_els f1
   cases k<;>simp only[A.coll]<;>first
    | exact⟨rfl,rfl⟩
    | (rw[(h0 _).1,(h0 _).2];exact⟨rfl,rfl⟩)
    | (rw[(h1 _).1,(h1 _).2,(h0 _).1,(h0 _).2];exact⟨rfl,rfl⟩)
theorem done_other(s:CS){p:Nat}(hp:p≠K.bin.pty)(b c:Nat):(s.done p b).cal K.bin.pty c=s.cal K.bin.pty c:=by
 simp only[CS.done,if_neg (show ¬ (K.bin.pty=p∧c=b) from fun e=>hp e.1.symm)]
theorem coll_cal:∀ (a:A) (s:CS) (c:Nat),(a.coll s).cal K.bin.pty c=(decide (c∈a.spine) || s.cal K.bin.pty c)
 | .nil,s,c | .cons ..,s,c=>by simp[A.coll,A.spine]
 | .n k text num o b f0 f1 f2 f3,s,c=>by
   have h0:=coll_cal f0
   have h1:=coll_cal f1
   cases k<;>simp only[A.coll,A.spine]<;>first
    | (rw[done_other s (by decide)];simp;done)
    | (show(f0.coll (s.done K.paren.pty b)).cal K.bin.pty c=(decide (c∈f0.spine) || s.cal K.bin.pty c)
       rw[h0,done_other s (by decide)];done)
    | (rw[h1,h0]
       simp only[CS.done,true_and,List.mem_cons,List.mem_append]
       by_cases e1:c=b<;>by_cases e2:c∈f0.spine<;>by_cases e3:c∈f1.spine<;>simp[e1,e2,e3])
def runsI:List Int→Int→Int
 | [],_=>0
 | op :: l,last=>if last=op then runsI l last else 1+runsI l op
theorem runs_does(pos:Value):∀ (l:List Int) (last:Int) (s:CS),(s.runs pos l last).sum=s.sum+runsI l last∧(s.runs pos l last).nest=s.nest∧(s.runs pos l last).els=s.els∧(s.runs pos l last).cal=s.cal
 | [],_,s=>by simp[CS.runs,runsI]
 | op :: l,last,s=>by
   simp only[CS.runs,runsI]
   split
   · exact runs_does pos l last s
   · obtain⟨h1,h2,h3,h4⟩:=runs_does pos l op (s.add ⟨1,0,tokText op,pos⟩)
     refine⟨?_,h2,h3,h4⟩
     rw[h1,CS.sum_add]
     show s.sum+1+_=_
     omega
theorem tok_and:tokOf sAnd=28:=by decide
theorem tok_or:tokOf sOr=29:=by decide
theorem tok_empty:tokOf sE=0:=by decide
theorem tok_same{x y:Str}(hx:x=sAnd∨x=sOr)(hy:y=sE∨y=sAnd∨y=sOr):(tokOf y=tokOf x)↔(x.toList == y.toList)=true:=by
 rw[Go.ByteArray.toList_eq,Go.ByteArray.toList_eq]
 rcases hx with rfl|rfl<;>rcases hy with rfl|rfl|rfl<;>simp only[tok_and,tok_or,tok_empty]<;>decide
theorem runs_same:∀ (l:List Str) (last:Str),(∀ x∈l,x=sAnd∨x=sOr)→(last=sE∨last=sAnd∨last=sOr)→runsI (l.map tokOf) (tokOf last)=runsN l last
 | [],_,_,_=>rfl
 | op :: l,last,h,hl=>by
   have e:=tok_same (h op List.mem_cons_self) hl
   simp only[List.map_cons,runsI,runsN]
   by_cases h1:tokOf last=tokOf op
   · rw[if_pos h1,if_pos (e.1 h1)]
     exact runs_same l last (fun x hx=>h x (List.mem_cons_of_mem _ hx)) hl
   · rw[if_neg h1,if_neg (fun q=>h1 (e.2 q)),runs_same l op (fun x hx=>h x (List.mem_cons_of_mem _ hx)) (.inr (h op List.mem_cons_self))]
theorem lg_tok{op:Str}(h:isOp2 op):isLg (tokOf op)=logic op:=by
 unfold logic
 rw[Go.ByteArray.toList_eq]
 rcases h with rfl|rfl|rfl|rfl<;>decide
theorem lg_is{op:Str}(h:isOp2 op)(hl:logic op=true):op=sAnd∨op=sOr:=by
 rcases h with rfl|rfl|rfl|rfl
 · exact .inl rfl
 · exact .inr rfl
 · unfold logic at hl
   rw[Go.ByteArray.toList_eq]at hl
   cases hl
 · unfold logic at hl
   rw[Go.ByteArray.toList_eq]at hl
   cases hl
def Cl(fe fc:Nat→Bool)(L:List Nat)(s:CS):Prop:=∀ b∈L,s.els K.if_.pty b=fe b∧s.cal K.bin.pty b=fc b
def no:Nat→Bool:=fun _=>false
def Norm(s:CS):Prop:=RowKit.wrap64 s.nest=s.nest
structure St (L:List Nat) (v:Int) (s s':CS):Prop where
 sum:s'.sum=s.sum+v
 nest:s'.nest=s.nest
 els:∀ b,b ∉ L→s'.els K.if_.pty b=s.els K.if_.pty b
 cal:∀ b,b ∉ L→s'.cal K.bin.pty b=s.cal K.bin.pty b
theorem St.refl(s:CS):St [] 0 s s:=⟨by omega,rfl,fun _ _=>rfl,fun _ _=>rfl⟩
theorem St.same{L:List Nat}{v u:Int}{s s':CS}(h:St L v s s')(e:v=u):St L u s s':=e▸h
theorem St.mono{L M:List Nat}{v:Int}{s s':CS}(h:St L v s s')(hs:∀ b∈L,b∈M):St M v s s' :=
 ⟨h.sum,h.nest,fun b hb=>h.els b fun q=>hb (hs b q),fun b hb=>h.cal b fun q=>hb (hs b q)⟩
theorem St.trans{L M:List Nat}{v u:Int}{s s1 s2:CS}(h:St L v s s1)(g:St M u s1 s2):St (L++M) (v+u) s s2 :=
 ⟨by rw[g.sum,h.sum];omega,g.nest.trans h.nest,fun b hb=>(g.els b fun q=>hb (List.mem_append.2 (.inr q))).trans (h.els b fun q=>hb (List.mem_append.2 (.inl q))),
  fun b hb=>(g.cal b fun q=>hb (List.mem_append.2 (.inr q))).trans (h.cal b fun q=>hb (List.mem_append.2 (.inl q)))⟩
theorem St.cl{L M:List Nat}{v:Int}{s s':CS}{fe fc:Nat→Bool}(h:St L v s s')(c:Cl fe fc M s)(hd:∀ b∈M,b ∉ L):Cl fe fc M s':=fun b hb=>⟨(h.els b (hd b hb)).trans (c b hb).1,(h.cal b (hd b hb)).trans (c b hb).2⟩
theorem St.norm{L:List Nat}{v:Int}{s s':CS}(h:St L v s s')(n:Norm s):Norm s':=by unfold Norm;rw[h.nest];exact n
theorem St.add{L:List Nat}{v:Int}{s s':CS}(h:St L v s s')(d:DG):St L (v+d.inc) s (s'.add d):=⟨by rw[CS.sum_add,h.sum];omega,h.nest,h.els,h.cal⟩
theorem St.mark{L:List Nat}{v:Int}{s s':CS}(h:St L v s s')(c:Nat):St (L++[c]) v s (s'.mark K.if_.pty c):=by
 refine⟨h.sum,h.nest,fun b hb=>?_,fun b hb=>h.cal b fun q=>hb (List.mem_append.2 (.inl q))⟩
 have hne:¬ b=c:=fun e=>hb (List.mem_append.2 (.inr (by simp[e])))
 show(if K.if_.pty=K.if_.pty∧b=c then true else s'.els K.if_.pty b)=_
 rw[if_neg fun e=>hne e.2]
 exact h.els b fun q=>hb (List.mem_append.2 (.inl q))
def Sem(x:A)(v:Int→Int)(fe fc:Nat→Bool):Prop:=∀ s,Norm s→Cl fe fc x.blocks s→St x.blocks (v s.nest) s (x.csem s)
abbrev Z (x:A) (v:Int→Int):Prop:=Sem x v no no
theorem wrap_idem(n:Int):RowKit.wrap64 (RowKit.wrap64 n)=RowKit.wrap64 n:=by unfold RowKit.wrap64;omega
theorem St.walk{L:List Nat}{v:Int}{u:Int→Int}{s s':CS}{x:A}{fe fc:Nat→Bool}(h:St L v s s')(n:Norm s)(hz:Sem x u fe fc)(c:Cl fe fc x.blocks s)(hd:∀ b∈x.blocks,b ∉ L):St (L++x.blocks) (v+u s.nest) s (x.csem s'):=by
 have:=hz s' (h.norm n) (h.cl c hd)
 rw[h.nest]at this
 exact h.trans this
theorem St.deep{L:List Nat}{v:Int}{u:Int→Int}{s s':CS}{x:A}{fe fc:Nat→Bool}(h:St L v s s')(n:Norm s)(hz:Sem x u fe fc)(c:Cl fe fc x.blocks s)(hd:∀ b∈x.blocks,b ∉ L):St (L++x.blocks) (v+u (RowKit.wrap64 (s.nest+1))) s (x.csem s'.up).down:=by
 have q:=hz s'.up (show RowKit.wrap64 (RowKit.wrap64 _)=RowKit.wrap64 _ from wrap_idem _) (h.cl c hd)
 have e:s'.up.nest=RowKit.wrap64 (s.nest+1):=by rw[← h.nest];rfl
 rw[e]at q
 refine⟨?_,?_,fun b hb=>?_,fun b hb=>?_⟩
 · show(x.csem s'.up).sum=_
   rw[q.sum,show s'.up.sum=s'.sum from rfl,h.sum]
   omega
 · show RowKit.wrap64 ((x.csem s'.up).nest-1)=_
   rw[q.nest,e,← show RowKit.wrap64 s.nest=s.nest from n]
   unfold RowKit.wrap64
   omega
 · exact(q.els b fun m=>hb (List.mem_append.2 (.inr m))).trans (h.els b fun m=>hb (List.mem_append.2 (.inl m)))
 · exact(q.cal b fun m=>hb (List.mem_append.2 (.inr m))).trans (h.cal b fun m=>hb (List.mem_append.2 (.inl m)))
theorem nodup_n{k:K}(hk:k.real){text:Str}{num:Int}{o:Option Addr}{b:Nat}{f0 f1 f2 f3:A}(h:(A.n k text num o b f0 f1 f2 f3).blocks.Nodup) :
 (f0.blocks.Nodup∧f1.blocks.Nodup∧f2.blocks.Nodup∧f3.blocks.Nodup)∧(b ∉ f0.blocks∧b ∉ f1.blocks∧b ∉ f2.blocks∧b ∉ f3.blocks) ∧
 (∀ c∈f1.blocks,c ∉ f0.blocks)∧(∀ c∈f2.blocks,c ∉ f0.blocks∧c ∉ f1.blocks)∧(∀ c∈f3.blocks,c ∉ f0.blocks∧c ∉ f1.blocks∧c ∉ f2.blocks):=by
 have e:(A.n k text num o b f0 f1 f2 f3).blocks=b :: (f0.blocks++(f1.blocks++(f2.blocks++f3.blocks))):=by cases k<;>first | exact hk.elim | rfl
 rw[e]at h
 simp only[List.nodup_cons,List.nodup_append,List.mem_append,not_or]at h
 obtain⟨⟨a0,a1,a2,a3⟩,n0,⟨n1,⟨n2,n3,d23⟩,d12⟩,d01⟩:=h
 exact⟨⟨n0,n1,n2,n3⟩,⟨a0,a1,a2,a3⟩,fun c h1 h0=>d01 c h0 c (.inl h1) rfl,fun c h2=>⟨fun h0=>d01 c h0 c (.inr (.inl h2)) rfl,fun h1=>d12 c h1 c (.inl h2) rfl⟩,
  fun c h3=>⟨fun h0=>d01 c h0 c (.inr (.inr h3)) rfl,fun h1=>d12 c h1 c (.inr h3) rfl,fun h2=>d23 c h2 c h3 rfl⟩⟩
theorem mem_n{k:K}(hk:k.real){text:Str}{num:Int}{o:Option Addr}{b:Nat}{f0 f1 f2 f3:A}(c:Nat):c∈(A.n k text num o b f0 f1 f2 f3).blocks↔c=b∨c∈f0.blocks∨c∈f1.blocks∨c∈f2.blocks∨c∈f3.blocks:=by
 have e:(A.n k text num o b f0 f1 f2 f3).blocks=b :: (f0.blocks++(f1.blocks++(f2.blocks++f3.blocks))):=by cases k<;>first | exact hk.elim | rfl
 rw[e]
 simp only[List.mem_cons,List.mem_append]
theorem Cl.sub{fe fc:Nat→Bool}{L M:List Nat}{s:CS}(h:Cl fe fc L s)(hs:∀ b∈M,b∈L):Cl fe fc M s:=fun b hb=>h b (hs b hb)
structure Un (x y:A) (c:Nat):Prop where
 cw:x.cw=c+y.cw
 nd:x.blocks.Nodup→y.blocks.Nodup
 sub:∀ b∈y.blocks,b∈x.blocks
 sem:∀ s,x.csem s=y.csem s
theorem Un.trans{x y z:A}{c d:Nat}(h:Un x y c)(g:Un y z d):Un x z (c+d) :=
 ⟨by rw[h.cw,g.cw];omega,fun n=>g.nd (h.nd n),fun b hb=>h.sub b (g.sub b hb),fun s=>(h.sem s).trans (g.sem s)⟩
theorem Un.z{x y:A}{c:Nat}{v:Int→Int}(h:Un x y c)(hz:Z y v):Z x v:=fun s n cl=>by
 rw[h.sem]
 exact(hz s n (cl.sub h.sub)).mono h.sub
structure Bi (x y z:A) (c:Nat):Prop where
 cw:x.cw=c+y.cw+z.cw
 nd:x.blocks.Nodup→y.blocks.Nodup∧z.blocks.Nodup∧∀ b∈z.blocks,b ∉ y.blocks
 sub:∀ b,b∈y.blocks∨b∈z.blocks→b∈x.blocks
 sem:∀ s,x.csem s=z.csem (y.csem s)
theorem Bi.z{x y z:A}{c:Nat}{v u:Int→Int}(h:Bi x y z c)(n:x.blocks.Nodup)(hy:Z y v)(hz:Z z u):Z x (fun n=>v n+u n):=fun s nm cl=>by
 rw[h.sem]
 have c0:=cl.sub (M:=y.blocks) fun b hb=>h.sub b (.inl hb)
 have c1:=cl.sub (M:=z.blocks) fun b hb=>h.sub b (.inr hb)
 exact(((hy s nm c0).walk nm hz c1 (h.nd n).2.2)).mono fun b hb=>h.sub b (List.mem_append.1 hb)
theorem Z.same{x:A}{v u:Int→Int}(h:Z x v)(e:∀ n,v n=u n):Z x u:=fun s n c=>(h s n c).same (e _)
theorem cons_of_N{x:A}{h t:N}(e:x.N=.cons h t):∃ y z,x=.cons y z∧y.N=h∧z.N=t∧Bi x y z 0:=by
 cases x with
 | nil=>cases e
 | n=>simp[A.N]at e
 | cons y z =>
   refine⟨y,z,rfl,congrArg (fun x=>match x with | N.cons h _=>h | _=>.nil) e,congrArg (fun x=>match x with | N.cons _ t=>t | _=>.nil) e,by simp only[A.cw];omega,fun n=>?_,fun b hb=>by simpa [A.blocks]using hb,fun _=>rfl⟩
   simp only[A.blocks,List.nodup_append]at n
   exact⟨n.1,n.2.1,fun b hz hy=>n.2.2 b hy b hz rfl⟩
theorem nil_of_N{x:A}(e:x.N=.nil):x=.nil:=by
 cases x with
 | nil=>rfl
 | cons=>cases e
 | n=>simp[A.N]at e
theorem nil_z:Z .nil (fun _=>0):=fun s _ _=>St.refl s
theorem one_of_N{x:A}{h:N}(e:x.N=.one h):∃ y,y.N=h∧Un x y 0:=by
 obtain⟨y,z,rfl,hy,hz,B⟩:=cons_of_N e
 obtain rfl:=nil_of_N hz
 exact⟨y,hy,by rw[B.cw];simp[A.cw],fun n=>(B.nd n).1,fun b hb=>B.sub b (.inl hb),B.sem⟩
theorem none_z{x:A}(e:x.N=N.none):x.K=.none∧x.cw=0∧Z x (fun _=>0):=by
 obtain⟨o,b,f0,f1,f2,f3,rfl,-⟩:=A_of_N (k:=.none) e
 refine⟨rfl,by simp(config:={decide:=true}) only[A.cw,K.cwn,K.arity,if_true,if_false],fun s _ _=>?_⟩
 exact(St.refl s).mono (by simp)
theorem name_z{x:A}{t:Str}{i:Int}(e:x.N=N.name t i):x.K=.ident∧x.cw=2∧Z x (fun _=>0):=by
 obtain⟨o,b,f0,f1,f2,f3,rfl,-⟩:=A_of_N (k:=.ident) e
 refine⟨rfl,by simp(config:={decide:=true}) only[A.cw,K.cwn,K.arity,if_true,if_false],fun s _ _=>?_⟩
 exact(St.refl s).mono (by simp)
theorem lit_z{x:A}{m:Nat}(e:x.N=N.lit m):x.K=.lit∧x.cw=2∧Z x (fun _=>0):=by
 obtain⟨o,b,f0,f1,f2,f3,rfl,-⟩:=A_of_N (k:=.lit) e
 refine⟨rfl,by simp(config:={decide:=true}) only[A.cw,K.cwn,K.arity,if_true,if_false],fun s _ _=>?_⟩
 exact(St.refl s).mono (by simp)
theorem list_un{x:A}{l:N}(e:x.N=N.list l):∃ y,y.N=l∧Un x y 0:=by
 obtain⟨o,b,f0,f1,f2,f3,rfl,e'⟩:=A_of_N (k:=.list) e
 refine⟨f0,congrArg (fun x=>match x with | N.n _ _ _ k=>k | _=>.nil) e',by simp(config:={decide:=true}) only[A.cw,K.cwn,K.arity,if_true,if_false];omega,fun n=>?_,fun c hc=>?_,fun _=>rfl⟩
 · simp only[A.blocks,List.nil_append,List.nodup_append]at n
   exact n.1
 · simp[A.blocks,hc]
def K.un1(k:K):Prop:=k=.paren∨k=.un∨k=.flist∨k=.exprS∨k=.inc∨k=.ret∨k=.block
theorem un_k{x:A}(k:K)(hk:k.un1){t:Str}{i:Int}{l:N}(e:x.N=.n k.str t i (.one l)):∃ o b f0 f1 f2 f3,x=.n k t i o b f0 f1 f2 f3∧f0.N=l∧Un x f0 2:=by
 have hr:k.real:=by rcases hk with rfl | rfl | rfl | rfl | rfl | rfl | rfl<;>trivial
 obtain⟨o,b,f0,f1,f2,f3,rfl,e'⟩:=A_of_N e
 refine⟨o,b,f0,f1,f2,f3,rfl,?_⟩
 rcases hk with rfl|rfl|rfl|rfl|rfl|rfl|rfl
 all_goals exact⟨congrArg (fun x=>match x with | N.n _ _ _ (.cons y _)=>y | _=>.nil) e',by simp(config:={decide:=true}) only[A.cw,K.cwn,K.arity,if_true,if_false];omega,fun n=>(nodup_n hr n).1.1,fun c hc=>(mem_n hr c).2 (.inr (.inl hc)),fun _=>rfl⟩
def K.bi1(k:K):Prop:=k=.call∨k=.assign∨k=.case_∨k=.comm∨k=.labeled
theorem bi_k{x:A}(k:K)(hk:k.bi1){t:Str}{i:Int}{l m:N}(e:x.N=.n k.str t i (.two l m)):∃ o b f0 f1 f2 f3,x=.n k t i o b f0 f1 f2 f3∧f0.N=l∧f1.N=m∧Bi x f0 f1 2:=by
 have hr:k.real:=by rcases hk with rfl | rfl | rfl | rfl | rfl<;>trivial
 obtain⟨o,b,f0,f1,f2,f3,rfl,e'⟩:=A_of_N e
 refine⟨o,b,f0,f1,f2,f3,rfl,?_⟩
 rcases hk with rfl|rfl|rfl|rfl|rfl
 all_goals exact⟨congrArg (fun x=>match x with | N.n _ _ _ (.cons y _)=>y | _=>.nil) e',congrArg (fun x=>match x with | N.n _ _ _ (.cons _ (.cons y _))=>y | _=>.nil) e',by simp(config:={decide:=true}) only[A.cw,K.cwn,K.arity,if_true,if_false];omega,fun n=>⟨(nodup_n hr n).1.1,(nodup_n hr n).1.2.1,(nodup_n hr n).2.2.1⟩,
  fun c hc=>(mem_n hr c).2 (hc.elim (fun h=>.inr (.inl h)) fun h=>.inr (.inr (.inl h))),fun _=>rfl⟩
theorem block_un{x:A}{l:N}(e:x.N=N.block l):x.K=.block∧∃ y,y.N=l∧Un x y 2:=by
 obtain⟨o,b,f0,f1,f2,f3,rfl,e0,U⟩:=un_k .block (by simp[K.un1]) e
 obtain⟨y,hy,V⟩:=list_un e0
 exact⟨rfl,y,hy,U.trans V⟩
theorem ftype_z{x:A}(e:x.N=N.ftype):x.cw=4∧Z x (fun _=>0):=by
 obtain⟨o,b,f0,f1,f2,f3,rfl,e'⟩:=A_of_N (k:=.ftype) e
 have e0:f0.N=N.none:=congrArg (fun x=>match x with | N.n _ _ _ (.cons y _)=>y | _=>.nil) e'
 have e1:f1.N=.part kFieldList (.one .none):=congrArg (fun x=>match x with | N.n _ _ _ (.cons _ (.cons y _))=>y | _=>.nil) e'
 have e2:f2.N=N.none:=congrArg (fun x=>match x with | N.n _ _ _ (.cons _ (.cons _ (.cons y _)))=>y | _=>.nil) e'
 obtain⟨-,c0,-⟩:=none_z e0
 obtain⟨-,c2,-⟩:=none_z e2
 obtain⟨_,_,_,_,_,_,e3,e4,U⟩:=un_k .flist (by simp[K.un1]) e1
 obtain⟨-,c4,-⟩:=none_z e4
 have c1:=U.cw
 rw[c4]at c1
 refine⟨by simp(config:={decide:=true}) only[A.cw,K.cwn,K.arity,if_true,if_false];omega,fun s n c=>?_⟩
 have q0:∀ {x:A},x.N=N.none→∀ s,x.csem s=s:=fun {x} e s=>by
  obtain⟨o,b,f0,f1,f2,f3,rfl,-⟩:=A_of_N (k:=.none) e
  rfl
 have q:(A.n .ftype sE 0 o b f0 f1 f2 f3).csem s=s:=by
  show f2.csem (f1.csem (f0.csem s))=s
  rw[q0 e2,U.sem,q0 e4,q0 e0]
 rw[q]
 exact(St.refl s).mono (by simp)
theorem flit_z{x:A}{l:N}(e:x.N=.part kFuncLit (.two .ftype (.block l))):x.K=.flit∧∃ y,y.N=l∧x.cw=8+y.cw∧(x.blocks.Nodup→y.blocks.Nodup∧∀ v,Z y v→Z x (fun n=>v (RowKit.wrap64 (n+1)))):=by
 obtain⟨o,b,f0,f1,f2,f3,rfl,e'⟩:=A_of_N (k:=.flit) e
 have e0:f0.N=N.ftype:=congrArg (fun x=>match x with | N.n _ _ _ (.cons y _)=>y | _=>.nil) e'
 have e1:f1.N=.block l:=congrArg (fun x=>match x with | N.n _ _ _ (.cons _ (.cons y _))=>y | _=>.nil) e'
 obtain⟨c0,z0⟩:=ftype_z e0
 obtain⟨-,y,hy,U⟩:=block_un e1
 have c1:=U.cw
 refine⟨rfl,y,hy,by simp(config:={decide:=true}) only[A.cw,K.cwn,K.arity,if_true,if_false];omega,fun n=>?_⟩
 obtain⟨⟨n0,n1,-,-⟩,-,d1,-,-⟩:=nodup_n (k:=.flit) trivial n
 refine⟨U.nd n1,fun v hv s nm c=>?_⟩
 have c0':=c.sub (M:=f0.blocks) fun b hb=>(mem_n (k:=.flit) trivial b).2 (.inr (.inl hb))
 have c1':=c.sub (M:=f1.blocks) fun b hb=>(mem_n (k:=.flit) trivial b).2 (.inr (.inr (.inl hb)))
 refine(((z0 s nm c0').deep nm (U.z hv) c1' d1).mono fun b hb=>?_).same (Int.zero_add _)
 rcases List.mem_append.1 hb with hb|hb
 · exact(mem_n (k:=.flit) trivial b).2 (.inr (.inl hb))
 · exact(mem_n (k:=.flit) trivial b).2 (.inr (.inr (.inl hb)))
theorem clause_z{x:A}{m:Nat}{last:Bool}{l:N}(e:x.N=.clause m last l):∃ y,y.N=l∧x.cw≤8+y.cw∧(x.blocks.Nodup→y.blocks.Nodup∧∀ v,Z y v→Z x v):=by
 unfold N.clause at e
 split at e
 · obtain⟨o,b,f0,f1,f2,f3,rfl,e0,e1,B⟩:=bi_k .case_ (by simp[K.bi1]) e
   obtain⟨y,hy,U⟩:=list_un e1
   have h0:f0.cw≤2∧Z f0 (fun _=>0):=by
    cases last
    · obtain⟨y0,h0,U0⟩:=list_un e0
      obtain⟨y1,h1,U1⟩:=one_of_N h0
      obtain⟨-,c,z⟩:=lit_z h1
      have U2:=U0.trans U1
      have:=U2.cw
      exact⟨by omega,U2.z z⟩
    · obtain⟨-,c,z⟩:=none_z e0
      exact⟨by omega,z⟩
   refine⟨y,hy,?_,fun n=>⟨U.nd (B.nd n).2.1,fun v hv=>(B.z n h0.2 (U.z hv)).same (by intro n;omega)⟩⟩
   have:=B.cw
   have:=U.cw
   omega
 · obtain⟨o,b,f0,f1,f2,f3,rfl,e0,e1,B⟩:=bi_k .comm (by simp[K.bi1]) e
   obtain⟨y,hy,U⟩:=list_un e1
   have h0:f0.cw≤6∧Z f0 (fun _=>0):=by
    cases last
    · obtain⟨_,_,y0,_,_,_,_,h0,U0⟩:=un_k .exprS (by simp[K.un1]) e0
      obtain⟨_,_,y1,_,_,_,_,h1,U1⟩:=un_k .un (by simp[K.un1]) h0
      obtain⟨-,c,z⟩:=name_z h1
      have U2:=U0.trans U1
      have:=U2.cw
      exact⟨by omega,U2.z z⟩
    · obtain⟨-,c,z⟩:=none_z e0
      exact⟨by omega,z⟩
   refine⟨y,hy,?_,fun n=>⟨U.nd (B.nd n).2.1,fun v hv=>(B.z n h0.2 (U.z hv)).same (by intro n;omega)⟩⟩
   have:=B.cw
   have:=U.cw
   omega
def spi(x:A):Nat→Bool:=fun c=>decide (c∈x.spine)
theorem two_z{op:Str}{i:Int}{o:Option Addr}{b:Nat}{f0 f1 f2 f3:A}{u0 u1:Int→Int}(n:(A.n .bin op i o b f0 f1 f2 f3).blocks.Nodup)(z0:Sem f0 u0 no (spi f0))(z1:Sem f1 u1 no (spi f1))(s:CS)(nm:Norm s)
 (c:Cl no (spi (.n .bin op i o b f0 f1 f2 f3)) (A.n .bin op i o b f0 f1 f2 f3).blocks s):St (A.n .bin op i o b f0 f1 f2 f3).blocks (u0 s.nest+u1 s.nest) s (f1.csem (f0.csem s)):=by
 obtain⟨⟨n0,n1,-,-⟩,⟨b0,b1,-,-⟩,d1,-,-⟩:=nodup_n (k:=.bin) trivial n
 have c0:Cl no (spi f0) f0.blocks s:=fun p hp=>by
  have h:=c p ((mem_n (k:=.bin) trivial p).2 (.inr (.inl hp)))
  refine⟨h.1,h.2.trans ?_⟩
  have h1:p≠b:=fun e=>b0 (e▸hp)
  have h2:p ∉ f1.spine:=fun e=>d1 p (spine_sub f1 p e) hp
  simp[spi,A.spine,h1,h2]
 have c1:Cl no (spi f1) f1.blocks s:=fun p hp=>by
  have h:=c p ((mem_n (k:=.bin) trivial p).2 (.inr (.inr (.inl hp))))
  refine⟨h.1,h.2.trans ?_⟩
  have h1:p≠b:=fun e=>b1 (e▸hp)
  have h2:p ∉ f0.spine:=fun e=>d1 p hp (spine_sub f0 p e)
  simp[spi,A.spine,h1,h2]
 refine((z0 s nm c0).walk nm z1 c1 d1).mono fun p hp=>?_
 rcases List.mem_append.1 hp with hp|hp
 · exact(mem_n (k:=.bin) trivial p).2 (.inr (.inl hp))
 · exact(mem_n (k:=.bin) trivial p).2 (.inr (.inr (.inl hp)))
theorem bin_counted{op:Str}{i:Int}{o:Option Addr}{b:Nat}{f0 f1 f2 f3:A}{u0 u1:Int→Int}(n:(A.n .bin op i o b f0 f1 f2 f3).blocks.Nodup)(z0:Sem f0 u0 no (spi f0))(z1:Sem f1 u1 no (spi f1)) :
 Sem (.n .bin op i o b f0 f1 f2 f3) (fun n=>u0 n+u1 n) no (spi (.n .bin op i o b f0 f1 f2 f3)):=fun s nm c=>by
 have hc:s.cal K.bin.pty b=true:=by rw[(c b ((mem_n (k:=.bin) trivial b).2 (.inl rfl))).2];simp[spi,A.spine]
 have e:(A.n .bin op i o b f0 f1 f2 f3).csem s=f1.csem (f0.csem s):=by
  show f1.csem (f0.csem (gstep _ s))=_
  have:gstep (.n .bin op i o b f0 f1 f2 f3) s=s:=by simp only[gstep,hc];simp
  rw[this]
 rw[e]
 exact two_z n z0 z1 s nm c
theorem bin_plain{op:Str}{i:Int}{o:Option Addr}{b:Nat}{f0 f1 f2 f3:A}{u0 u1:Int→Int}(n:(A.n .bin op i o b f0 f1 f2 f3).blocks.Nodup)(hl:isLg (tokOf op)=false)(z0:Z f0 u0)(z1:Z f1 u1) :
 Z (.n .bin op i o b f0 f1 f2 f3) (fun n=>u0 n+u1 n):=fun s nm c=>by
 obtain⟨-,-,d1,-,-⟩:=nodup_n (k:=.bin) trivial n
 have e:(A.n .bin op i o b f0 f1 f2 f3).csem s=f1.csem (f0.csem s):=by
  show f1.csem (f0.csem (gstep _ s))=_
  have:gstep (.n .bin op i o b f0 f1 f2 f3) s=s:=by simp only[gstep,hl];simp
  rw[this]
 rw[e]
 have c0:=c.sub (M:=f0.blocks) fun p hp=>(mem_n (k:=.bin) trivial p).2 (.inr (.inl hp))
 have c1:=c.sub (M:=f1.blocks) fun p hp=>(mem_n (k:=.bin) trivial p).2 (.inr (.inr (.inl hp)))
 refine((z0 s nm c0).walk nm z1 c1 d1).mono fun p hp=>?_
 rcases List.mem_append.1 hp with hp|hp
 · exact(mem_n (k:=.bin) trivial p).2 (.inr (.inl hp))
 · exact(mem_n (k:=.bin) trivial p).2 (.inr (.inr (.inl hp)))
theorem bin_first{op:Str}{i:Int}{o:Option Addr}{b:Nat}{f0 f1 f2 f3:A}{u0 u1:Int→Int}{l:List Str}(n:(A.n .bin op i o b f0 f1 f2 f3).blocks.Nodup)(hl:isLg (tokOf op)=true)(hops:(A.n .bin op i o b f0 f1 f2 f3).ops=l.map tokOf)(hlg:∀ x∈l,x=sAnd∨x=sOr)
 (z0:Sem f0 u0 no (spi f0)) (z1:Sem f1 u1 no (spi f1)):Z (.n .bin op i o b f0 f1 f2 f3) (fun n=>runsN l sE+(u0 n+u1 n)):=fun s nm c=>by
 have hc:s.cal K.bin.pty b=false:=(c b ((mem_n (k:=.bin) trivial b).2 (.inl rfl))).2
 obtain⟨s1,hs1⟩:∃ s1,s1=gstep (.n .bin op i o b f0 f1 f2 f3) s:=⟨_,rfl⟩
 have e:(A.n .bin op i o b f0 f1 f2 f3).csem s=f1.csem (f0.csem s1):=by rw[hs1];rfl
 have eg:s1=CS.runs (posK .bin b) (A.n .bin op i o b f0 f1 f2 f3).ops 0 ((A.n .bin op i o b f0 f1 f2 f3).coll s):=by rw[hs1];simp only[gstep,hl,hc,and_self,if_true]
 obtain⟨r1,r2,r3,r4⟩:=runs_does (posK .bin b) (A.n .bin op i o b f0 f1 f2 f3).ops 0 ((A.n .bin op i o b f0 f1 f2 f3).coll s)
 obtain⟨q1,q2⟩:=coll_els (.n .bin op i o b f0 f1 f2 f3) s
 rw[← eg]at r1 r2 r3 r4
 have hr:runsI (A.n .bin op i o b f0 f1 f2 f3).ops 0=runsN l sE:=by rw[hops,← tok_empty];exact runs_same l sE hlg (.inl rfl)
 have hS:St (A.n .bin op i o b f0 f1 f2 f3).blocks (runsN l sE) s s1:=by
  refine⟨?_,r2.trans q2,fun p _=>by rw[r3,q1],fun p hp=>?_⟩
  · rw[r1,hr]
    show(CS.sum _)+_=_
    unfold CS.sum
    rw[coll_ds]
  · rw[r4,coll_cal]
    have:p ∉ (A.n .bin op i o b f0 f1 f2 f3).spine:=fun h=>hp (spine_sub _ p h)
    simp[this]
 have c1:Cl no (spi (.n .bin op i o b f0 f1 f2 f3)) (A.n .bin op i o b f0 f1 f2 f3).blocks s1:=fun p hp=>by
  refine⟨by rw[r3,q1];exact(c p hp).1,?_⟩
  rw[r4,coll_cal,(c p hp).2]
  simp[spi,no]
 have h2:=two_z n z0 z1 s1 (hS.norm nm) c1
 rw[hS.nest]at h2
 rw[e]
 exact(hS.trans h2).mono fun p hp=>(List.mem_append.1 hp).elim id id
theorem Z.none{x:A}{v:Int→Int}(h:Z x v)(hs:x.spine=[]):Sem x v no (spi x):=fun s nm c=>h s nm fun p hp=>⟨(c p hp).1,by rw[(c p hp).2];simp[spi,no,hs]⟩
theorem branch_z{x:A}{op:Str}(e:x.N=.n kBranch op 0 (.one .none)):x.cw=2∧Z x (fun _=>0):=by
 obtain⟨o,b,f0,f1,f2,f3,rfl,e'⟩:=A_of_N (k:=.branch) e
 have e0:f0.N=N.none:=congrArg (fun x=>match x with | N.n _ _ _ (.cons y _)=>y | _=>.nil) e'
 obtain⟨k0,c0,z0⟩:=none_z e0
 refine⟨by simp(config:={decide:=true}) only[A.cw,K.cwn,K.arity,if_true,if_false];omega,fun s nm c=>?_⟩
 have es:(A.n .branch op 0 o b f0 f1 f2 f3).csem s=f0.csem s:=by
  show f0.csem (gstep _ s)=_
  cases f0 with
  | nil=>cases e0
  | cons=>cases e0
  | n k=>cases k0;rfl
 rw[es]
 exact(z0 s nm (c.sub fun p hp=>(mem_n (k:=.branch) trivial p).2 (.inr (.inl hp)))).mono fun p hp=>(mem_n (k:=.branch) trivial p).2 (.inr (.inl hp))
theorem branchTo_z{x:A}{op t:Str}{i:Int}(e:x.N=.n kBranch op 0 (.one (.name t i))):x.cw=4∧Z x (fun _=>1):=by
 obtain⟨o,b,f0,f1,f2,f3,rfl,e'⟩:=A_of_N (k:=.branch) e
 have e0:f0.N=N.name t i:=congrArg (fun x=>match x with | N.n _ _ _ (.cons y _)=>y | _=>.nil) e'
 obtain⟨k0,c0,z0⟩:=name_z e0
 refine⟨by simp(config:={decide:=true}) only[A.cw,K.cwn,K.arity,if_true,if_false];omega,fun s nm c=>?_⟩
 have es:(A.n .branch op 0 o b f0 f1 f2 f3).csem s=f0.csem (s.add ⟨1,0,tokText (tokOf op),posK .branch b⟩):=by
  show f0.csem (gstep _ s)=_
  cases f0 with
  | nil=>cases e0
  | cons=>cases e0
  | n k=>cases k0;rfl
 rw[es]
 refine((((St.refl s).add _).walk nm z0 (c.sub fun p hp=>(mem_n (k:=.branch) trivial p).2 (.inr (.inl hp))) (by simp)).mono fun p hp=>(mem_n (k:=.branch) trivial p).2 (.inr (.inl (by simpa using hp)))).same ?_
 rfl
theorem loop_z{x y z:A}{s:CS}{t:Str}{p:Value}{v u:Int→Int}(zy:Z y v)(zz:Z z u)(nm:Norm s)(c:Cl no no x.blocks s)(h0:∀ b∈y.blocks,b∈x.blocks)(h1:∀ b∈z.blocks,b∈x.blocks)(hd:∀ b∈z.blocks,b ∉ y.blocks) :
 St x.blocks (v s.nest+(RowKit.wrap64 (1+s.nest)+u (RowKit.wrap64 (s.nest+1)))) s (z.csem (y.csem (s.deepen t p)).up).down:=by
 have q:=(((St.refl s).add ⟨RowKit.wrap64 (s.nest+1),s.nest,t,p⟩).walk nm zy (c.sub h0) (by simp)).deep nm zz (c.sub h1) (by simpa using hd)
 refine(q.mono fun b hb=>?_).same ?_
 · simp only[List.nil_append,List.mem_append]at hb
   exact hb.elim (h0 b) (h1 b)
 · show 0+RowKit.wrap64 (s.nest+1)+v s.nest+u _=_
   rw[show 1+s.nest=s.nest+1 by omega]
   omega
def LoopOk(x y z:A):Prop:=x.cw=4+y.cw+z.cw∧(x.blocks.Nodup→y.blocks.Nodup∧z.blocks.Nodup∧∀ v u,Z y v→Z z u→Z x (fun n=>v n+(RowKit.wrap64 (1+n)+u (RowKit.wrap64 (n+1)))))
theorem for_z{x:A}{c l:N}(e:x.N=.part kFor (.four .none c .none (.block l))):∃ y z,y.N=c∧z.N=l∧LoopOk x y z:=by
 obtain⟨o,b,f0,f1,f2,f3,rfl,e'⟩:=A_of_N (k:=.for_) e
 have e0:f0.N=N.none:=congrArg (fun x=>match x with | N.n _ _ _ (.cons y _)=>y | _=>.nil) e'
 have e1:f1.N=c:=congrArg (fun x=>match x with | N.n _ _ _ (.cons _ (.cons y _))=>y | _=>.nil) e'
 have e2:f2.N=N.none:=congrArg (fun x=>match x with | N.n _ _ _ (.cons _ (.cons _ (.cons y _)))=>y | _=>.nil) e'
 have e3:f3.N=.block l:=congrArg (fun x=>match x with | N.n _ _ _ (.cons _ (.cons _ (.cons _ (.cons y _))))=>y | _=>.nil) e'
 obtain⟨-,c0,-⟩:=none_z e0
 obtain⟨-,c2,-⟩:=none_z e2
 obtain⟨-,z,hz,U⟩:=block_un e3
 have:=U.cw
 refine⟨f1,z,e1,hz,by simp(config:={decide:=true}) only[A.cw,K.cwn,K.arity,if_true,if_false];omega,fun n=>?_⟩
 obtain⟨⟨n0,n1,n2,n3⟩,-,-,-,d3⟩:=nodup_n (k:=.for_) trivial n
 refine⟨n1,U.nd n3,fun v u zy zz s nm c=>?_⟩
 exact loop_z zy (U.z zz) nm c (fun b hb=>(mem_n (k:=.for_) trivial b).2 (.inr (.inr (.inl hb)))) (fun b hb=>(mem_n (k:=.for_) trivial b).2 (.inr (.inr (.inr (.inr hb))))) fun b hb=>(d3 b hb).2.1
theorem range_z{x:A}{c l:N}(e:x.N=.part kRange (.four .none .none c (.block l))):∃ y z,y.N=c∧z.N=l∧LoopOk x y z:=by
 obtain⟨o,b,f0,f1,f2,f3,rfl,e'⟩:=A_of_N (k:=.range) e
 have e0:f0.N=N.none:=congrArg (fun x=>match x with | N.n _ _ _ (.cons y _)=>y | _=>.nil) e'
 have e1:f1.N=N.none:=congrArg (fun x=>match x with | N.n _ _ _ (.cons _ (.cons y _))=>y | _=>.nil) e'
 have e2:f2.N=c:=congrArg (fun x=>match x with | N.n _ _ _ (.cons _ (.cons _ (.cons y _)))=>y | _=>.nil) e'
 have e3:f3.N=.block l:=congrArg (fun x=>match x with | N.n _ _ _ (.cons _ (.cons _ (.cons _ (.cons y _))))=>y | _=>.nil) e'
 obtain⟨-,c0,-⟩:=none_z e0
 obtain⟨-,c2,-⟩:=none_z e1
 obtain⟨-,z,hz,U⟩:=block_un e3
 have:=U.cw
 refine⟨f2,z,e2,hz,by simp(config:={decide:=true}) only[A.cw,K.cwn,K.arity,if_true,if_false];omega,fun n=>?_⟩
 obtain⟨⟨n0,n1,n2,n3⟩,-,-,-,d3⟩:=nodup_n (k:=.range) trivial n
 refine⟨n2,U.nd n3,fun v u zy zz s nm c=>?_⟩
 exact loop_z zy (U.z zz) nm c (fun b hb=>(mem_n (k:=.range) trivial b).2 (.inr (.inr (.inr (.inl hb))))) (fun b hb=>(mem_n (k:=.range) trivial b).2 (.inr (.inr (.inr (.inr hb))))) fun b hb=>(d3 b hb).2.2
theorem switch_z{x:A}{c l:N}(e:x.N=.part kSwitch (.three .none c (.part kBlock (.one (.list l))))):∃ y z,y.N=c∧z.N=l∧LoopOk x y z:=by
 obtain⟨o,b,f0,f1,f2,f3,rfl,e'⟩:=A_of_N (k:=.switch) e
 have e0:f0.N=N.none:=congrArg (fun x=>match x with | N.n _ _ _ (.cons y _)=>y | _=>.nil) e'
 have e1:f1.N=c:=congrArg (fun x=>match x with | N.n _ _ _ (.cons _ (.cons y _))=>y | _=>.nil) e'
 have e2:f2.N=.block l:=congrArg (fun x=>match x with | N.n _ _ _ (.cons _ (.cons _ (.cons y _)))=>y | _=>.nil) e'
 obtain⟨-,c0,-⟩:=none_z e0
 obtain⟨-,z,hz,U⟩:=block_un e2
 have:=U.cw
 refine⟨f1,z,e1,hz,by simp(config:={decide:=true}) only[A.cw,K.cwn,K.arity,if_true,if_false];omega,fun n=>?_⟩
 obtain⟨⟨n0,n1,n2,n3⟩,-,-,d2,-⟩:=nodup_n (k:=.switch) trivial n
 refine⟨n1,U.nd n2,fun v u zy zz s nm c=>?_⟩
 exact loop_z zy (U.z zz) nm c (fun b hb=>(mem_n (k:=.switch) trivial b).2 (.inr (.inr (.inl hb)))) (fun b hb=>(mem_n (k:=.switch) trivial b).2 (.inr (.inr (.inr (.inl hb))))) fun b hb=>(d2 b hb).2
theorem select_z{x:A}{l:N}(e:x.N=.part kSelect (.one (.part kBlock (.one (.list l))))):∃ z,z.N=l∧x.cw=4+z.cw∧(x.blocks.Nodup→z.blocks.Nodup∧∀ u,Z z u→Z x (fun n=>RowKit.wrap64 (1+n)+u (RowKit.wrap64 (n+1)))):=by
 obtain⟨o,b,f0,f1,f2,f3,rfl,e'⟩:=A_of_N (k:=.select) e
 have e0:f0.N=.block l:=congrArg (fun x=>match x with | N.n _ _ _ (.cons y _)=>y | _=>.nil) e'
 obtain⟨-,z,hz,U⟩:=block_un e0
 have:=U.cw
 refine⟨z,hz,by simp(config:={decide:=true}) only[A.cw,K.cwn,K.arity,if_true,if_false];omega,fun n=>?_⟩
 obtain⟨⟨n0,n1,n2,n3⟩,-,-,d2,-⟩:=nodup_n (k:=.select) trivial n
 refine⟨U.nd n0,fun u zz s nm c=>?_⟩
 have hm:∀ p∈f0.blocks,p∈(A.n .select sE 0 o b f0 f1 f2 f3).blocks:=fun p hb=>(mem_n (k:=.select) trivial p).2 (.inr (.inl hb))
 have q:=((St.refl s).add ⟨RowKit.wrap64 (s.nest+1),s.nest,sSelect,posK .select b⟩).deep nm (U.z zz) (c.sub hm) (by simp)
 refine(q.mono fun b hb=>hm b (by simpa using hb)).same ?_
 show 0+RowKit.wrap64 (s.nest+1)+u _=RowKit.wrap64 (1+s.nest)+u _
 rw[show 1+s.nest=s.nest+1 by omega]
 omega
def bl(x:A):Nat→Bool:=fun c=>decide (c=x.blk)
theorem if_head{text:Str}{num:Int}{o:Option Addr}{b:Nat}{f0 f1 f2 f3:A}{v u:Int→Int}{fe:Nat→Bool}{s:CS}(n:(A.n .if_ text num o b f0 f1 f2 f3).blocks.Nodup)(z1:Z f1 v)(z2:Z f2 u)(nm:Norm s)
 (c:Cl fe no (A.n .if_ text num o b f0 f1 f2 f3).blocks s) (hfe:∀ c,c≠b→fe c=false) :
 St (f1.blocks++f2.blocks) (v s.nest+((if fe b=true then 1 else RowKit.wrap64 (1+s.nest))+u (RowKit.wrap64 (s.nest+1)))) s (f2.csem (f1.csem (s.atIf b)).up).down∧Cl no no f3.blocks (f2.csem (f1.csem (s.atIf b)).up).down:=by
 obtain⟨⟨n0,n1,n2,n3⟩,⟨b0,b1,b2,b3⟩,d1,d2,d3⟩:=nodup_n (k:=.if_) trivial n
 have cc:∀ {L:List Nat},(∀ p∈L,p∈(A.n .if_ text num o b f0 f1 f2 f3).blocks)→b ∉ L→Cl no no L s:=fun {L} h1 h2 p hp=>⟨by rw[(c p (h1 p hp)).1,hfe p fun e=>h2 (e▸hp)];rfl,(c p (h1 p hp)).2⟩
 have c1:Cl no no f1.blocks s:=cc (fun p hp=>(mem_n (k:=.if_) trivial p).2 (.inr (.inr (.inl hp)))) b1
 have c2:Cl no no f2.blocks s:=cc (fun p hp=>(mem_n (k:=.if_) trivial p).2 (.inr (.inr (.inr (.inl hp))))) b2
 have c3:Cl no no f3.blocks s:=cc (fun p hp=>(mem_n (k:=.if_) trivial p).2 (.inr (.inr (.inr (.inr hp))))) b3
 have h0:St [] (if fe b=true then 1 else RowKit.wrap64 (1+s.nest)) s (s.atIf b):=by
  have e:=(c b ((mem_n (k:=.if_) trivial b).2 (.inl rfl))).1
  unfold CS.atIf
  rw[e]
  split
  · exact((St.refl s).add _).same rfl
  · refine((St.refl s).add _).same ?_
    show 0+RowKit.wrap64 (s.nest+1)=_
    rw[show 1+s.nest=s.nest+1 by omega]
    omega
 have q:=(h0.walk nm z1 c1 (by simp)).deep nm z2 c2 (fun p hp=>by simpa using (d2 p hp).2)
 have q':St (f1.blocks++f2.blocks) (v s.nest+((if fe b=true then 1 else RowKit.wrap64 (1+s.nest))+u (RowKit.wrap64 (s.nest+1)))) s (f2.csem (f1.csem (s.atIf b)).up).down :=
  (q.mono (fun p hp=>by simpa using hp)).same (by omega)
 exact⟨q',q'.cl c3 fun p hp h=>(List.mem_append.1 h).elim (d3 p hp).2.1 (d3 p hp).2.2⟩
def IfOk(x y z:A)(more:Int→Int):Prop:=(x.blocks.Nodup→y.blocks.Nodup∧z.blocks.Nodup∧∀ v u,Z y v→Z z u →
 Z x (fun n=>v n+(RowKit.wrap64 (1+n)+u (RowKit.wrap64 (n+1))+more n))∧Sem x (fun n=>v n+(1+u (RowKit.wrap64 (n+1))+more n)) (bl x) no)
theorem if_z{x:A}{c l e3:N}(e:x.N=.part kIf (.four .none c (.block l) e3)):x.K=.if_∧∃ y z r,y.N=c∧z.N=l∧r.N=e3∧x.cw=4+y.cw+z.cw+r.cw∧(x.blocks.Nodup→r.blocks.Nodup) ∧
 (e3=.none→r.cw=0∧IfOk x y z (fun _=>0)) ∧
 (∀ l3,e3=.block l3→∃ q,q.N=l3∧r.cw=2+q.cw∧(r.blocks.Nodup→q.blocks.Nodup)∧∀ m,Z q m→IfOk x y z (fun n=>1+m (RowKit.wrap64 (n+1)))) ∧
 (r.K=.if_→∀ m,Sem r m (bl r) no→IfOk x y z m):=by
 obtain⟨o,b,f0,f1,f2,f3,rfl,e'⟩:=A_of_N (k:=.if_) e
 have e0:f0.N=N.none:=congrArg (fun x=>match x with | N.n _ _ _ (.cons y _)=>y | _=>.nil) e'
 have e1:f1.N=c:=congrArg (fun x=>match x with | N.n _ _ _ (.cons _ (.cons y _))=>y | _=>.nil) e'
 have e2:f2.N=.block l:=congrArg (fun x=>match x with | N.n _ _ _ (.cons _ (.cons _ (.cons y _)))=>y | _=>.nil) e'
 have e3':f3.N=e3:=congrArg (fun x=>match x with | N.n _ _ _ (.cons _ (.cons _ (.cons _ (.cons y _))))=>y | _=>.nil) e'
 obtain⟨-,c0,-⟩:=none_z e0
 obtain⟨-,z,hz,U⟩:=block_un e2
 have hcw:=U.cw
 have hw:(A.n .if_ sE 0 o b f0 f1 f2 f3).cw=4+f1.cw+z.cw+f3.cw:=by simp(config:={decide:=true}) only[A.cw,K.cwn,K.arity,if_true,if_false];omega
 have m1:∀ p∈f1.blocks,p∈(A.n .if_ sE 0 o b f0 f1 f2 f3).blocks:=fun p hp=>(mem_n (k:=.if_) trivial p).2 (.inr (.inr (.inl hp)))
 have m2:∀ p∈f2.blocks,p∈(A.n .if_ sE 0 o b f0 f1 f2 f3).blocks:=fun p hp=>(mem_n (k:=.if_) trivial p).2 (.inr (.inr (.inr (.inl hp))))
 have m3:∀ p∈f3.blocks,p∈(A.n .if_ sE 0 o b f0 f1 f2 f3).blocks:=fun p hp=>(mem_n (k:=.if_) trivial p).2 (.inr (.inr (.inr (.inr hp))))
 have both:∀ (more:Int→Int),(∀ s s0,Norm s→(A.n .if_ sE 0 o b f0 f1 f2 f3).blocks.Nodup→s0=(f2.csem (f1.csem (s.atIf b)).up).down→s0.nest=s.nest→Cl no no f3.blocks s0→St f3.blocks (more s.nest) s0 ((A.n .if_ sE 0 o b f0 f1 f2 f3).csem s)) →
  IfOk (.n .if_ sE 0 o b f0 f1 f2 f3) f1 z more:=fun more h n=>by
  obtain⟨⟨n0,n1,n2,n3⟩,-,-,-,-⟩:=nodup_n (k:=.if_) trivial n
  refine⟨n1,U.nd n2,fun v u zy zz=>⟨fun s nm c=>?_,fun s nm c=>?_⟩⟩
  · obtain⟨q,c3⟩:=if_head n zy (U.z zz) nm c (fun _ _=>rfl)
    refine((q.trans (h s _ nm n rfl q.nest c3)).mono fun p hp=>?_).same ?_
    · rcases List.mem_append.1 hp with hp|hp
      · exact(List.mem_append.1 hp).elim (m1 p) (m2 p)
      · exact m3 p hp
    · show v s.nest+((if no b=true then 1 else _)+_)+_=_
      rw[if_neg (by simp[no])]
      dsimp only
      omega
  · obtain⟨q,c3⟩:=if_head n zy (U.z zz) nm c (fun p hp=>decide_eq_false hp)
    refine((q.trans (h s _ nm n rfl q.nest c3)).mono fun p hp=>?_).same ?_
    · rcases List.mem_append.1 hp with hp|hp
      · exact(List.mem_append.1 hp).elim (m1 p) (m2 p)
      · exact m3 p hp
    · show v s.nest+((if bl _ b=true then 1 else _)+_)+_=_
      rw[if_pos (by simp[bl,A.blk])]
      dsimp only
      omega
 refine⟨rfl,f1,z,f3,e1,hz,e3',hw,fun n=>(nodup_n (k:=.if_) trivial n).1.2.2.2,fun hn=>?_,fun l3 hl3=>?_,fun hK m zm=>?_⟩
 · obtain⟨k3,c3,-⟩:=none_z (e3'.trans hn)
   refine⟨c3,both _ (fun s s0 nm n hs0 hn0 cl=>?_)⟩
   have:(A.n .if_ sE 0 o b f0 f1 f2 f3).csem s=s0:=by simp only[A.csem,k3];exact hs0.symm
   rw[this]
   exact(St.refl s0).mono (by simp)
 · obtain⟨k3,q,hq,V⟩:=block_un (e3'.trans hl3)
   refine⟨q,hq,V.cw,V.nd,fun m zm=>both _ (fun s s0 nm n hs0 hn0 cl=>?_)⟩
   have:(A.n .if_ sE 0 o b f0 f1 f2 f3).csem s=(f3.csem (s0.add ⟨1,0,sElse,posK .block f3.blk⟩).up).down:=by simp only[A.csem,k3];rw[hs0]
   rw[this]
   have q:=((St.refl s0).add ⟨1,0,sElse,posK .block f3.blk⟩).deep (show Norm s0 by unfold Norm;rw[hn0];exact nm) (V.z zm) cl (by simp)
   refine(q.mono fun p hp=>by simpa using hp).same ?_
   rw[hn0]
   show 0+(1:Int)+_=_
   omega
 · refine both _ (fun s s0 nm n hs0 hn0 cl=>?_)
   have:(A.n .if_ sE 0 o b f0 f1 f2 f3).csem s=f3.csem (s0.mark K.if_.pty f3.blk):=by simp only[A.csem,hK];rw[hs0]
   rw[this]
   have hb:f3.blk∈f3.blocks:=by
    cases f3 with
    | nil=>cases hK
    | cons=>cases hK
    | n k=>cases hK;exact(mem_n (k:=.if_) trivial _).2 (.inl rfl)
   have q:=(St.refl s0).mark f3.blk
   have q':=zm (s0.mark K.if_.pty f3.blk) (show Norm s0 by unfold Norm;rw[hn0];exact nm) (fun p hp=>⟨?_,(cl p hp).2⟩)
   · refine((q.trans q').mono fun p hp=>?_).same ?_
     · simp only[List.nil_append,List.mem_append,List.mem_singleton]at hp
       rcases hp with rfl|hp
       · exact hb
       · exact hp
     · show 0+m s0.nest=_
       rw[hn0];omega
   · show(if K.if_.pty=K.if_.pty∧p=f3.blk then true else s0.els K.if_.pty p)=_
     by_cases hp2:p=f3.blk
     · simp[hp2,bl]
     · simp only[hp2,and_false,if_false,bl]
       rw[(cl p hp).1]
       rfl
def GE(t:T)(x:A):Prop:=x.cw≤3*t.cost∧(t.xd≤1→x.ops=[]∧x.spine=[]∧t.opl=[])∧(t.xd≤2→x.ops=t.opl.map tokOf∧t.opl.length≤1∧∀ o∈t.opl,o=sAnd∨o=sOr) ∧
 (x.blocks.Nodup→Z x (fun n=>t.cog n false)∧(t.xd≤2→Sem x (fun n=>t.cog n true) no (spi x)))
def GL(t:T)(x:A):Prop:=x.cw≤3*(t.cost+4*t.len)∧(x.blocks.Nodup→Z x (fun n=>t.cog n false))
def GS(t:T)(x:A):Prop:=x.cw≤3*t.cost∧(x.blocks.Nodup→Z x (fun n=>t.cog n false)∧(x.K=.if_→Sem x (fun n=>t.cog n true) (bl x) no))
def GA:So→T→Prop
 | .E,t=>∀ x,x.N=t.N 0→GE t x
 | .S,t=>∀ x,x.N=t.N 0→GS t x
 | .Es,t=>∀ x,x.N=t.N 0→x.cw≤3*t.cost∧(x.blocks.Nodup→Z x (fun n=>t.cog n false))
 | .Ss,t=>∀ x,x.N=t.N 0→x.cw≤3*t.cost∧(x.blocks.Nodup→Z x (fun n=>t.cog n false))
 | .Cs,t=>∀ m x,x.N=t.N m→GL t x
theorem Sem.same{x:A}{v u:Int→Int}{fe fc:Nat→Bool}(h:Sem x v fe fc)(e:∀ n,v n=u n):Sem x u fe fc:=fun s n c=>(h s n c).same (e _)
theorem ge_of{t:T}{x:A}(hc:x.cw≤3*t.cost)(ho:t.xd≤2→x.ops=[]∧x.spine=[])(hl:t.opl=[])(hz:x.blocks.Nodup→Z x (fun n=>t.cog n false))(ht:∀ n,t.cog n true=t.cog n false):GE t x :=
 ⟨hc,fun h=>⟨(ho (by omega)).1,(ho (by omega)).2,hl⟩,fun h=>⟨by rw[hl];exact(ho h).1,by rw[hl];simp,by rw[hl];simp⟩,fun n=>⟨hz n,fun h=>by
  have:=(hz n).none (ho h).2
  rw[show(fun n=>t.cog n true)=fun n=>t.cog n false from funext ht]
  exact this⟩⟩
theorem gs_of{t:T}{x:A}(hc:x.cw≤3*t.cost)(hk:x.K≠.if_)(hz:x.blocks.Nodup→Z x (fun n=>t.cog n false)):GS t x:=⟨hc,fun n=>⟨hz n,fun e=>absurd e hk⟩⟩
theorem all_cog{fl:Bool}{o:So}{t:T}(h:W fl o t):GA o t:=by
 induction h with
 | num =>
   intro x e
   obtain⟨-,c,z⟩:=lit_z (m:=7) e
   obtain⟨_,_,_,_,_,_,rfl,-⟩:=A_of_N (k:=.lit) e
   exact ge_of (by rw[c];simp[T.cost]) (fun _=>⟨rfl,rfl⟩) rfl (fun _=>z.same fun n=>by simp[T.cog]) fun n=>by simp[T.cog]
 | var m hm =>
   intro x e
   have e':x.N=.var m:=by rw[e];simp[T.N]
   obtain⟨-,c,z⟩:=name_z e'
   obtain⟨_,_,_,_,_,_,rfl,-⟩:=A_of_N (k:=.ident) e'
   exact ge_of (by rw[c];simp[T.cost]) (fun _=>⟨rfl,rfl⟩) rfl (fun _=>z.same fun n=>by simp[T.cog]) fun n=>by simp[T.cog]
 | bin op a b hop ha hb hx hy iha ihb =>
   intro x e
   have e':x.N=.n kBin op 0 (.two (a.N 0) (b.N 0)):=by rw[e];simp[T.N,N.two]
   obtain⟨ob,p,f0,f1,f2,f3,rfl,e''⟩:=A_of_N (k:=.bin) e'
   have e0:f0.N=a.N 0:=congrArg (fun x=>match x with | N.n _ _ _ (.cons y _)=>y | _=>.nil) e''
   have e1:f1.N=b.N 0:=congrArg (fun x=>match x with | N.n _ _ _ (.cons _ (.cons y _))=>y | _=>.nil) e''
   obtain⟨ca,oa1,oa2,za⟩:=iha f0 e0
   obtain⟨cb,ob1,ob2,zb⟩:=ihb f1 e1
   obtain⟨pa,la,ga⟩:=oa2 hx
   obtain⟨pb,lb,gb⟩:=ob2 hy
   have hlo:(T.x 2 0 op (.cons a (.cons b .nil)) .nil).opl=a.opl++(if logic op=true then [op] else [])++b.opl:=by simp[T.opl]
   have hops:(A.n .bin op 0 ob p f0 f1 f2 f3).ops=(T.x 2 0 op (.cons a (.cons b .nil)) .nil).opl.map tokOf:=by
    rw[hlo]
    simp only[A.ops,pa,pb,lg_tok hop]
    split<;>simp
   have hlg:∀ o∈(T.x 2 0 op (.cons a (.cons b .nil)) .nil).opl,o=sAnd∨o=sOr:=by
    rw[hlo]
    intro o ho
    rcases List.mem_append.1 ho with ho|ho
    · rcases List.mem_append.1 ho with ho|ho
      · exact ga o ho
      · split at ho
        · rename_i hl
          rw[List.mem_singleton]at ho
          rw[ho]
          exact lg_is hop hl
        · cases ho
    · exact gb o ho
   have hxd:(T.x 2 0 op (.cons a (.cons b .nil)) .nil).xd=1+max a.xd b.xd:=by simp[T.xd]
   have xp:∀ {t:T} {o:So} {fl:Bool},W fl o t→o=.E→1≤t.xd:=fun {t o fl} h e=>by
    cases h<;>first | (simp[T.xd];done) | (simp only[T.xd];omega) | cases e
   have xa:=xp ha rfl
   have xb:=xp hb rfl
   refine⟨?_,fun h=>by omega,fun h=>⟨hops,?_,hlg⟩,fun n=>?_⟩
   · simp(config:={decide:=true}) only[A.cw,K.cwn,K.arity,if_true,if_false,pa,pb,List.length_map,T.cost]
     omega
   · obtain⟨-,-,q0⟩:=oa1 (by omega)
     obtain⟨-,-,q1⟩:=ob1 (by omega)
     rw[hlo,q0,q1]
     split<;>simp
   · obtain⟨⟨n0,n1,-,-⟩,-,-,-,-⟩:=nodup_n (k:=.bin) trivial n
     obtain⟨za0,za1⟩:=za n0
     obtain⟨zb0,zb1⟩:=zb n1
     have hf:∀ m f,(T.x 2 0 op (.cons a (.cons b .nil)) .nil).cog m f=(if logic op=true∧f=false then runsN (T.x 2 0 op (.cons a (.cons b .nil)) .nil).opl sE else 0)+(a.cog m (f || logic op)+b.cog m (f || logic op)):=fun m f=>by
      simp only[T.cog]
      simp
     refine⟨?_,fun _=>?_⟩
     · cases hl:logic op
       · refine Z.same (bin_plain n (by rw[lg_tok hop];exact hl) za0 zb0) fun m=>?_
         rw[hf,hl]
         simp
       · refine Z.same (bin_first n (by rw[lg_tok hop];exact hl) hops hlg (za1 hx) (zb1 hy)) fun m=>?_
         rw[hf,hl]
         simp
     · intro s nm c
       refine(bin_counted n (za1 hx) (zb1 hy) s nm c).same ?_
       dsimp only
       rw[hf]
       simp
 | not a ha iha =>
   intro x e
   have e':x.N=.n kUn sNot 0 (.one (a.N 0)):=by rw[e];simp[T.N,N.one]
   obtain⟨_,_,f0,_,_,_,rfl,e0,U⟩:=un_k .un (by simp[K.un1]) e'
   obtain⟨c,-,-,z⟩:=iha f0 e0
   have:=U.cw
   exact ge_of (by simp[T.cost];omega) (fun _=>⟨rfl,rfl⟩) (by simp[T.opl]) (fun n=>(U.z (z (U.nd n)).1).same fun n=>by simp[T.cog]) fun n=>by simp[T.cog]
 | par a ha iha =>
   intro x e
   have e':x.N=.part kParen (.one (a.N 0)):=by rw[e];simp[T.N,N.one]
   obtain⟨_,_,f0,_,_,_,rfl,e0,U⟩:=un_k .paren (by simp[K.un1]) e'
   obtain⟨c,o1,-,z⟩:=iha f0 e0
   have:=U.cw
   refine ge_of (by simp[T.cost];omega) (fun h=>?_) (by simp[T.opl]) (fun n=>(U.z (z (U.nd n)).1).same fun n=>by simp[T.cog]) fun n=>by simp[T.cog]
   have hx:a.xd≤1:=by simp[T.xd]at h;omega
   exact⟨(o1 hx).1,(o1 hx).2.1⟩
 | call f args hf ha iha =>
   intro x e
   have e':x.N=.part kCall (.two (.name f 0) (.list (args.N 0))):=by rw[e];simp[T.N]
   obtain⟨_,_,f0,f1,_,_,rfl,e0,e1,B⟩:=bi_k .call (by simp[K.bi1]) e'
   obtain⟨-,c0,z0⟩:=name_z e0
   obtain⟨y,hy,U⟩:=list_un e1
   obtain⟨c1,z1⟩:=iha y hy
   have:=U.cw
   have:=B.cw
   exact ge_of (by simp[T.cost];omega) (fun _=>⟨rfl,rfl⟩) (by
    cases args with
    | cons a t=>cases t<;>simp[T.opl]
    | _=>simp[T.opl]) (fun n=>(B.z n z0 (U.z (z1 (U.nd (B.nd n).2.1)))).same fun n=>by simp[T.cog]) fun n=>by simp[T.cog]
 | lit body h hb ihb =>
   intro x e
   have e':x.N=.part kFuncLit (.two .ftype (.block (body.N 0))):=by rw[e];simp[T.N]
   obtain⟨-,y,hy,cw,hz⟩:=flit_z e'
   obtain⟨_,_,_,_,_,_,rfl,-⟩:=A_of_N (k:=.flit) e'
   obtain⟨c,z⟩:=ihb y hy
   exact ge_of (by simp[T.cost];omega) (fun _=>⟨rfl,rfl⟩) (by simp[T.opl]) (fun n=>((hz n).2 _ (z (hz n).1)).same fun n=>by simp[T.cog]) fun n=>by simp[T.cog]
 | enil =>
   intro x e
   obtain rfl:=nil_of_N e
   exact⟨by simp[A.cw],fun _=>nil_z⟩
 | econs a t ha ht iha iht =>
   intro x e
   obtain⟨y,z,rfl,hy,hz,B⟩:=cons_of_N (h:=a.N 0) (t:=t.N 0) e
   obtain⟨c0,-,-,z0⟩:=iha y hy
   obtain⟨c1,z1⟩:=iht z hz
   exact⟨by simp only[A.cw,T.cost];omega,fun n=>(B.z n (z0 (B.nd n).1).1 (z1 (B.nd n).2.1)).same fun n=>by simp[T.cog]⟩
 | expr f args hf ha iha =>
   intro x e
   have e':x.N=.part kExprS (.one (.part kCall (.two (.name f 0) (.list (args.N 0))))):=by rw[e];simp[T.N]
   obtain⟨_,_,g,_,_,_,rfl,eg,Ug⟩:=un_k .exprS (by simp[K.un1]) e'
   obtain⟨_,_,f0,f1,_,_,rfl,e0,e1,B⟩:=bi_k .call (by simp[K.bi1]) eg
   obtain⟨-,c0,z0⟩:=name_z e0
   obtain⟨y,hy,U⟩:=list_un e1
   obtain⟨c1,z1⟩:=iha y hy
   have:=U.cw
   have:=B.cw
   have:=Ug.cw
   exact gs_of (by simp[T.cost];omega) (by simp[A.K]) fun n=>(Ug.z (B.z (Ug.nd n) z0 (U.z (z1 (U.nd (B.nd (Ug.nd n)).2.1))))).same fun n=>by simp[T.cog]
 | assign m op a hm h ha iha =>
   intro x e
   have e':x.N=.n kAssign (op++⟨#[61]⟩) 0 (.two (.list (.one (.var m))) (.list (.one (a.N 0)))):=by rw[e];simp[T.N]
   obtain⟨_,_,f0,f1,_,_,rfl,e0,e1,B⟩:=bi_k .assign (by simp[K.bi1]) e'
   obtain⟨y0,hy0,U0⟩:=list_un e0
   obtain⟨y1,hy1,U1⟩:=one_of_N hy0
   obtain⟨-,c0,z0⟩:=name_z hy1
   obtain⟨w0,hw0,V0⟩:=list_un e1
   obtain⟨w1,hw1,V1⟩:=one_of_N hw0
   obtain⟨c1,-,-,z1⟩:=iha w1 hw1
   have U:=U0.trans U1
   have V:=V0.trans V1
   have:=U.cw
   have:=V.cw
   have:=B.cw
   exact gs_of (by simp[T.cost];omega) (by simp[A.K]) fun n=>(B.z n (U.z z0) (V.z (z1 (V.nd (B.nd n).2.1)).1)).same fun n=>by simp[T.cog]
 | count m op hm h =>
   intro x e
   have e':x.N=.n kInc op 0 (.one (.var m)):=by rw[e];simp[T.N]
   obtain⟨_,_,f0,_,_,_,rfl,e0,U⟩:=un_k .inc (by simp[K.un1]) e'
   obtain⟨-,c0,z0⟩:=name_z e0
   have:=U.cw
   exact gs_of (by simp[T.cost];omega) (by simp[A.K]) fun n=>(U.z z0).same fun n=>by simp[T.cog]
 | ifNo a body ha hb iha ihb =>
   intro x e
   have e':x.N=.part kIf (.four .none (a.N 0) (.block (body.N 0)) .none):=by rw[e];simp[T.N]
   obtain⟨k,y,z,r,hy,hz,hr,cx,-,h0,-,-⟩:=if_z e'
   obtain⟨c,q⟩:=h0 rfl
   obtain⟨ca,-,-,za⟩:=iha y hy
   obtain⟨cb,zb⟩:=ihb z hz
   refine⟨by simp[T.cost];omega,fun n=>?_⟩
   obtain⟨ny,nz,q⟩:=q n
   obtain⟨q1,q2⟩:=q _ _ (za ny).1 (zb nz)
   exact⟨q1.same fun n=>by simp[T.cog],fun _=>q2.same fun n=>by simp[T.cog]⟩
 | ifElse a body els ha hb he iha ihb ihe =>
   intro x e
   have e':x.N=.part kIf (.four .none (a.N 0) (.block (body.N 0)) (.block (els.N 0))):=by rw[e];simp[T.N]
   obtain⟨k,y,z,r,hy,hz,hr,cx,nr,-,h0,-⟩:=if_z e'
   obtain⟨w,hw,cr,nw,q⟩:=h0 _ rfl
   obtain⟨ca,-,-,za⟩:=iha y hy
   obtain⟨cb,zb⟩:=ihb z hz
   obtain⟨ce,ze⟩:=ihe w hw
   refine⟨by simp[T.cost];omega,fun n=>?_⟩
   obtain⟨ny,nz,q⟩:=q _ (ze (nw (nr n))) n
   obtain⟨q1,q2⟩:=q _ _ (za ny).1 (zb nz)
   exact⟨q1.same fun n=>by simp[T.cog],fun _=>q2.same fun n=>by simp[T.cog]⟩
 | ifChain a body a' body' els' has' chain' ha hb he iha ihb ihe =>
   intro x e
   have e':x.N=.part kIf (.four .none (a.N 0) (.block (body.N 0)) ((T.s 3 0 sE sE a' body' els' has' chain' .nil).N 0)):=by
    obtain⟨y,hy⟩:∃ y,y=T.s 3 0 sE sE a' body' els' has' chain' .nil:=⟨_,rfl⟩
    rw[e,← hy]
    simp[T.N,N.first]
   obtain⟨k,y,z,r,hy,hz,hr,cx,nr,-,-,h0⟩:=if_z e'
   obtain⟨ca,-,-,za⟩:=iha y hy
   obtain⟨cb,zb⟩:=ihb z hz
   obtain⟨ce,ze⟩:=ihe r hr
   have kr:r.K=.if_:=by
    have:r.N=.n K.if_.str sE 0 (.four .none (a'.N 0) (.block (body'.N 0)) (if chain'=true then (els'.N 0).first else if has'=true then .block (els'.N 0) else .none)):=by rw[hr];simp[T.N,N.part,K.str]
    obtain⟨_,_,_,_,_,_,rfl,-⟩:=A_of_N this
    rfl
   obtain⟨y',hy'⟩:∃ y',y'=T.s 3 0 sE sE a' body' els' has' chain' .nil:=⟨_,rfl⟩
   rw[← hy']at ce ze ⊢
   refine⟨by simp only[T.cost];omega,fun n=>?_⟩
   obtain⟨ny,nz,q⟩:=h0 kr _ ((ze (nr n)).2 kr) n
   obtain⟨q1,q2⟩:=q _ _ (za ny).1 (zb nz)
   exact⟨q1.same fun n=>by simp[T.cog],fun _=>q2.same fun n=>by simp[T.cog]⟩
 | for_ a body ha hb iha ihb =>
   intro x e
   have e':x.N=.part kFor (.four .none (a.N 0) .none (.block (body.N 0))):=by rw[e];simp[T.N]
   obtain⟨y,z,hy,hz,c,q⟩:=for_z e'
   obtain⟨_,_,_,_,_,_,rfl,-⟩:=A_of_N (k:=.for_) e'
   obtain⟨ca,-,-,za⟩:=iha y hy
   obtain⟨cb,zb⟩:=ihb z hz
   exact gs_of (by simp[T.cost];omega) (by simp[A.K]) fun n=>((q n).2.2 _ _ (za (q n).1).1 (zb (q n).2.1)).same fun n=>by simp[T.cog]
 | range a body ha hb iha ihb =>
   intro x e
   have e':x.N=.part kRange (.four .none .none (a.N 0) (.block (body.N 0))):=by rw[e];simp[T.N]
   obtain⟨y,z,hy,hz,c,q⟩:=range_z e'
   obtain⟨_,_,_,_,_,_,rfl,-⟩:=A_of_N (k:=.range) e'
   obtain⟨ca,-,-,za⟩:=iha y hy
   obtain⟨cb,zb⟩:=ihb z hz
   exact gs_of (by simp[T.cost];omega) (by simp[A.K]) fun n=>((q n).2.2 _ _ (za (q n).1).1 (zb (q n).2.1)).same fun n=>by simp[T.cog]
 | switch a cases ha hc hn iha ihc =>
   intro x e
   have e':x.N=.part kSwitch (.three .none (a.N 0) (.part kBlock (.one (.list (cases.N 1))))):=by rw[e];simp[T.N]
   obtain⟨y,z,hy,hz,c,q⟩:=switch_z e'
   obtain⟨_,_,_,_,_,_,rfl,-⟩:=A_of_N (k:=.switch) e'
   obtain⟨ca,-,-,za⟩:=iha y hy
   obtain⟨cb,zb⟩:=ihc 1 z hz
   exact gs_of (by simp[T.cost];omega) (by simp[A.K]) fun n=>((q n).2.2 _ _ (za (q n).1).1 (zb (q n).2.1)).same fun n=>by simp[T.cog]
 | select cases h hc hn ihc =>
   intro x e
   have e':x.N=.part kSelect (.one (.part kBlock (.one (.list (cases.N 2))))):=by rw[e];simp[T.N]
   obtain⟨z,hz,c,q⟩:=select_z e'
   obtain⟨_,_,_,_,_,_,rfl,-⟩:=A_of_N (k:=.select) e'
   obtain⟨cb,zb⟩:=ihc 2 z hz
   exact gs_of (by simp[T.cost];omega) (by simp[A.K]) fun n=>((q n).2 _ (zb (q n).1)).same fun n=>by simp[T.cog]
 | branch op h =>
   intro x e
   have e':x.N=.n kBranch op 0 (.one .none):=by rw[e];simp[T.N,sE]
   obtain⟨c,z⟩:=branch_z e'
   obtain⟨_,_,_,_,_,_,rfl,-⟩:=A_of_N (k:=.branch) e'
   exact gs_of (by simp[T.cost];omega) (by simp[A.K]) fun n=>z.same fun n=>by simp[T.cog,sE,Go.ByteArray.toList_eq]
 | branchTo op k h hk =>
   intro x e
   have hsz:¬ (lab k).data.size=0:=by unfold lab strOf;simp
   have e':x.N=.n kBranch op 0 (.one (.label (lab k))):=by rw[e];simp only[T.N,hsz,if_false];simp
   obtain⟨c,z⟩:=branchTo_z e'
   obtain⟨_,_,_,_,_,_,rfl,-⟩:=A_of_N (k:=.branch) e'
   exact gs_of (by simp[T.cost];omega) (by simp[A.K]) fun n=>z.same fun n=>by simp[T.cog,lab,strOf,Go.ByteArray.toList_eq]
 | ret a ha iha =>
   intro x e
   have e':x.N=.part kReturn (.one (.list (.one (a.N 0)))):=by rw[e];simp[T.N]
   obtain⟨_,_,f0,_,_,_,rfl,e0,U0⟩:=un_k .ret (by simp[K.un1]) e'
   obtain⟨y0,hy0,U1⟩:=list_un e0
   obtain⟨y1,hy1,U2⟩:=one_of_N hy0
   obtain⟨c1,-,-,z1⟩:=iha y1 hy1
   have U:=(U0.trans U1).trans U2
   have:=U.cw
   exact gs_of (by simp[T.cost];omega) (by simp[A.K]) fun n=>(U.z (z1 (U.nd n)).1).same fun n=>by simp[T.cog]
 | block body hb ihb =>
   intro x e
   have e':x.N=.block (body.N 0):=by rw[e];simp[T.N]
   obtain⟨k,y,hy,U⟩:=block_un e'
   obtain⟨c1,z1⟩:=ihb y hy
   have:=U.cw
   exact gs_of (by simp[T.cost];omega) (by simp[k]) fun n=>(U.z (z1 (U.nd n))).same fun n=>by simp[T.cog]
 | labelled k kind a body hk h ha hb iha ihb =>
   intro x e
   rcases h with rfl|rfl
   · have e':x.N=.part kLabeled (.two (.label (lab k)) (.part kFor (.four .none (a.N 0) .none (.block (body.N 0))))):=by rw[e];simp[T.N,N.first]
     obtain⟨_,_,f0,f1,_,_,rfl,e0,e1,B⟩:=bi_k .labeled (by simp[K.bi1]) e'
     obtain⟨-,c0,z0⟩:=name_z e0
     obtain⟨y,z,hy,hz,c,q⟩:=for_z e1
     obtain⟨ca,-,-,za⟩:=iha y hy
     obtain⟨cb,zb⟩:=ihb z hz
     have:=B.cw
     exact gs_of (by simp[T.cost];omega) (by simp[A.K]) fun n=>(B.z n z0 ((q (B.nd n).2.1).2.2 _ _ (za (q (B.nd n).2.1).1).1 (zb (q (B.nd n).2.1).2.1))).same fun n=>by simp[T.cog]
   · have e':x.N=.part kLabeled (.two (.label (lab k)) (.part kRange (.four .none .none (a.N 0) (.block (body.N 0))))):=by rw[e];simp[T.N,N.first]
     obtain⟨_,_,f0,f1,_,_,rfl,e0,e1,B⟩:=bi_k .labeled (by simp[K.bi1]) e'
     obtain⟨-,c0,z0⟩:=name_z e0
     obtain⟨y,z,hy,hz,c,q⟩:=range_z e1
     obtain⟨ca,-,-,za⟩:=iha y hy
     obtain⟨cb,zb⟩:=ihb z hz
     have:=B.cw
     exact gs_of (by simp[T.cost];omega) (by simp[A.K]) fun n=>(B.z n z0 ((q (B.nd n).2.1).2.2 _ _ (za (q (B.nd n).2.1).1).1 (zb (q (B.nd n).2.1).2.1))).same fun n=>by simp[T.cog]
 | snil =>
   intro x e
   obtain rfl:=nil_of_N e
   exact⟨by simp[A.cw],fun _=>nil_z⟩
 | scons a t ha ht iha iht =>
   intro x e
   obtain⟨y,z,rfl,hy,hz,B⟩:=cons_of_N (h:=a.N 0) (t:=t.N 0) e
   obtain⟨c0,z0⟩:=iha y hy
   obtain⟨c1,z1⟩:=iht z hz
   exact⟨by simp only[A.cw,T.cost];omega,fun n=>(B.z n (z0 (B.nd n).1).1 (z1 (B.nd n).2.1)).same fun n=>by simp[T.cog]⟩
 | cnil =>
   intro m x e
   obtain rfl:=nil_of_N e
   exact⟨by simp[A.cw],fun _=>nil_z⟩
 | ccons a t ha ht iha iht =>
   intro m x e
   cases m with
   | zero =>
     obtain⟨y,z,rfl,hy,hz,B⟩:=cons_of_N (h:=a.N 0) (t:=t.N 0) e
     obtain⟨c0,z0⟩:=iha y hy
     obtain⟨c1,z1⟩:=iht 0 z hz
     exact⟨by simp only[A.cw,T.cost,T.len];omega,fun n=>(B.z n (z0 (B.nd n).1) (z1 (B.nd n).2.1)).same fun n=>by simp[T.cog]⟩
   | succ m =>
     obtain⟨y,z,rfl,hy,hz,B⟩:=cons_of_N (h:=.clause m t.isNil (a.N 0)) (t:=t.N (m+3)) e
     obtain⟨w,hw,cw,q⟩:=clause_z hy
     obtain⟨c0,z0⟩:=iha w hw
     obtain⟨c1,z1⟩:=iht (m+3) z hz
     exact⟨by simp only[A.cw,T.cost,T.len];omega,fun n=>(B.z n ((q (B.nd n).1).2 _ (z0 (q (B.nd n).1).1)) (z1 (B.nd n).2.1)).same fun n=>by simp[T.cog]⟩
end Gc
