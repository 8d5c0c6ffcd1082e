/- What is allowed where the part of syntax itself is looked into. -/
import Derived.Test.YtleolbpibjnedaaGreatQBdC
set_option linter.unusedSimpArgs false
set_option linter.unusedVariables false
set_option maxRecDepth 100000
set_option maxHeartbeats 4000000
namespace Gc
open Go
theorem A_of_N{a:A}{k:K}{t:Str}{i:Int}{kids:N}(h:a.N=.n k.str t i kids):∃ o b f0 f1 f2 f3,a=.n k t i o b f0 f1 f2 f3∧(A.n k t i o b f0 f1 f2 f3).N=.n k.str t i kids:=by
 cases a with
 | nil=>simp[A.N]at h
 | cons=>simp[A.N]at h
 | n k' t' i' o b f0 f1 f2 f3 =>
   have h1:k'.str=k.str:=congrArg (fun x=>match x with | N.n k _ _ _=>k | _=>sE) h
   have h2:t'=t:=congrArg (fun x=>match x with | N.n _ t _ _=>t | _=>sE) h
   have h3:i'=i:=congrArg (fun x=>match x with | N.n _ _ i _=>i | _=>0) h
   obtain rfl:=K.str_inj h1
   subst h2 h3
   exact⟨o,b,f0,f1,f2,f3,rfl,h⟩
def A.get:A→Nat→A
 | .cons h _,0=>h
 | .cons _ t,k+1=>t.get k
 | _,_=>.nil
theorem A.N_get:∀ (a:A) (k:Nat),k<a.len→(a.get k).N=a.N.get k
 | .cons _ t,k+1,h=>A.N_get t k (by simp only[A.len]at h;omega)
 | .cons _ _,0,_=>rfl
 | .nil,_,h | .n ..,_,h=>by simp[A.len]at h
theorem A.N_len:∀ (a:A),a.isList→a.N.len=a.len
 | .cons _ t,h=>by simp only[A.N,N.len,A.len,A.N_len t h]
 | .nil,_=>rfl
 | .n ..,h=>h.elim
theorem A.isList_of_N:∀ (a:A),a.N.isList→a.isList
 | .cons _ t,h=>A.isList_of_N t h
 | .nil,_=>trivial
 | .n ..,h=>h.elim
theorem A_at{w:World}{D:Nat→Prop}:∀ {t:A} {g o n c k:Nat},Rep w D (t.g 3 .fin) [.slice (some ⟨g,o,none⟩) n c]→t.isList→(∀ j,j<t.len→(t.get j).isn)→k<t.len →
 ∃ v,Rep w D ((t.get k).g 1 .fin) [v]∧w.cell? ⟨g,o+k,none⟩=some v∧g<w.heap.size
 | .cons h t,g,o,n,c,k,hr,hl,hn,hk=>by
   obtain⟨g',o',n',c',hs,e,⟨hD,hg⟩,hx,hc,ht⟩:=hr
   simp only[List.cons.injEq,Value.slice.injEq,and_true,Option.some.injEq,Addr.mk.injEq]at e
   obtain⟨⟨rfl,rfl⟩,rfl,rfl⟩:=e
   have h0:h.isn:=hn 0 (by simp[A.len])
   obtain⟨v,rs,rfl,h1,h2⟩:=g_split h0 hx
   obtain rfl:rs=[]:=h2
   cases k with
   | zero=>exact⟨v,h1,by simpa using hc 0 _ rfl,hg⟩
   | succ k =>
     obtain⟨v',r1,r2,r3⟩:=A_at (t:=t) (k:=k) ht hl (fun j hj=>hn (j+1) (by simp only[A.len];omega)) (by simp only[A.len]at hk;omega)
     exact⟨v',r1,by rw[show o+(k+1)=o+[v].length+k by simp;omega];exact r2,r3⟩
 | .nil,_,_,_,_,_,_,_,_,h | .n ..,_,_,_,_,_,_,_,_,h=>by simp[A.len]at h
theorem list_valA{w:World}{D:Nat→Prop}{l:A}(hl:l.isList){v:Value}(h:Rep w D (l.g 3 .fin) [v]):∃ a c,v=.slice a l.len c∧(0<l.len→∃ g o,a=some ⟨g,o,none⟩):=by
 induction l generalizing v with
 | nil=>obtain⟨a,c,e⟩:=h;simp only[List.cons.injEq,and_true]at e;exact⟨a,c,e,fun h=>by simp[A.len]at h⟩
 | cons hd tl _ ih =>
   obtain⟨g,o,n,c,hs,e,_,_,_,ht⟩:=h
   simp only[List.cons.injEq,and_true]at e
   obtain⟨a',c',e',_⟩:=ih hl ht
   simp only[Value.slice.injEq]at e'
   obtain⟨_,rfl,_⟩:=e'
   exact⟨_,_,e,fun _=>⟨g,o,rfl⟩⟩
 | n=>exact hl.elim
end Gc
namespace Go.Proofs.YtleolbpibjnedaaGreat
open Go Go.RowKit Gc
theorem clauses_CaseClause(l:A)(hl:l.isList)(hk:∀ j,j<l.len→(l.get j).K=.case_)(hmax:l.len≤100000)(w:World)(D:Nat→Prop)(a:Option Addr)(n c:Nat)(hR:Rep w D (l.g 3 .fin) [.slice a n c]) :
 Calls Tryz.prog 92 #[.slice a n c] w (fun e w'=>e=.returned (.bool true)∧w=w'):=by
 obtain⟨a',c',e,hs⟩:=list_valA hl hR
 simp only[Value.slice.injEq]at e
 obtain⟨rfl,rfl,rfl⟩:=e
 have HR:=Lib.hid hR
 have HK:=Lib.hid hk
 obtain⟨n,hn⟩:∃ n,n=l.len:=⟨_,rfl⟩
 rw[← hn]at hs hmax ⊢
 have Hn:=Lib.hid hn
 have Hs:=Lib.hid hs
 clear hR hk hn hs
 go_enter Tryz.func92,Tryz.ntmps92
 go_wp2_with fail
 go_loop [9] (fun t=>∃ k:Nat,t=.int .i64 k∧k≤n) (fun t=>((n:Int)-intOf t).toNat)
 case atStart=>exact⟨0,rfl,by omega⟩
 case round =>
  obtain⟨k,rfl,hk⟩:=hrel
  by_cases hlt:(k:Int)<n
  · obtain⟨g,o,rfl⟩:=Hs.out (by omega)
    have hkl:k<l.len:=by have:=Hn.out;omega
    obtain⟨v,r,hc,hg⟩:=A_at (k:=k) HR.out hl (fun j hj=>isn_of_K (HK.out j hj) (by intro h;cases h)) hkl
    obtain⟨b,rfl,-⟩:=iface_of (HK.out k hkl) trivial r
    have ta:(Instr.typeAssert (.iface (K.pty .case_) (.pointer (some ⟨b,0,none⟩))) 274 308 true).run Tryz.prog w=.ok (.tuple #[.pointer (some ⟨b,0,none⟩),.bool true]) w:=as_case_ _ _ w
    clear r
    go_wp2_with fail
    go_round
    case rel=>exact⟨k+1,by go_num,by omega⟩
    case measure=>simp[intOf];omega
  · go_wp2_with fail
    go_ret
    exact⟨rfl,rfl⟩
theorem clauses_CommClause(l:A)(hl:l.isList)(hk:∀ j,j<l.len→(l.get j).K=.comm)(hmax:l.len≤100000)(w:World)(D:Nat→Prop)(a:Option Addr)(n c:Nat)(hR:Rep w D (l.g 3 .fin) [.slice a n c]) :
 Calls Tryz.prog 93 #[.slice a n c] w (fun e w'=>e=.returned (.bool true)∧w=w'):=by
 obtain⟨a',c',e,hs⟩:=list_valA hl hR
 simp only[Value.slice.injEq]at e
 obtain⟨rfl,rfl,rfl⟩:=e
 have HR:=Lib.hid hR
 have HK:=Lib.hid hk
 obtain⟨n,hn⟩:∃ n,n=l.len:=⟨_,rfl⟩
 rw[← hn]at hs hmax ⊢
 have Hn:=Lib.hid hn
 have Hs:=Lib.hid hs
 clear hR hk hn hs
 go_enter Tryz.func93,Tryz.ntmps93
 go_wp2_with fail
 go_loop [9] (fun t=>∃ k:Nat,t=.int .i64 k∧k≤n) (fun t=>((n:Int)-intOf t).toNat)
 case atStart=>exact⟨0,rfl,by omega⟩
 case round =>
  obtain⟨k,rfl,hk⟩:=hrel
  by_cases hlt:(k:Int)<n
  · obtain⟨g,o,rfl⟩:=Hs.out (by omega)
    have hkl:k<l.len:=by have:=Hn.out;omega
    obtain⟨v,r,hc,hg⟩:=A_at (k:=k) HR.out hl (fun j hj=>isn_of_K (HK.out j hj) (by intro h;cases h)) hkl
    obtain⟨b,rfl,-⟩:=iface_of (HK.out k hkl) trivial r
    have ta:(Instr.typeAssert (.iface (K.pty .comm) (.pointer (some ⟨b,0,none⟩))) 274 317 true).run Tryz.prog w=.ok (.tuple #[.pointer (some ⟨b,0,none⟩),.bool true]) w:=as_comm _ _ w
    clear r
    go_wp2_with fail
    go_round
    case rel=>exact⟨k+1,by go_num,by omega⟩
    case measure=>simp[intOf];omega
  · go_wp2_with fail
    go_ret
    exact⟨rfl,rfl⟩
theorem allowed_bin_0(p q:N)(np:p.isN)(nq:q.isN):AllowedB (.n (K.str .bin) ⟨#[38,38]⟩ 0 (.two p q)) .bin:=by
 intro kd tx i kids hn w D a c c' x b hxN hxK hR
 obtain⟨o',b',f0,f1,f2,f3,rfl,hxN'⟩:=A_of_N (k:=.bin) hxN
 have e0:f0.N=p:=congrArg (fun x=>match x with | Gc.N.n _ _ _ (.cons y _)=>y | _=>.nil) hxN'
 have e1:f1.N=q:=congrArg (fun x=>match x with | Gc.N.n _ _ _ (.cons _ (.cons y _))=>y | _=>.nil) hxN'
 obtain⟨ev,-,v0,v1,ho,-,-⟩:=open_bin (m:=1) (.inr rfl) (isn_of_N (by rw[e0];exact np)) (isn_of_N (by rw[e1];exact nq)) hR
 have eb:b=b':=by simp only[if_true,ptrVal]at ev;cases ev;rfl
 subst eb
 have p1:w.cell? ⟨b,1,none⟩=some (.int .i64 28):=cell_of_cells (cs:=[v0,.int .i64 (tokOf ⟨#[38,38]⟩),v1]) ho 1 (by rw[show tokOf ⟨#[38,38]⟩=28 from rfl];rfl)
 have zb:b<w.heap.size:=lt_of_heap ho
 cases hn
 clear hxN hxN' hR ho e0 e1 ev
 show Calls Tryz.prog 55 #[.agg #[.string ⟨#[66,105,110,97,114,121,69,120,112,114]⟩,.string ⟨#[38,38]⟩,.int .i64 0,.slice a c c'],.iface 242 (.pointer (some ⟨b,0,none⟩))] w _
 obtain⟨a0,a1,-⟩:=nobs 242 b 74 [183,238] (by decide)
 have t_BinaryExpr:∀ w,(Instr.typeAssert (.iface 242 (.pointer (some ⟨b,0,none⟩))) 74 242 true).run Tryz.prog w=.ok (.tuple #[.pointer (some ⟨b,0,none⟩),.bool true]) w:=fun w=>as_bin _ _ w
 go_enter Tryz.func55,Tryz.ntmps55
 go_wp2_with fail
 refine(word_any ⟨#[38,38]⟩ [⟨#[38,38]⟩,⟨#[124,124]⟩,⟨#[61,61]⟩,⟨#[33,61]⟩,⟨#[60]⟩,⟨#[60,61]⟩,⟨#[62]⟩,⟨#[62,61]⟩] (by simp) (by decide) _ _ 8 8 rfl (fun j u hu=>?_)).mono ?_
 · refine cell_of_cells (cs:=[.string ⟨#[38,38]⟩,.string ⟨#[124,124]⟩,.string ⟨#[61,61]⟩,.string ⟨#[33,61]⟩,.string ⟨#[60]⟩,.string ⟨#[60,61]⟩,.string ⟨#[62]⟩,.string ⟨#[62,61]⟩]) (by first | exact heap2_1 _ _ _ | exact heap_alloc_new _ _) j ?_
   have:=congrArg (Option.map Value.string) hu
   rw[← List.getElem?_map]at this
   exact this
 rintro e w1 ⟨rfl,rfl⟩
 go_wp2_with fail
 go_ret
 exact⟨rfl,keptA.trans keptA⟩
theorem allowed_bin_1(p q:N)(np:p.isN)(nq:q.isN):AllowedB (.n (K.str .bin) ⟨#[124,124]⟩ 0 (.two p q)) .bin:=by
 intro kd tx i kids hn w D a c c' x b hxN hxK hR
 obtain⟨o',b',f0,f1,f2,f3,rfl,hxN'⟩:=A_of_N (k:=.bin) hxN
 have e0:f0.N=p:=congrArg (fun x=>match x with | Gc.N.n _ _ _ (.cons y _)=>y | _=>.nil) hxN'
 have e1:f1.N=q:=congrArg (fun x=>match x with | Gc.N.n _ _ _ (.cons _ (.cons y _))=>y | _=>.nil) hxN'
 obtain⟨ev,-,v0,v1,ho,-,-⟩:=open_bin (m:=1) (.inr rfl) (isn_of_N (by rw[e0];exact np)) (isn_of_N (by rw[e1];exact nq)) hR
 have eb:b=b':=by simp only[if_true,ptrVal]at ev;cases ev;rfl
 subst eb
 have p1:w.cell? ⟨b,1,none⟩=some (.int .i64 29):=cell_of_cells (cs:=[v0,.int .i64 (tokOf ⟨#[124,124]⟩),v1]) ho 1 (by rw[show tokOf ⟨#[124,124]⟩=29 from rfl];rfl)
 have zb:b<w.heap.size:=lt_of_heap ho
 cases hn
 clear hxN hxN' hR ho e0 e1 ev
 show Calls Tryz.prog 55 #[.agg #[.string ⟨#[66,105,110,97,114,121,69,120,112,114]⟩,.string ⟨#[124,124]⟩,.int .i64 0,.slice a c c'],.iface 242 (.pointer (some ⟨b,0,none⟩))] w _
 obtain⟨a0,a1,-⟩:=nobs 242 b 74 [183,238] (by decide)
 have t_BinaryExpr:∀ w,(Instr.typeAssert (.iface 242 (.pointer (some ⟨b,0,none⟩))) 74 242 true).run Tryz.prog w=.ok (.tuple #[.pointer (some ⟨b,0,none⟩),.bool true]) w:=fun w=>as_bin _ _ w
 go_enter Tryz.func55,Tryz.ntmps55
 go_wp2_with fail
 refine(word_any ⟨#[124,124]⟩ [⟨#[38,38]⟩,⟨#[124,124]⟩,⟨#[61,61]⟩,⟨#[33,61]⟩,⟨#[60]⟩,⟨#[60,61]⟩,⟨#[62]⟩,⟨#[62,61]⟩] (by simp) (by decide) _ _ 8 8 rfl (fun j u hu=>?_)).mono ?_
 · refine cell_of_cells (cs:=[.string ⟨#[38,38]⟩,.string ⟨#[124,124]⟩,.string ⟨#[61,61]⟩,.string ⟨#[33,61]⟩,.string ⟨#[60]⟩,.string ⟨#[60,61]⟩,.string ⟨#[62]⟩,.string ⟨#[62,61]⟩]) (by first | exact heap2_1 _ _ _ | exact heap_alloc_new _ _) j ?_
   have:=congrArg (Option.map Value.string) hu
   rw[← List.getElem?_map]at this
   exact this
 rintro e w1 ⟨rfl,rfl⟩
 go_wp2_with fail
 go_ret
 exact⟨rfl,keptA.trans keptA⟩
theorem allowed_bin_2(p q:N)(np:p.isN)(nq:q.isN):AllowedB (.n (K.str .bin) ⟨#[43]⟩ 0 (.two p q)) .bin:=by
 intro kd tx i kids hn w D a c c' x b hxN hxK hR
 obtain⟨o',b',f0,f1,f2,f3,rfl,hxN'⟩:=A_of_N (k:=.bin) hxN
 have e0:f0.N=p:=congrArg (fun x=>match x with | Gc.N.n _ _ _ (.cons y _)=>y | _=>.nil) hxN'
 have e1:f1.N=q:=congrArg (fun x=>match x with | Gc.N.n _ _ _ (.cons _ (.cons y _))=>y | _=>.nil) hxN'
 obtain⟨ev,-,v0,v1,ho,-,-⟩:=open_bin (m:=1) (.inr rfl) (isn_of_N (by rw[e0];exact np)) (isn_of_N (by rw[e1];exact nq)) hR
 have eb:b=b':=by simp only[if_true,ptrVal]at ev;cases ev;rfl
 subst eb
 have p1:w.cell? ⟨b,1,none⟩=some (.int .i64 6):=cell_of_cells (cs:=[v0,.int .i64 (tokOf ⟨#[43]⟩),v1]) ho 1 (by rw[show tokOf ⟨#[43]⟩=6 from rfl];rfl)
 have zb:b<w.heap.size:=lt_of_heap ho
 cases hn
 clear hxN hxN' hR ho e0 e1 ev
 show Calls Tryz.prog 55 #[.agg #[.string ⟨#[66,105,110,97,114,121,69,120,112,114]⟩,.string ⟨#[43]⟩,.int .i64 0,.slice a c c'],.iface 242 (.pointer (some ⟨b,0,none⟩))] w _
 obtain⟨a0,a1,-⟩:=nobs 242 b 74 [183,238] (by decide)
 have t_BinaryExpr:∀ w,(Instr.typeAssert (.iface 242 (.pointer (some ⟨b,0,none⟩))) 74 242 true).run Tryz.prog w=.ok (.tuple #[.pointer (some ⟨b,0,none⟩),.bool true]) w:=fun w=>as_bin _ _ w
 go_enter Tryz.func55,Tryz.ntmps55
 go_wp2_with fail
 go_ret
 exact⟨rfl,keptA⟩
theorem allowed_bin_3(p q:N)(np:p.isN)(nq:q.isN):AllowedB (.n (K.str .bin) ⟨#[60]⟩ 0 (.two p q)) .bin:=by
 intro kd tx i kids hn w D a c c' x b hxN hxK hR
 obtain⟨o',b',f0,f1,f2,f3,rfl,hxN'⟩:=A_of_N (k:=.bin) hxN
 have e0:f0.N=p:=congrArg (fun x=>match x with | Gc.N.n _ _ _ (.cons y _)=>y | _=>.nil) hxN'
 have e1:f1.N=q:=congrArg (fun x=>match x with | Gc.N.n _ _ _ (.cons _ (.cons y _))=>y | _=>.nil) hxN'
 obtain⟨ev,-,v0,v1,ho,-,-⟩:=open_bin (m:=1) (.inr rfl) (isn_of_N (by rw[e0];exact np)) (isn_of_N (by rw[e1];exact nq)) hR
 have eb:b=b':=by simp only[if_true,ptrVal]at ev;cases ev;rfl
 subst eb
 have p1:w.cell? ⟨b,1,none⟩=some (.int .i64 34):=cell_of_cells (cs:=[v0,.int .i64 (tokOf ⟨#[60]⟩),v1]) ho 1 (by rw[show tokOf ⟨#[60]⟩=34 from rfl];rfl)
 have zb:b<w.heap.size:=lt_of_heap ho
 cases hn
 clear hxN hxN' hR ho e0 e1 ev
 show Calls Tryz.prog 55 #[.agg #[.string ⟨#[66,105,110,97,114,121,69,120,112,114]⟩,.string ⟨#[60]⟩,.int .i64 0,.slice a c c'],.iface 242 (.pointer (some ⟨b,0,none⟩))] w _
 obtain⟨a0,a1,-⟩:=nobs 242 b 74 [183,238] (by decide)
 have t_BinaryExpr:∀ w,(Instr.typeAssert (.iface 242 (.pointer (some ⟨b,0,none⟩))) 74 242 true).run Tryz.prog w=.ok (.tuple #[.pointer (some ⟨b,0,none⟩),.bool true]) w:=fun w=>as_bin _ _ w
 go_enter Tryz.func55,Tryz.ntmps55
 go_wp2_with fail
 refine(word_any ⟨#[60]⟩ [⟨#[38,38]⟩,⟨#[124,124]⟩,⟨#[61,61]⟩,⟨#[33,61]⟩,⟨#[60]⟩,⟨#[60,61]⟩,⟨#[62]⟩,⟨#[62,61]⟩] (by simp) (by decide) _ _ 8 8 rfl (fun j u hu=>?_)).mono ?_
 · refine cell_of_cells (cs:=[.string ⟨#[38,38]⟩,.string ⟨#[124,124]⟩,.string ⟨#[61,61]⟩,.string ⟨#[33,61]⟩,.string ⟨#[60]⟩,.string ⟨#[60,61]⟩,.string ⟨#[62]⟩,.string ⟨#[62,61]⟩]) (by first | exact heap2_1 _ _ _ | exact heap_alloc_new _ _) j ?_
   have:=congrArg (Option.map Value.string) hu
   rw[← List.getElem?_map]at this
   exact this
 rintro e w1 ⟨rfl,rfl⟩
 go_wp2_with fail
 go_ret
 exact⟨rfl,keptA.trans keptA⟩
theorem allowed_assign_0(p q:N)(np:p.isN)(nq:q.isN):AllowedB (.n (K.str .assign) ⟨#[61]⟩ 0 (.two p q)) .assign:=by
 intro kd tx i kids hn w D a c c' x b hxN hxK hR
 obtain⟨o',b',f0,f1,f2,f3,rfl,hxN'⟩:=A_of_N (k:=.assign) hxN
 have e0:f0.N=p:=congrArg (fun x=>match x with | Gc.N.n _ _ _ (.cons y _)=>y | _=>.nil) hxN'
 have e1:f1.N=q:=congrArg (fun x=>match x with | Gc.N.n _ _ _ (.cons _ (.cons y _))=>y | _=>.nil) hxN'
 obtain⟨ev,-,v0,v1,ho,-,-⟩:=open_assign (m:=1) (.inr rfl) (isn_of_N (by rw[e0];exact np)) (isn_of_N (by rw[e1];exact nq)) hR
 have eb:b=b':=by simp only[if_true,ptrVal]at ev;cases ev;rfl
 subst eb
 have p1:w.cell? ⟨b,1,none⟩=some (.int .i64 36):=cell_of_cells (cs:=[v0,.int .i64 (tokOf ⟨#[61]⟩),v1]) ho 1 (by rw[show tokOf ⟨#[61]⟩=36 from rfl];rfl)
 have zb:b<w.heap.size:=lt_of_heap ho
 cases hn
 clear hxN hxN' hR ho e0 e1 ev
 show Calls Tryz.prog 55 #[.agg #[.string ⟨#[65,115,115,105,103,110,83,116,109,116]⟩,.string ⟨#[61]⟩,.int .i64 0,.slice a c c'],.iface 286 (.pointer (some ⟨b,0,none⟩))] w _
 obtain⟨a0,a1,a2,a3,-⟩:=nobs 286 b 74 [183,238,242,283] (by decide)
 have t_AssignStmt:∀ w,(Instr.typeAssert (.iface 286 (.pointer (some ⟨b,0,none⟩))) 74 286 true).run Tryz.prog w=.ok (.tuple #[.pointer (some ⟨b,0,none⟩),.bool true]) w:=fun w=>as_assign _ _ w
 go_enter Tryz.func55,Tryz.ntmps55
 go_wp2_with fail
 refine(word_any ⟨#[61]⟩ [⟨#[61]⟩,⟨#[58,61]⟩] (by simp) (by decide) _ _ 2 2 rfl (fun j u hu=>?_)).mono ?_
 · refine cell_of_cells (cs:=[.string ⟨#[61]⟩,.string ⟨#[58,61]⟩]) (by first | exact heap2_1 _ _ _ | exact heap_alloc_new _ _) j ?_
   have:=congrArg (Option.map Value.string) hu
   rw[← List.getElem?_map]at this
   exact this
 rintro e w1 ⟨rfl,rfl⟩
 go_wp2_with fail
 go_ret
 exact⟨rfl,keptA.trans keptA⟩
theorem allowed_assign_1(p q:N)(np:p.isN)(nq:q.isN):AllowedB (.n (K.str .assign) ⟨#[43,61]⟩ 0 (.two p q)) .assign:=by
 intro kd tx i kids hn w D a c c' x b hxN hxK hR
 obtain⟨o',b',f0,f1,f2,f3,rfl,hxN'⟩:=A_of_N (k:=.assign) hxN
 have e0:f0.N=p:=congrArg (fun x=>match x with | Gc.N.n _ _ _ (.cons y _)=>y | _=>.nil) hxN'
 have e1:f1.N=q:=congrArg (fun x=>match x with | Gc.N.n _ _ _ (.cons _ (.cons y _))=>y | _=>.nil) hxN'
 obtain⟨ev,-,v0,v1,ho,-,-⟩:=open_assign (m:=1) (.inr rfl) (isn_of_N (by rw[e0];exact np)) (isn_of_N (by rw[e1];exact nq)) hR
 have eb:b=b':=by simp only[if_true,ptrVal]at ev;cases ev;rfl
 subst eb
 have p1:w.cell? ⟨b,1,none⟩=some (.int .i64 17):=cell_of_cells (cs:=[v0,.int .i64 (tokOf ⟨#[43,61]⟩),v1]) ho 1 (by rw[show tokOf ⟨#[43,61]⟩=17 from rfl];rfl)
 have zb:b<w.heap.size:=lt_of_heap ho
 cases hn
 clear hxN hxN' hR ho e0 e1 ev
 show Calls Tryz.prog 55 #[.agg #[.string ⟨#[65,115,115,105,103,110,83,116,109,116]⟩,.string ⟨#[43,61]⟩,.int .i64 0,.slice a c c'],.iface 286 (.pointer (some ⟨b,0,none⟩))] w _
 obtain⟨a0,a1,a2,a3,-⟩:=nobs 286 b 74 [183,238,242,283] (by decide)
 have t_AssignStmt:∀ w,(Instr.typeAssert (.iface 286 (.pointer (some ⟨b,0,none⟩))) 74 286 true).run Tryz.prog w=.ok (.tuple #[.pointer (some ⟨b,0,none⟩),.bool true]) w:=fun w=>as_assign _ _ w
 go_enter Tryz.func55,Tryz.ntmps55
 go_wp2_with fail
 go_ret
 exact⟨rfl,keptA⟩
theorem allowed_comm_no(l:N)(nl:l.isN):AllowedB (.n (K.str .comm) sE 0 (.two Gc.N.none l)) .comm:=by
 intro kd tx i kids hn w D a c c' x b hxN hxK hR
 obtain⟨o',b',f0,f1,f2,f3,rfl,hxN'⟩:=A_of_N (k:=.comm) hxN
 have e0:f0.N=Gc.N.none:=congrArg (fun x=>match x with | Gc.N.n _ _ _ (.cons y _)=>y | _=>.nil) hxN'
 have e1:f1.N=l:=congrArg (fun x=>match x with | Gc.N.n _ _ _ (.cons _ (.cons y _))=>y | _=>.nil) hxN'
 have i0:f0.isn:=isn_of_N (by rw[e0];exact trivial)
 obtain⟨ev,-,v0,v1,ho,r0,-⟩:=open_comm (m:=1) (.inr rfl) i0 (isn_of_N (by rw[e1];exact nl)) hR
 have eb:b=b':=by simp only[if_true,ptrVal]at ev;cases ev;rfl
 subst eb
 obtain⟨_,_,_,_,_,_,rfl,-⟩:=A_of_N (k:=.none) e0
 obtain rfl:=none_of1 i0 rfl r0
 have p1:w.cell? ⟨b,0,none⟩=some .nilIface:=cell_of_cells (cs:=[_,v1]) ho 0 rfl
 have tz:∀ w,(Instr.typeAssert .nilIface 274 286 true).run Tryz.prog w=.ok (.tuple #[.pointer none,.bool false]) w:=fun w=>assert_nil un_AssignStmt zp_AssignStmt _ w
 have zb:b<w.heap.size:=lt_of_heap ho
 clear hn hxN hxN' hR ho e0 e1 ev r0
 show Calls Tryz.prog 55 #[.agg #[.string kd,.string tx,.int .i64 i,.slice a c c'],.iface 317 (.pointer (some ⟨b,0,none⟩))] w _
 obtain⟨a0,a1,a2,a3,a4,a5,a6,a7,a8,a9,a10,-⟩:=nobs 317 b 74 [183,238,242,283,286,298,326,262,311,314,320] (by decide)
 have t_CommClause:∀ w,(Instr.typeAssert (.iface 317 (.pointer (some ⟨b,0,none⟩))) 74 317 true).run Tryz.prog w=.ok (.tuple #[.pointer (some ⟨b,0,none⟩),.bool true]) w:=fun w=>as_comm _ _ w
 go_enter Tryz.func55,Tryz.ntmps55
 go_wp2_with fail
 go_ret
 exact⟨rfl,keptA⟩
theorem allowed_comm_some(p l:N)(tp:Str)(ip:Int)(kp:N)(hp:p=.n (K.str .exprS) tp ip kp)(np:p.isN)(nl:l.isN):AllowedB (.n (K.str .comm) sE 0 (.two p l)) .comm:=by
 intro kd tx i kids hn w D a c c' x b hxN hxK hR
 obtain⟨o',b',f0,f1,f2,f3,rfl,hxN'⟩:=A_of_N (k:=.comm) hxN
 have e0:f0.N=p:=congrArg (fun x=>match x with | Gc.N.n _ _ _ (.cons y _)=>y | _=>.nil) hxN'
 have e1:f1.N=l:=congrArg (fun x=>match x with | Gc.N.n _ _ _ (.cons _ (.cons y _))=>y | _=>.nil) hxN'
 have i0:f0.isn:=isn_of_N (by rw[e0];exact np)
 obtain⟨ev,-,v0,v1,ho,r0,-⟩:=open_comm (m:=1) (.inr rfl) i0 (isn_of_N (by rw[e1];exact nl)) hR
 have eb:b=b':=by simp only[if_true,ptrVal]at ev;cases ev;rfl
 subst eb
 rw[hp]at e0
 obtain⟨_,_,_,_,_,_,rfl,-⟩:=A_of_N (k:=.exprS) e0
 obtain⟨b2,rfl,-⟩:=iface_of (k:=.exprS) rfl trivial r0
 have p1:w.cell? ⟨b,0,none⟩=some (.iface (K.pty .exprS) (.pointer (some ⟨b2,0,none⟩))):=cell_of_cells (cs:=[_,v1]) ho 0 rfl
 have tz:∀ w,(Instr.typeAssert (.iface (K.pty .exprS) (.pointer (some ⟨b2,0,none⟩))) 274 286 true).run Tryz.prog w=.ok (.tuple #[.pointer none,.bool false]) w:=fun w=>assert_no un_AssignStmt zp_AssignStmt (by decide) _ _ w
 have zb:b<w.heap.size:=lt_of_heap ho
 clear hn hxN hxN' hR ho e0 e1 ev r0
 show Calls Tryz.prog 55 #[.agg #[.string kd,.string tx,.int .i64 i,.slice a c c'],.iface 317 (.pointer (some ⟨b,0,none⟩))] w _
 obtain⟨a0,a1,a2,a3,a4,a5,a6,a7,a8,a9,a10,-⟩:=nobs 317 b 74 [183,238,242,283,286,298,326,262,311,314,320] (by decide)
 have t_CommClause:∀ w,(Instr.typeAssert (.iface 317 (.pointer (some ⟨b,0,none⟩))) 74 317 true).run Tryz.prog w=.ok (.tuple #[.pointer (some ⟨b,0,none⟩),.bool true]) w:=fun w=>as_comm _ _ w
 go_enter Tryz.func55,Tryz.ntmps55
 go_wp2_with fail
 go_ret
 exact⟨rfl,keptA⟩
theorem allowed_switch_any(p q l:N)(np:p.isN)(nq:q.isN)(hl:l.isList)(hml:l.len≤100000)(hk:∀ j,j<l.len→∃ t i ks,l.get j=.n (K.str .case_) t i ks):AllowedB (.n (K.str .switch) sE 0 (.three p q (.part kBlock (.one (.list l))))) .switch:=by
 intro kd tx i kids hn w D a c c' x b hxN hxK hR
 obtain⟨o',b',f0,f1,f2,f3,rfl,hxN'⟩:=A_of_N (k:=.switch) hxN
 have e0:f0.N=p:=congrArg (fun x=>match x with | Gc.N.n _ _ _ (.cons y _)=>y | _=>.nil) hxN'
 have e1:f1.N=q:=congrArg (fun x=>match x with | Gc.N.n _ _ _ (.cons _ (.cons y _))=>y | _=>.nil) hxN'
 have e2:f2.N=.n (K.str .block) sE 0 (.one (.list l)):=congrArg (fun x=>match x with | Gc.N.n _ _ _ (.cons _ (.cons _ (.cons y _)))=>y | _=>.nil) hxN'
 have i2:f2.isn:=isn_of_N (by rw[e2];trivial)
 obtain⟨ev,-,v0,v1,v2,ho,-,-,r2⟩:=open_switch (m:=1) (.inr rfl) (isn_of_N (by rw[e0];exact np)) (isn_of_N (by rw[e1];exact nq)) i2 hR
 have eb:b=b':=by simp only[if_true,ptrVal]at ev;cases ev;rfl
 subst eb
 obtain⟨o2,b2,g0,g1,g2,g3,rfl,e3⟩:=A_of_N (k:=.block) e2
 have e4:g0.N=.n (K.str .list) sE 0 l:=congrArg (fun x=>match x with | Gc.N.n _ _ _ (.cons y _)=>y | _=>.nil) e3
 have i3:g0.isn:=isn_of_N (by rw[e4];exact hl)
 obtain⟨ev2,-,u0,ho2,r3⟩:=open_block (m:=0) (.inl rfl) i3 r2
 simp only[Nat.zero_ne_one,if_false,ptrVal]at ev2
 subst ev2
 obtain⟨o4,b4,l0,_,_,_,rfl,e5⟩:=A_of_N (k:=.list) e4
 have e6:l0.N=l:=congrArg (fun x=>match x with | Gc.N.n _ _ _ y=>y | _=>.nil) e5
 obtain⟨u1,rs,eu,r4,-⟩:=r3
 simp only[List.cons.injEq]at eu
 obtain⟨rfl,-⟩:=eu
 have il:l0.isList:=A.isList_of_N _ (by rw[e6];exact hl)
 have ln:l0.len=l.len:=by rw[← A.N_len _ il,e6]
 obtain⟨ga,gc,rfl,-⟩:=list_valA il r4
 have hK:∀ j,j<l0.len→(l0.get j).K=.case_:=fun j hj=>by
  obtain⟨t,i,ks,e⟩:=hk j (by omega)
  have:=A.N_get l0 j hj
  rw[e6,e]at this
  obtain⟨_,_,_,_,_,_,h,-⟩:=A_of_N this
  rw[h]
  rfl
 have p1:w.cell? ⟨b,2,none⟩=some (.pointer (some ⟨b2,0,none⟩)):=cell_of_cells (cs:=[v0,v1,.pointer (some ⟨b2,0,none⟩)]) ho 2 rfl
 have p2:w.cell? ⟨b2,0,none⟩=some (.slice ga l0.len gc):=cell_of_cells (cs:=[_]) ho2 0 rfl
 have zb:b<w.heap.size:=lt_of_heap ho
 have zb2:b2<w.heap.size:=lt_of_heap ho2
 have HR4:=Lib.hid r4
 have HK:=Lib.hid hK
 have Hln:=Lib.hid ln
 obtain⟨nn,hnn⟩:∃ nn,nn=l0.len:=⟨_,rfl⟩
 rw[← hnn]at p2
 have Hnn:=Lib.hid hnn
 clear hn hxN hxN' hR ho ev r2 e2 e3 e4 e5 e6 ho2 r4 hK ln hnn hk e0 e1
 show Calls Tryz.prog 55 #[.agg #[.string kd,.string tx,.int .i64 i,.slice a c c'],.iface 311 (.pointer (some ⟨b,0,none⟩))] w _
 obtain⟨a0,a1,a2,a3,a4,a5,a6,a7,-⟩:=nobs 311 b 74 [183,238,242,283,286,298,326,262] (by decide)
 have t_SwitchStmt:∀ w,(Instr.typeAssert (.iface 311 (.pointer (some ⟨b,0,none⟩))) 74 311 true).run Tryz.prog w=.ok (.tuple #[.pointer (some ⟨b,0,none⟩),.bool true]) w:=fun w=>as_switch _ _ w
 go_enter Tryz.func55,Tryz.ntmps55
 go_wp2_with fail
 refine(clauses_CaseClause l0 il HK.out (by have:=Hln.out;omega) _ D ga nn gc (by rw[Hnn.out];exact HR4.out.kept (keptA (M:=fun _=>False)) (fun _ _ f=>f))).mono ?_
 rintro e w1 ⟨rfl,rfl⟩
 go_wp2_with fail
 go_ret
 exact⟨rfl,keptA⟩
theorem allowed_select_any(l:N)(hl:l.isList)(hml:l.len≤100000)(hk:∀ j,j<l.len→∃ t i ks,l.get j=.n (K.str .comm) t i ks):AllowedB (.n (K.str .select) sE 0 (.one (.part kBlock (.one (.list l))))) .select:=by
 intro kd tx i kids hn w D a c c' x b hxN hxK hR
 obtain⟨o',b',f0,f1,f2,f3,rfl,hxN'⟩:=A_of_N (k:=.select) hxN
 have e2:f0.N=.n (K.str .block) sE 0 (.one (.list l)):=congrArg (fun x=>match x with | Gc.N.n _ _ _ (.cons y _)=>y | _=>.nil) hxN'
 have i2:f0.isn:=isn_of_N (by rw[e2];trivial)
 obtain⟨ev,-,v0,ho,r2⟩:=open_select (m:=1) (.inr rfl) i2 hR
 have eb:b=b':=by simp only[if_true,ptrVal]at ev;cases ev;rfl
 subst eb
 obtain⟨o2,b2,g0,g1,g2,g3,rfl,e3⟩:=A_of_N (k:=.block) e2
 have e4:g0.N=.n (K.str .list) sE 0 l:=congrArg (fun x=>match x with | Gc.N.n _ _ _ (.cons y _)=>y | _=>.nil) e3
 have i3:g0.isn:=isn_of_N (by rw[e4];exact hl)
 obtain⟨ev2,-,u0,ho2,r3⟩:=open_block (m:=0) (.inl rfl) i3 r2
 simp only[Nat.zero_ne_one,if_false,ptrVal]at ev2
 subst ev2
 obtain⟨o4,b4,l0,_,_,_,rfl,e5⟩:=A_of_N (k:=.list) e4
 have e6:l0.N=l:=congrArg (fun x=>match x with | Gc.N.n _ _ _ y=>y | _=>.nil) e5
 obtain⟨u1,rs,eu,r4,-⟩:=r3
 simp only[List.cons.injEq]at eu
 obtain⟨rfl,-⟩:=eu
 have il:l0.isList:=A.isList_of_N _ (by rw[e6];exact hl)
 have ln:l0.len=l.len:=by rw[← A.N_len _ il,e6]
 obtain⟨ga,gc,rfl,-⟩:=list_valA il r4
 have hK:∀ j,j<l0.len→(l0.get j).K=.comm:=fun j hj=>by
  obtain⟨t,i,ks,e⟩:=hk j (by omega)
  have:=A.N_get l0 j hj
  rw[e6,e]at this
  obtain⟨_,_,_,_,_,_,h,-⟩:=A_of_N this
  rw[h]
  rfl
 have p1:w.cell? ⟨b,0,none⟩=some (.pointer (some ⟨b2,0,none⟩)):=cell_of_cells (cs:=[.pointer (some ⟨b2,0,none⟩)]) ho 0 rfl
 have p2:w.cell? ⟨b2,0,none⟩=some (.slice ga l0.len gc):=cell_of_cells (cs:=[_]) ho2 0 rfl
 have zb:b<w.heap.size:=lt_of_heap ho
 have zb2:b2<w.heap.size:=lt_of_heap ho2
 have HR4:=Lib.hid r4
 have HK:=Lib.hid hK
 have Hln:=Lib.hid ln
 obtain⟨nn,hnn⟩:∃ nn,nn=l0.len:=⟨_,rfl⟩
 rw[← hnn]at p2
 have Hnn:=Lib.hid hnn
 clear hn hxN hxN' hR ho ev r2 e2 e3 e4 e5 e6 ho2 r4 hK ln hnn hk
 show Calls Tryz.prog 55 #[.agg #[.string kd,.string tx,.int .i64 i,.slice a c c'],.iface 320 (.pointer (some ⟨b,0,none⟩))] w _
 obtain⟨a0,a1,a2,a3,a4,a5,a6,a7,a8,a9,-⟩:=nobs 320 b 74 [183,238,242,283,286,298,326,262,311,314] (by decide)
 have t_SelectStmt:∀ w,(Instr.typeAssert (.iface 320 (.pointer (some ⟨b,0,none⟩))) 74 320 true).run Tryz.prog w=.ok (.tuple #[.pointer (some ⟨b,0,none⟩),.bool true]) w:=fun w=>as_select _ _ w
 go_enter Tryz.func55,Tryz.ntmps55
 go_wp2_with fail
 refine(clauses_CommClause l0 il HK.out (by have:=Hln.out;omega) _ D ga nn gc (by rw[Hnn.out];exact HR4.out.kept (keptA (M:=fun _=>False)) (fun _ _ f=>f))).mono ?_
 rintro e w1 ⟨rfl,rfl⟩
 go_wp2_with fail
 go_ret
 exact⟨rfl,keptA⟩
end Go.Proofs.YtleolbpibjnedaaGreat
