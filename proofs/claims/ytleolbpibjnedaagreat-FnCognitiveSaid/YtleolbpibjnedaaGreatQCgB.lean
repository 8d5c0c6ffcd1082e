/- gocognit: operators of logic; tokens' texts; two rows of operators and one between become one row. -/
import Derived.Test.YtleolbpibjnedaaGreatQCgA
import Derived.Laws.OwnMore
import Derived.Test.YtleolbpibjnedaaGreatQWkG
import Derived.Test.YtleolbpibjnedaaGreatQBdC
import Derived.Deep.RegionHeld3
set_option linter.unusedSimpArgs false
set_option linter.unusedVariables false
set_option maxRecDepth 100000
set_option maxHeartbeats 4000000
namespace Gc
open Go
def isLg(n:Int):Bool:=n == 28 || n == 29
def tokText(n:Int):Str:=if n=28 then sAnd else if n=29 then sOr else if n=44 then sBreak else sContinue
def tokVals(l:List Int):List Value:=l.map (.int .i64 ·)
def Toks(w:World)(B:Nat)(v:Value)(l:List Int):Prop :=
 (v=.slice none 0 0∧l=[])∨∃ g o c,v=.slice (some ⟨g,o,none⟩) l.length c∧B≤g∧g<w.heap.size∧∀ j u,(tokVals l)[j]?=some u→w.cell? ⟨g,o+j,none⟩=some u
theorem Toks.kept{w w':World}{B:Nat}{v:Value}{l:List Int}(h:Toks w B v l){M:Nat→Prop}(hk:Kept M w w')(hM:∀ b,B≤b→b<w.heap.size→¬ M b):Toks w' B v l:=by
 rcases h with h|⟨g,o,c,h1,h2,h3,h4⟩
 · exact .inl h
 · exact .inr ⟨g,o,c,h1,h2,Nat.lt_of_lt_of_le h3 hk.size,fun j u hu=>hk.cell (h4 j u hu) (hM g h2 h3)⟩
theorem Toks.low{w:World}{B B':Nat}{v:Value}{l:List Int}(h:Toks w B v l)(hb:B'≤B):Toks w B' v l:=by
 rcases h with h|⟨g,o,c,h1,h2,h3,h4⟩
 · exact .inl h
 · exact .inr ⟨g,o,c,h1,by omega,h3,h4⟩
theorem ownsRow.toks{w:World}{base E:Nat}{v:Value}{l:List Int}(h:w.ownsRow base E 1 v l.length (tokVals l)):Toks w base v l:=by
 rcases h.2 with ⟨e,h0⟩|⟨g,cap,cur,e,hb,hg,hnc,-,hcs,htake⟩
 · exact .inl ⟨e,List.eq_nil_of_length_eq_zero h0⟩
 · subst e
   refine .inr ⟨g,0,cap,rfl,hb,lt_of_heap hg,fun j u hu=>?_⟩
   have hj:j<l.length:=by
    have:=(List.getElem?_eq_some_iff.1 hu).1
    simpa [tokVals]using this
   have:=h.cellAt j (by omega)
   rw[Nat.zero_add]
   exact this.trans hu
theorem wpList_append_run{P:Program}{ops:Array Oper}{rest:List Oper}{o:Oper}{A:Act}{Q:Exit→Act→World→Prop}{w w':World}{v x v':Value}(hgd:o.guard=none)(s y:Operand)(t:TypeId)
 (ho:o.op=.call { callee:=.builtin .append,args:=#[s,y],argTypes:=#[t,t] }) (hs:A.eval s=v) (hy:A.eval y=x) (hr:(Builtin.append_ #[t,t] o.type #[v,x]).run P w=.ok v' w')
 (h:wpList P ops Q rest (A.put o.dst v') w'):wpList P ops Q (o :: rest) A w:=by
 refine wpList_plain hgd fun K hK=>?_
 unfold Oper.wp execOp
 simp only[ho,resolve,invoke,builtin,Sem.run_bind,Sem.run_pure,Result.andThen_ok,List.map_toArray,List.map_cons,List.map_nil,hs,hy,hr]
 exact hK _ _ h
end Gc
namespace Go.Proofs.YtleolbpibjnedaaGreat
open Go Go.RowKit Gc
theorem ul_sTok:Tryz.prog.underlying 395=some (.slice 136):=by kernel_rfl
theorem info_Tok:(Tryz.prog.info? 136).map (fun i=>(i.zero,i.size,i.bytes))=some (some (.int .i64 0),1,8):=by kernel_rfl
theorem append_toks{w:World}{base:Nat}{v x:Value}{l m:List Int}{B:Nat}(ho:w.ownsRow base 136 1 v l.length (tokVals l))(hx:Toks w B x m)(hl:l.length≤100000)(hm:m.length≤100000)(hb:base≤w.heap.size)(ty:TypeId) :
 ∃ v' w',(Builtin.append_ #[395,395] ty #[v,x]).run Tryz.prog w=.ok v' w'∧w'.ownsRow base 136 1 v' (l++m).length (tokVals (l++m))∧Kept (fun k=>v.ownBlock=some k) w w':=by
 obtain⟨i0,hi,hz0,hz1,hz2⟩:=info_parts info_Tok
 rcases hx with ⟨rfl,rfl⟩|⟨g,o,c,rfl,h2,h3,h4⟩
 · exact⟨v,w,run_append_owned_none w base 395 ty 136 i0 1 ul_sTok hi v _ _ ho,by simpa using ho,Kept.refl _ _⟩
 · have hml:maxLen=9223372036854775807∨True:=.inr trivial
   obtain⟨v',w',hr,ho',hg,-⟩:=run_append_own (P:=Tryz.prog) (w:=w) base 395 ty 136 i0 _ 1 8 ul_sTok hi hz0 hz1 hz2 rfl (by decide) v l.length (tokVals l) ho ⟨g,o,none⟩ m.length c (tokVals m) (by simp[tokVals])
    (fun j u hu=>by rw[addr_add];exact h4 j u hu) (fun u hu=>by simp only[tokVals,List.mem_map]at hu;obtain⟨_,_,rfl⟩:=hu;rfl) (by unfold maxLen;omega) (by omega) hb
   refine⟨v',w',hr,?_,Kept.grown hg (fun k e=>e)⟩
   rw[List.length_append,show tokVals (l++m)=tokVals l++tokVals m by simp[tokVals]]
   exact ho'
theorem is_logic(n:Int)(w:World):Calls Tryz.prog 154 #[.int .i64 n] w (AskP w (isLg n)):=by
 by_cases h1:n=28
 · subst h1
   go_enter Tryz.func154,Tryz.ntmps154
   go_wp2_with fail
   go_ret
   exact⟨rfl,rfl⟩
 · by_cases h2:n=29
   · subst h2
     go_enter Tryz.func154,Tryz.ntmps154
     go_wp2_with fail
     go_ret
     exact⟨rfl,rfl⟩
   · have e:isLg n=false:=by simp[isLg,h1,h2]
     have e1:(n == 28)=false:=by simpa using h1
     have e2:(n == 29)=false:=by simpa using h2
     rw[e]
     clear e
     go_enter Tryz.func154,Tryz.ntmps154
     go_wp2_with fail
     go_ret
     exact⟨by first | rfl | simp[e1,e2],rfl⟩
def TextP(w:World)(n:Int)(e:Ending)(w':World):Prop:=e=.returned (.string (tokText n))∧w'=w
theorem tok_text(n:Int)(hn:n=28∨n=29∨n=44∨n=46)(w:World):Calls Tryz.prog 109 #[.int .i64 n] w (TextP w n):=by
 rcases hn with rfl|rfl|rfl|rfl
 all_goals
  go_enter Tryz.func109,Tryz.ntmps109
  go_wp2_with fail
  go_ret
  exact⟨rfl,rfl⟩
def MergeP(w:World)(l:List Int)(e:Ending)(w':World):Prop:=∃ v,e=.returned v∧Toks w' w.heap.size v l∧Kept (fun _=>False) w w'
theorem merge_any(w:World)(B:Nat)(x y:Value)(l m:List Int)(op:Int)(hx:Toks w B x l)(hy:Toks w B y m)(hl:l.length≤10000)(hm:m.length≤10000) :
 Calls Tryz.prog 159 #[x,.int .i64 op,y] w (MergeP w (l++(if isLg op=true then [op] else [])++m)):=by
 obtain⟨v1,w1,hr1,ho1,k1⟩:=append_toks (w:=w) (base:=w.heap.size) (v:=.slice none 0 0) (l:=[]) (World.ownsRow_nil _ _ _ _) hx (by simp) (by omega) (Nat.le_refl _) 395
 have k1':Kept (fun _=>False) w w1:=k1.mono fun b _ h=>by cases h
 have s1:=k1'.size
 have HL:=Lib.hid (is_logic op w1)
 have hrow:∀ {w2:World} {v:Value} {ll:List Int},w2.ownsRow w.heap.size 136 1 v ll.length (tokVals ll)→∀ k,v.ownBlock=some k→w.heap.size≤k:=by
  intro w2 v ll h k e
  rcases h.2 with ⟨e2,-⟩|⟨g,cap,cur,e2,hb,-⟩
  · rw[e2]at e;cases e
  · rw[e2]at e;simp only[Value.ownBlock,Option.some.injEq]at e;omega
 rw[List.nil_append]at ho1
 cases hop:isLg op
 · have hy1:Toks w1 B y m:=hy.kept k1' (fun _ _ _ f=>f)
   obtain⟨v3,w3,hr3,ho3,k3⟩:=append_toks ho1 hy1 (by omega) (by omega) s1 395
   rw[hop]at HL
   have hT:=ownsRow.toks ho3
   have HT:=Lib.hid hT
   have k13:Kept (fun _=>False) w w3:=((k1'.mono (M':=fun b=>False∨w.heap.size≤b) fun _ _ f=>f.elim).trans (k3.mono fun b _ h=>.inr (hrow ho1 b h))).fresh (Nat.le_refl _)
   clear ho1 ho3 hT hx hy hy1 k1 k3 hrow hop
   go_enter Tryz.func159,Tryz.ntmps159
   go_wp2_with (at_builtin;go_must (refine wpList_append_run rfl (.tmp 8) (.tmp 9) 395 rfl rfl rfl hr1 ?_))
   refine HL.out.mono ?_
   rintro e w' ⟨rfl,rfl⟩
   go_wp2_with (at_builtin;go_must (refine wpList_append_run rfl (.tmp 17) (.tmp 18) 395 rfl rfl rfl hr3 ?_))
   go_ret
   exact⟨v3,rfl,by simpa using HT.out,k13⟩
 · have kA:Kept (fun _=>False) w1 (w1.alloc (.cells #[.int .i64 op] 136)):=keptA
   have hone:Toks (w1.alloc (.cells #[.int .i64 op] 136)) w1.heap.size (.slice (some ⟨w1.heap.size,0,none⟩) 1 1) [op]:=.inr ⟨w1.heap.size,0,1,rfl,Nat.le_refl _,by simp,fun j u hu=>by
    have:=new_cells w1 [.int .i64 op] 136 j u hu
    rw[addr_add]at this
    exact this⟩
   have ho1':(w1.alloc (.cells #[.int .i64 op] 136)).ownsRow w.heap.size 136 1 v1 l.length (tokVals l):=ownsRow.keptBy ho1 kA (fun _ _ f=>f)
   obtain⟨v2,w2,hr2,ho2,k2⟩:=append_toks ho1' hone (by omega) (by simp) (by have:=kA.size;omega) 395
   have k12:Kept (fun b=>v1.ownBlock=some b) w1 w2:=(kA.mono fun _ _ f=>f.elim).trans k2
   have k02:Kept (fun _=>False) w w2:=((k1'.mono (M':=fun b=>False∨w.heap.size≤b) fun _ _ f=>f.elim).trans (k12.mono fun b _ h=>.inr (hrow ho1 b h))).fresh (Nat.le_refl _)
   have hy2:Toks w2 B y m:=hy.kept k02 (fun _ _ _ f=>f)
   obtain⟨v3,w3,hr3,ho3,k3⟩:=append_toks ho2 hy2 (by simp;omega) (by omega) k02.size 395
   rw[hop]at HL
   have hT:=ownsRow.toks ho3
   have HT:=Lib.hid hT
   have k13:Kept (fun _=>False) w w3:=((k02.mono (M':=fun b=>False∨w.heap.size≤b) fun _ _ f=>f.elim).trans (k3.mono fun b _ h=>.inr (hrow ho2 b h))).fresh (Nat.le_refl _)
   clear ho1 ho1' ho2 ho3 hT hx hy hy2 hone kA k1 k2 k3 k12 k02 hrow hop
   go_enter Tryz.func159,Tryz.ntmps159
   go_wp2_with (at_builtin;go_must (refine wpList_append_run rfl (.tmp 8) (.tmp 9) 395 rfl rfl rfl hr1 ?_))
   refine HL.out.mono ?_
   rintro e w' ⟨rfl,rfl⟩
   go_upto_region 5 with (at_builtin;go_must (refine wpList_append_run rfl (.tmp 13) (.tmp 15) 395 rfl rfl rfl hr2 ?_))
   go_wp2_with (at_builtin;go_must (refine wpList_append_run rfl (.tmp 17) (.tmp 18) 395 rfl rfl rfl hr3 ?_))
   go_ret
   exact⟨v3,rfl,by simpa using HT.out,k13⟩
end Go.Proofs.YtleolbpibjnedaaGreat
namespace Gc
open Go
def A.ops:A→List Int
 | .n .bin text _ _ _ f0 f1 _ _=>f0.ops++(if isLg (tokOf text)=true then [tokOf text] else [])++f1.ops
 | .n .paren _ _ _ _ f0 _ _ _=>f0.ops
 | _=>[]
def A.coll:A→CS→CS
 | .n .bin _ _ _ b f0 f1 _ _,s=>f1.coll (f0.coll (s.done K.bin.pty b))
 | .n .paren _ _ _ b f0 _ _ _,s=>f0.coll (s.done K.paren.pty b)
 | .n k _ _ _ b _ _ _ _,s=>s.done k.pty b
 | _,s=>s
end Gc
namespace Go.Proofs.YtleolbpibjnedaaGreat
open Go Go.RowKit Gc
def CollP(vb B:Nat)(nm:Value)(s':CS)(w:World)(me mc:Option Nat)(a:Option Addr)(c:Nat)(l:List Int)(e:Ending)(w':World):Prop :=
 ∃ v,e=.returned v∧Toks w' w.heap.size v l∧∃ mb,GRow vb B nm s' w' me (some mb) a c∧Kept (fun b=>b=vb∨mc=some b) w w'∧(∀ m,mc=some m→mb=m)∧(mc=some mb∨w.heap.size≤mb)
def CollOk(x:A):Prop:=∀ (vb B:Nat) (nm:Value) (s:CS) (w:World) (me mc:Option Nat) (a:Option Addr) (c:Nat),GRow vb B nm s w me mc a c→∀ (D:Nat→Prop) (v:Value),Rep w D (x.g 1 .fin) [v]→(∀ b,D b→b<B)→x.ops.length≤10000 →
 Calls Tryz.prog 156 #[.pointer (some ⟨vb,0,none⟩),v] w (CollP vb B nm (x.coll s) w me mc a c x.ops)
theorem GRow.kept{vb B:Nat}{nm:Value}{s:CS}{w w':World}{me mc:Option Nat}{a:Option Addr}{c:Nat}(h:GRow vb B nm s w me mc a c)(hk:Kept (fun _=>False) w w'):GRow vb B nm s w' me mc a c :=
 ⟨hk.obj h.obj (fun f=>f),h.own.kept hk (fun _ _ f=>f) (fun _ f=>f.elim),h.els.kept hk (fun _ _ f=>f) (fun _ _ f=>f),h.cal.kept hk (fun _ _ f=>f) (fun _ _ f=>f),h.ne,fun d hd=>(h.keys d hd).kept hk (fun _ _ f=>f),h.lb⟩
theorem key_rep{x:A}{k:K}(hk:x.K=k)(hr:k.real){w:World}{D:Nat→Prop}{B:Nat}{v:Value}(hR:Rep w D (x.g 1 .fin) [v])(hD:∀ b,D b→b<B):∃ b,v=.iface k.pty (.pointer (some ⟨b,0,none⟩))∧KeyB w B v∧D b:=by
 obtain⟨b,cs,t,e,ho⟩:=iface_obj hk hr hR
 obtain⟨b',e',hb⟩:=iface_of hk hr hR
 rw[e]at e'
 simp only[Value.iface.injEq,Value.pointer.injEq,Option.some.injEq,Addr.mk.injEq,and_true,true_and]at e'
 subst e'
 exact⟨b,e,⟨k,b,cs,t,hr,e,ho,hD b hb⟩,hb⟩
theorem coll_trans{vb mb:Nat}{mc:Option Nat}{w w1 w2:World}(k1:Kept (fun b=>b=vb∨mc=some b) w w1)(k2:Kept (fun b=>b=vb∨some mb=some b) w1 w2)(hm:mc=some mb∨w.heap.size≤mb):Kept (fun b=>b=vb∨mc=some b) w w2 :=
 ((k1.mono (M':=fun b=>(b=vb∨mc=some b)∨w.heap.size≤b) fun _ _ h=>.inl h).trans (k2.mono fun b _ h=>by
   rcases h with h|h
   · exact .inl (.inl h)
   · cases h
     exact hm.imp (fun e=>.inr e) id)).fresh (Nat.le_refl _)
theorem coll_leaf(k:K)(hr:k.real)(hk:k≠.bin∧k≠.paren)(text:Str)(num:Int)(o:Option Addr)(b:Nat)(f0 f1 f2 f3:A):CollOk (.n k text num o b f0 f1 f2 f3):=by
 intro vb B nm s w me mc a c h D v hR hD _
 obtain⟨b',rfl,hkey,-⟩:=key_rep (k:=k) rfl hr hR hD
 have eb:b'=b:=by
  cases k<;>first
   | exact hr.elim
   | (simp only[A.g,if_true]at hR;obtain⟨cs,rs,e,_⟩:=hR;simp only[ptrVal,List.cons.injEq,Value.iface.injEq,Value.pointer.injEq,Option.some.injEq,Addr.mk.injEq,and_true,true_and]at e;exact e.1)
 subst eb
 have es:(A.n k text num o b' f0 f1 f2 f3).coll s=s.done k.pty b':=by cases k<;>first | rfl | exact absurd rfl hk.1 | exact absurd rfl hk.2
 have eo:(A.n k text num o b' f0 f1 f2 f3).ops=[]:=by cases k<;>first | rfl | exact absurd rfl hk.1 | exact absurd rfl hk.2
 rw[es,eo]
 have HM:=Lib.hid (mark_cal h k b' hkey)
 have h1:k.pty≠220:=by cases k<;>first | exact absurd rfl hk.2 | exact hr.elim | decide
 have h2:k.pty≠242:=by cases k<;>first | exact absurd rfl hk.1 | exact hr.elim | decide
 obtain⟨s',hs'⟩:∃ s',s'=s.done k.pty b':=⟨_,rfl⟩
 obtain⟨X,hX⟩:∃ X,X=k.pty:=⟨_,rfl⟩
 rw[← hs']at HM ⊢
 rw[← hX]at HM h1 h2 ⊢
 have t1:=nob (P:=Tryz.prog) X b' 153 un_ParenExpr zp_ParenExpr h1
 have t2:=nob (P:=Tryz.prog) X b' 153 un_BinaryExpr zp_BinaryExpr h2
 clear hR hkey es eo h hX hs' h1 h2
 go_enter Tryz.func156,Tryz.ntmps156
 go_wp2_with fail
 refine HM.out.mono ?_
 rintro e w1 ⟨rfl,mb,h1,k1,hm⟩
 have H1:=Lib.hid h1
 have Hm:=Lib.hid hm
 clear h1 hm
 go_wp2_with fail
 go_ret
 exact⟨_,rfl,.inl ⟨rfl,rfl⟩,mb,H1.out,k1,Hm.out⟩
theorem coll_paren(text:Str)(num:Int)(o:Option Addr)(b:Nat)(f0 f1 f2 f3:A)(i0:f0.isn)(hf:CollOk f0):CollOk (.n .paren text num o b f0 f1 f2 f3):=by
 intro vb B nm s w me mc a c h D v hR hD hl
 obtain⟨b',rfl,hkey,-⟩:=key_rep (k:=.paren) rfl trivial hR hD
 obtain⟨ev,hbD,v0,ho,r0⟩:=open_paren (m:=1) (.inr rfl) i0 hR
 have eb:b'=b:=by simp only[if_true,ptrVal]at ev;cases ev;rfl
 subst eb
 have HM:=Lib.hid (mark_cal h .paren b' hkey)
 have hbB:=hD b' hbD
 have hlb:=h.lb
 have t1:∀ w,(Instr.typeAssert (.iface 220 (.pointer (some ⟨b',0,none⟩))) 153 220 true).run Tryz.prog w=.ok (.tuple #[.pointer (some ⟨b',0,none⟩),.bool true]) w:=fun w=>assert_yes un_ParenExpr _ _ w
 have hmc:∀ m,mc=some m→B≤m:=fun m e=>by subst e;exact h.cal.1
 have Ho:=Lib.hid ho
 have HR0:=Lib.hid r0
 have HF:=Lib.hid hf
 have HD:=Lib.hid hD
 clear hR hkey h ho r0 hf hD ev
 show Calls Tryz.prog 156 #[.pointer (some ⟨vb,0,none⟩),.iface 220 (.pointer (some ⟨b',0,none⟩))] w _
 go_enter Tryz.func156,Tryz.ntmps156
 go_wp2_with fail
 refine HM.out.mono ?_
 rintro e w1 ⟨rfl,mb,h1,k1,hm⟩
 have hlow:∀ b,b<B→¬ (b=vb∨mc=some b):=by
  rintro b hb (e|e)
  · omega
  · have:=hmc b e;omega
 have o1:=k1.obj Ho.out (hlow b' hbB)
 have p0:=cell_of_cells (cs:=[_]) o1 0 rfl
 have zb:b'<w1.heap.size:=lt_of_heap o1
 have HC:=Lib.hid (HF.out vb B nm _ w1 me (some mb) a c h1 D v0 (HR0.out.kept k1 (fun b hb=>hlow b (HD.out b hb))) HD.out hl)
 have Hm:=Lib.hid hm
 clear h1 hm o1
 go_wp2_with fail
 refine HC.out.mono ?_
 rintro e w2 ⟨v,rfl,T2,mb2,h2,k2,hm2⟩
 have H2:=Lib.hid h2
 have HT:=Lib.hid T2
 have e2:mb2=mb:=hm2.1 mb rfl
 subst e2
 clear h2 T2 hm2
 go_wp2_with fail
 go_ret
 exact⟨v,rfl,HT.out.low k1.size,mb2,H2.out,coll_trans k1 k2 Hm.out.2,Hm.out⟩
theorem coll_bin(text:Str)(num:Int)(o:Option Addr)(b:Nat)(f0 f1 f2 f3:A)(i0:f0.isn)(i1:f1.isn)(hf:CollOk f0)(hg:CollOk f1):CollOk (.n .bin text num o b f0 f1 f2 f3):=by
 intro vb B nm s w me mc a c h D v hR hD hl
 obtain⟨b',rfl,hkey,-⟩:=key_rep (k:=.bin) rfl trivial hR hD
 obtain⟨ev,hbD,v0,v1,ho,r0,r1⟩:=open_bin (m:=1) (.inr rfl) i0 i1 hR
 have eb:b'=b:=by simp only[if_true,ptrVal]at ev;cases ev;rfl
 subst eb
 have HM:=Lib.hid (mark_cal h .bin b' hkey)
 have hbB:=hD b' hbD
 have hlb:=h.lb
 have t1:=nob (P:=Tryz.prog) 242 b' 153 un_ParenExpr zp_ParenExpr (by decide)
 have t2:∀ w,(Instr.typeAssert (.iface 242 (.pointer (some ⟨b',0,none⟩))) 153 242 true).run Tryz.prog w=.ok (.tuple #[.pointer (some ⟨b',0,none⟩),.bool true]) w:=fun w=>assert_yes un_BinaryExpr _ _ w
 have hmc:∀ m,mc=some m→B≤m:=fun m e=>by subst e;exact h.cal.1
 have hl0:f0.ops.length≤10000∧f1.ops.length≤10000:=by
  simp only[A.ops,List.length_append]at hl
  omega
 obtain⟨tk,htk⟩:∃ tk,tk=tokOf text:=⟨_,rfl⟩
 have eo:(A.n .bin text num o b' f0 f1 f2 f3).ops=f0.ops++(if isLg tk=true then [tk] else [])++f1.ops:=by rw[htk];rfl
 have ec:(A.n .bin text num o b' f0 f1 f2 f3).coll s=f1.coll (f0.coll (s.done K.bin.pty b')):=rfl
 obtain⟨ll,hll⟩:∃ ll,ll=f0.ops++(if isLg tk=true then [tk] else [])++f1.ops:=⟨_,rfl⟩
 rw[eo,ec,← hll]
 have Hll:=Lib.hid hll
 clear hll
 rw[← htk]at ho
 have Ho:=Lib.hid ho
 have HR0:=Lib.hid r0
 have HR1:=Lib.hid r1
 have HF:=Lib.hid hf
 have HG:=Lib.hid hg
 have HD:=Lib.hid hD
 clear hR hkey h ho r0 r1 hf hg hD ev eo ec htk hl
 show Calls Tryz.prog 156 #[.pointer (some ⟨vb,0,none⟩),.iface 242 (.pointer (some ⟨b',0,none⟩))] w _
 go_enter Tryz.func156,Tryz.ntmps156
 go_wp2_with fail
 refine HM.out.mono ?_
 rintro e W0 ⟨rfl,mb,h1,k1,hm⟩
 have hlow:∀ b,b<B→¬ (b=vb∨mc=some b):=by
  rintro b hb (e|e)
  · omega
  · have:=hmc b e;omega
 have hmbB:B≤mb:=h1.cal.1
 have hlow2:∀ b,b<B→¬ (b=vb∨some mb=some b):=by
  rintro b hb (e|e)
  · omega
  · cases e;omega
 have o1:=k1.obj Ho.out (hlow b' hbB)
 have p0:=cell_of_cells (cs:=[_,_,_]) o1 0 rfl
 have p1:=cell_of_cells (cs:=[_,_,_]) o1 1 rfl
 have p2:=cell_of_cells (cs:=[_,_,_]) o1 2 rfl
 have zb:b'<W0.heap.size:=lt_of_heap o1
 have O1:=Lib.hid o1
 have H1:=Lib.hid h1
 have Hm:=Lib.hid hm
 have Hlow:=Lib.hid hlow
 have Hlow2:=Lib.hid hlow2
 clear h1 hm o1 hlow hlow2
 go_upto_region 7 with fail
 have kR:Kept (fun k=>B≤k) W0 W0:=Kept.refl _ _
 have rule:∀ wx:World,Kept (fun k=>B≤k) W0 wx→wx.cell? ⟨b',0,none⟩=some v0∧wx.cell? ⟨b',1,none⟩=some (.int .i64 tk)∧wx.cell? ⟨b',2,none⟩=some v1∧b'<wx.heap.size:=fun wx hk =>
  ⟨hk.cell p0 (by simp only[];omega),hk.cell p1 (by simp only[];omega),hk.cell p2 (by simp only[];omega),lt_of_heap (hk.obj O1.out (by omega))⟩
 have hmb0:mb<W0.heap.size:=by obtain⟨-,-,es,clock,hh,-⟩:=H1.out.cal;exact lt_of_heap hh
 have hvb0:vb<W0.heap.size:=lt_of_heap H1.out.obj
 have hup:∀ b,(b=vb∨some mb=some b)→B≤b:=by
  rintro b (e|e)
  · omega
  · cases e;omega
 have hold:∀ b,W0.heap.size≤b→¬ (b=vb∨some mb=some b):=by
  rintro b hb (e|e)
  · omega
  · cases e;omega
 have Hup:=Lib.hid hup
 have Hold:=Lib.hid hold
 clear hup hold
 go_region_held3 (fun wx=>Kept (fun k=>B≤k) W0 wx) (first | assumption | exact keptD | exact Kept.trans (by assumption) keptD) (first
  | (have _h:=Kb2;go_at_call 159;go_must (refine(merge_any _ W0.heap.size _ _ _ _ _ (T1.kept (M:=fun _=>False) (by first | exact Kept.refl _ _ | exact keptD | exact keptD.trans keptD) (fun _ _ _ f=>f)) (T2.kept (M:=fun _=>False) (by first | exact Kept.refl _ _ | exact keptD | exact keptD.trans keptD) (fun _ _ _ f=>f)) hl0.1 hl0.2).mono ?_);rintro e w4 ⟨x3,rfl,T3,k4⟩;have Kb3:Kept (fun _=>False) w3 w4:=Kept.trans (by first | exact Kept.refl _ _ | exact keptD | exact keptD.trans keptD) k4;have hS:Kept (fun k=>B≤k) W0 w4:=(Kb2.mono fun b _ h=>Hup.out b h).trans (Kb3.mono fun _ _ f=>f.elim);have hsz:W0.heap.size≤w3.heap.size:=Kb2.size)
  | (have _h:=Kb1;go_at_call 156;go_must (refine(HG.out vb B nm _ _ me (some mb) a c (G1.out.kept (by first | exact Kept.refl _ _ | exact keptD | exact keptD.trans keptD)) D v1 ((((HR1.out.kept k1 (fun b hb=>Hlow.out b (HD.out b hb))).kept Kb1 (fun b hb=>Hlow2.out b (HD.out b hb)))).kept (M:=fun _=>False) (by first | exact Kept.refl _ _ | exact keptD | exact keptD.trans keptD) (fun _ _ f=>f)) HD.out hl0.2).mono ?_);rintro e w3 ⟨x2,rfl,T2,mb3,h3,k3,hm3⟩;have h3:GRow vb B nm _ w3 me (some mb) a c:=(by rw[← hm3.1 mb rfl];exact h3);have kc:=Kept.trans (M:=fun b=>b=vb∨some mb=some b) (a:=w2) (by first | exact Kept.refl _ _ | exact keptD | exact keptD.trans keptD) k3;have T1:=T1.kept kc (fun b hb _=>Hold.out b hb);have T2:=T2.low (B':=W0.heap.size) (by have:=Kb1.size;first | exact this | (simp;omega));have Kb2:=Kb1.trans kc;have G2:=Lib.hid h3;have hS:Kept (fun k=>B≤k) W0 w3:=Kb2.mono fun b _ h=>Hup.out b h;clear h3 hm3)
  | (go_at_call 156;go_must (refine(HF.out vb B nm _ _ me (some mb) a c (H1.out.kept (by first | exact Kept.refl _ _ | exact keptD | exact keptD.trans keptD)) D v0 ((HR0.out.kept k1 (fun b hb=>Hlow.out b (HD.out b hb))).kept (M:=fun _=>False) (by first | exact Kept.refl _ _ | exact keptD | exact keptD.trans keptD) (fun _ _ f=>f)) HD.out hl0.1).mono ?_);rintro e w2 ⟨x1,rfl,T1,mb2,h2,k2,hm2⟩;have h2:GRow vb B nm _ w2 me (some mb) a c:=(by rw[← hm2.1 mb rfl];exact h2);have T1:=T1.low (B':=W0.heap.size) (Nat.le_refl _);have Kb1:=Kept.trans (M:=fun b=>b=vb∨some mb=some b) (a:=W0) (by first | exact Kept.refl _ _ | exact keptD | exact keptD.trans keptD) k2;have G1:=Lib.hid h2;have hS:Kept (fun k=>B≤k) W0 w2:=Kb1.mono fun b _ h=>Hup.out b h;clear h2 hm2))
 all_goals go_wp2_with fail
 all_goals go_ret
 all_goals
  rw[← Hll.out]at T3
  exact⟨x3,rfl,T3.low (by have:=k1.size;omega),mb,G2.out.kept Kb3,coll_trans k1 (Kb2.trans (Kb3.mono fun _ _ f=>f.elim)) Hm.out.2,Hm.out⟩
theorem coll_any{s:VS}{n:N}(hv:Gc.V s n):match s with | .k k=>isEk k→∀ a:A,a.N=n→CollOk a | _=>True:=by
 induction hv with
 | ident t i h0 h1 =>
   intro _ a h
   obtain⟨o,b,f0,f1,f2,f3,rfl,-⟩:=A_of_N (k:=.ident) h
   exact coll_leaf .ident trivial ⟨(by intro h;cases h),(by intro h;cases h)⟩ _ _ _ _ _ _ _ _
 | lit t =>
   intro _ a h
   obtain⟨o,b,f0,f1,f2,f3,rfl,-⟩:=A_of_N (k:=.lit) h
   exact coll_leaf .lit trivial ⟨(by intro h;cases h),(by intro h;cases h)⟩ _ _ _ _ _ _ _ _
 | flit l hl =>
   intro _ a h
   obtain⟨o,b,f0,f1,f2,f3,rfl,-⟩:=A_of_N (k:=.flit) h
   exact coll_leaf .flit trivial ⟨(by intro h;cases h),(by intro h;cases h)⟩ _ _ _ _ _ _ _ _
 | call f args hf hargs =>
   intro _ a h
   obtain⟨o,b,f0,f1,f2,f3,rfl,-⟩:=A_of_N (k:=.call) h
   exact coll_leaf .call trivial ⟨(by intro h;cases h),(by intro h;cases h)⟩ _ _ _ _ _ _ _ _
 | un op hop k y hk hx =>
   intro _ a h
   obtain⟨o,b,f0,f1,f2,f3,rfl,-⟩:=A_of_N (k:=.un) h
   exact coll_leaf .un trivial ⟨(by intro h;cases h),(by intro h;cases h)⟩ _ _ _ _ _ _ _ _
 | paren k y hk hx ih =>
   intro _ a h
   obtain⟨o,b,f0,f1,f2,f3,rfl,e⟩:=A_of_N (k:=.paren) h
   have e0:f0.N=y:=congrArg (fun x=>match x with | Gc.N.n _ _ _ (.cons y _)=>y | _=>.nil) e
   exact coll_paren _ _ _ _ _ _ _ _ (isn_of_N (by rw[e0];exact V_isN hx)) (ih hk _ e0)
 | bin op hop ka kb p q hka hkb ha hb ih1 ih2 =>
   intro _ a h
   obtain⟨o,b,f0,f1,f2,f3,rfl,e⟩:=A_of_N (k:=.bin) h
   have e0:f0.N=p:=congrArg (fun x=>match x with | Gc.N.n _ _ _ (.cons y _)=>y | _=>.nil) e
   have e1:f1.N=q:=congrArg (fun x=>match x with | Gc.N.n _ _ _ (.cons _ (.cons y _))=>y | _=>.nil) e
   exact coll_bin _ _ _ _ _ _ _ _ (isn_of_N (by rw[e0];exact V_isN ha)) (isn_of_N (by rw[e1];exact V_isN hb)) (ih1 hka _ e0) (ih2 hkb _ e1)
 | enil | snil | cnil | mnil | econs | scons | ccons | mcons=>trivial
 | exprS | assign | inc | ifNo | ifElse | for_ | range | switch | select | branch | branchTo | ret | block | labeled | caseNo | case_ | commNo | comm=>exact fun h=>h.elim
end Go.Proofs.YtleolbpibjnedaaGreat
namespace Gc
open Go
theorem lg_cases{n:Int}(h:isLg n=true):n=28∨n=29:=by simpa [isLg]using h
theorem ops_lg:∀ (a:A),∀ x∈a.ops,x=28∨x=29
 | .nil,x,h | .cons ..,x,h=>by simp[A.ops]at h
 | .n k text num o b f0 f1 f2 f3,x,h=>by
   have h0:=ops_lg f0
   have h1:=ops_lg f1
   cases k<;>simp only[A.ops]at h<;>first
    | (simp only[List.not_mem_nil]at h;done)
    | exact h0 x h
    | (rcases List.mem_append.1 h with h|h
       · rcases List.mem_append.1 h with h|h
         · exact h0 x h
         · split at h
           · rename_i hl
             rw[List.mem_singleton]at h
             rw[h]
             exact lg_cases hl
           · cases h
       · exact h1 x h)
def CS.runs(pos:Value):List Int→Int→CS→CS
 | [],_,s=>s
 | op :: l,last,s=>if last=op then s.runs pos l last else (s.add ⟨1,0,tokText op,pos⟩).runs pos l op
end Gc
namespace Go.Proofs.YtleolbpibjnedaaGreat
open Go Go.RowKit Gc
def VisR(vb B:Nat)(nm:Value)(s':CS)(w:World)(r:Value)(e:Ending)(w':World):Prop:=e=.returned r∧GInv vb B nm s' w'∧Kept (fun b=>B≤b) w w'
abbrev gSelf (vb:Nat):Value:=.iface 168 (.pointer (some ⟨vb,0,none⟩))
theorem visit_branch_no{vb B:Nat}{nm:Value}{s:CS}{w:World}(I:GInv vb B nm s w)(b:Nat)(tk:Int)(ho:w.heap[b]?=some (.cells #[.int .i64 tk,.pointer none] 300 (0,0))) :
 Calls Tryz.prog 148 #[.pointer (some ⟨vb,0,none⟩),.pointer (some ⟨b,0,none⟩)] w (VisR vb B nm s w (gSelf vb)):=by
 have p1:=cell_of_cells (cs:=[_,_]) ho 1 rfl
 have zb:b<w.heap.size:=lt_of_heap ho
 have HI:=Lib.hid I
 clear I ho
 go_enter Tryz.func148,Tryz.ntmps148
 go_wp2_with fail
 go_ret
 exact⟨rfl,HI.out,Kept.refl _ _⟩
theorem visit_branch_to{vb B:Nat}{nm:Value}{s:CS}{w:World}(I:GInv vb B nm s w)(b:Nat)(tk:Int)(htk:tk=44∨tk=46)(ad:Addr)(ho:w.heap[b]?=some (.cells #[.int .i64 tk,.pointer (some ad)] 300 (0,0)))
 (hp:KeyB w B (.iface 298 (.pointer (some ⟨b,0,none⟩)))) (hl:s.ds.length≤100000) :
 Calls Tryz.prog 148 #[.pointer (some ⟨vb,0,none⟩),.pointer (some ⟨b,0,none⟩)] w (VisR vb B nm (s.add ⟨1,0,tokText tk,.iface 298 (.pointer (some ⟨b,0,none⟩))⟩) w (gSelf vb)):=by
 have p0:=cell_of_cells (cs:=[_,_]) ho 0 rfl
 have p1:=cell_of_cells (cs:=[_,_]) ho 1 rfl
 have zb:b<w.heap.size:=lt_of_heap ho
 have HT:=Lib.hid (tok_text tk (by omega) w)
 have HC:=Lib.hid (inc_any I (tokText tk) _ hp hl)
 clear I ho hp htk
 go_enter Tryz.func148,Tryz.ntmps148
 go_wp2_with fail
 refine HT.out.mono ?_
 rintro e w' ⟨rfl,rfl⟩
 go_wp2_with fail
 refine HC.out.mono ?_
 rintro e w1 ⟨rfl,I1,K1⟩
 have HI1:=Lib.hid I1
 clear I1
 go_wp2_with fail
 go_ret
 exact⟨rfl,HI1.out,K1⟩
theorem visit_bin_no{vb B:Nat}{nm:Value}{s:CS}{w:World}(I:GInv vb B nm s w)(b:Nat)(tk:Int)(v0 v1:Value)(ho:w.heap[b]?=some (.cells #[v0,.int .i64 tk,v1] 244 (0,0)))
 (hp:KeyB w B (.iface (K.pty .bin) (.pointer (some ⟨b,0,none⟩)))) (hno:isLg tk=false∨s.cal (K.pty .bin) b=true) :
 Calls Tryz.prog 149 #[.pointer (some ⟨vb,0,none⟩),.pointer (some ⟨b,0,none⟩)] w (VisR vb B nm s w (gSelf vb)):=by
 have p1:=cell_of_cells (cs:=[_,_,_]) ho 1 rfl
 have zb:b<w.heap.size:=lt_of_heap ho
 have HL:=Lib.hid (is_logic tk w)
 have HC:=Lib.hid (is_calc I .bin b hp)
 have HI:=Lib.hid I
 obtain⟨lg,hlg⟩:∃ lg,lg=isLg tk:=⟨_,rfl⟩
 obtain⟨cl,hcl⟩:∃ cl,cl=s.cal (K.pty .bin) b:=⟨_,rfl⟩
 rw[← hlg]at HL hno
 rw[← hcl]at HC hno
 clear I ho hp hlg hcl
 cases lg with
 | false =>
   go_enter Tryz.func149,Tryz.ntmps149
   go_wp2_with fail
   refine HL.out.mono ?_
   rintro e w' ⟨rfl,rfl⟩
   go_wp2_with fail
   go_ret
   exact⟨rfl,HI.out,Kept.refl _ _⟩
 | true =>
   obtain rfl:cl=true:=by simpa using hno
   go_enter Tryz.func149,Tryz.ntmps149
   go_wp2_with fail
   refine HL.out.mono ?_
   rintro e w' ⟨rfl,rfl⟩
   go_wp2_with fail
   refine HC.out.mono ?_
   rintro e w' ⟨rfl,rfl⟩
   go_wp2_with fail
   go_ret
   exact⟨rfl,HI.out,Kept.refl _ _⟩
end Go.Proofs.YtleolbpibjnedaaGreat
namespace Gc
open Go
theorem coll_ds:∀ (a:A) (s:CS),(a.coll s).ds=s.ds
 | .nil,s | .cons ..,s=>rfl
 | .n k text num o b f0 f1 f2 f3,s=>by
   have h0:=coll_ds f0
   have h1:=coll_ds f1
   cases k<;>simp only[A.coll,h0,h1,CS.done]
end Gc
namespace Go.Proofs.YtleolbpibjnedaaGreat
open Go Go.RowKit Gc
structure RunI (vb B:Nat) (nm:Value) (w1:World) (g o k n:Nat) (ops:List Int) (s':CS) (wr:World) (me mc:Option Nat) (a:Option Addr) (c:Nat):Prop where
 row:GRow vb B nm s' wr me mc a c
 kept:Kept (fun b=>B≤b) w1 wr
 cells:∀ j u,(tokVals ops)[j]?=some u→wr.cell? ⟨g,o+j,none⟩=some u
 lt:g<wr.heap.size
 ne:(Value.slice a s'.ds.length c).ownBlock≠some g
 len:s'.ds.length≤n+k
theorem visit_bin_yes{vb B:Nat}{nm:Value}{s:CS}{w:World}(I:GInv vb B nm s w)(D:Nat→Prop)(b:Nat)(text:Str)(num:Int)(o:Option Addr)(f0 f1 f2 f3:A)(i0:f0.isn)(i1:f1.isn)(hc:CollOk (.n .bin text num o b f0 f1 f2 f3))
 (hR:Rep w D ((A.n .bin text num o b f0 f1 f2 f3).g 1 .fin) [.iface 242 (.pointer (some ⟨b,0,none⟩))]) (hD:∀ b,D b→b<B) (hlg:isLg (tokOf text)=true) (hcal:s.cal (K.pty .bin) b=false) (hl:s.ds.length+(A.n .bin text num o b f0 f1 f2 f3).ops.length≤10000) :
 Calls Tryz.prog 149 #[.pointer (some ⟨vb,0,none⟩),.pointer (some ⟨b,0,none⟩)] w
  (VisR vb B nm (CS.runs (.iface 242 (.pointer (some ⟨b,0,none⟩))) (A.n .bin text num o b f0 f1 f2 f3).ops 0 ((A.n .bin text num o b f0 f1 f2 f3).coll s)) w (gSelf vb)):=by
 obtain⟨ev,hbD,v0,v1,ho,r0,r1⟩:=open_bin (m:=1) (.inr rfl) i0 i1 hR
 have hp:KeyB w B (.iface (K.pty .bin) (.pointer (some ⟨b,0,none⟩))):=⟨.bin,b,_,_,trivial,rfl,ho,hD b hbD⟩
 have p1:=cell_of_cells (cs:=[_,_,_]) ho 1 rfl
 have zb:b<w.heap.size:=lt_of_heap ho
 have hbB:=hD b hbD
 have HL:=Lib.hid (is_logic (tokOf text) w)
 have HC:=Lib.hid (is_calc I .bin b hp)
 obtain⟨me,mc,a,c,h⟩:=I
 have hown:∀ k,(Value.slice a s.ds.length c).ownBlock=some k→k<w.heap.size:=fun k e=>(h.own.lt k e).2
 have hvb:vb<w.heap.size:=lt_of_heap h.obj
 have hlb:=h.lb
 have hmcB:∀ m,mc=some m→B≤m:=fun m e=>by subst e;exact h.cal.1
 have HO:=Lib.hid (hc vb B nm s w me mc a c h D _ hR hD (by omega))
 obtain⟨ops,hops⟩:∃ ops,ops=(A.n .bin text num o b f0 f1 f2 f3).ops:=⟨_,rfl⟩
 obtain⟨s1,hs1⟩:∃ s1,s1=(A.n .bin text num o b f0 f1 f2 f3).coll s:=⟨_,rfl⟩
 have hds:s1.ds=s.ds:=by rw[hs1];exact coll_ds _ _
 have hne:ops≠[]:=by
  rw[hops]
  intro e
  have:(tokOf text)∈(A.n .bin text num o b f0 f1 f2 f3).ops:=by simp[A.ops,hlg]
  rw[e]at this
  cases this
 have hlo:∀ x∈ops,x=28∨x=29:=by rw[hops];exact ops_lg _
 obtain⟨tk,htk⟩:∃ tk,tk=tokOf text:=⟨_,rfl⟩
 obtain⟨sF,hsF⟩:∃ sF,sF=CS.runs (.iface 242 (.pointer (some ⟨b,0,none⟩))) ops 0 s1:=⟨_,rfl⟩
 rw[hlg]at HL
 rw[← htk]at HL p1
 rw[hcal]at HC
 rw[← hops]at HO hl ⊢
 rw[← hs1]at HO ⊢
 rw[← hsF]
 have HsF:=Lib.hid hsF
 have Hlo:=Lib.hid hlo
 have Hds:=Lib.hid hds
 have Hhp:=Lib.hid hp
 clear hR ho r0 r1 hp h hc hlg hcal hops hs1 htk hsF hlo hds ev
 go_enter Tryz.func149,Tryz.ntmps149
 go_wp2_with fail
 refine HL.out.mono ?_
 rintro e w' ⟨rfl,hw⟩
 rw[hw]
 clear hw
 go_wp2_with fail
 refine HC.out.mono ?_
 rintro e w'' ⟨rfl,hw⟩
 rw[hw]
 clear hw
 go_wp2_with fail
 refine HO.out.mono ?_
 rintro e w1 ⟨v,rfl,T,mb,h1,k1,hm⟩
 rcases T with ⟨-,e⟩|⟨g,oo,cc,rfl,hg1,hg2,hcells⟩
 · exact absurd e hne
 have k1B:Kept (fun b=>B≤b) w w1:=k1.mono fun b _ h=>by
  show B≤b
  rcases h with e|e
  · omega
  · exact hmcB b e
 have hpos:0<ops.length:=List.length_pos_iff.2 hne
 obtain⟨n,hn⟩:∃ n,n=ops.length:=⟨_,rfl⟩
 have J0:RunI vb B nm w1 g oo 0 s1.ds.length ops s1 w1 me (some mb) a c:=⟨h1,Kept.refl _ _,hcells,hg2,fun e=>by have e':=Hds.out;rw[e']at e;have:=hown g e;omega,Nat.le_refl _⟩
 have HJ0:=Lib.hid J0
 have Hn:=Lib.hid hn
 have hn1:n≤10000:=by omega
 have hn0:0<n:=by omega
 have hlen:s1.ds.length+n≤10000:=by rw[Hds.out];omega
 clear h1 k1 hm hcells J0 hne
 rw[← hn]
 clear hn
 go_wp2_with fail
 go_loopw [6,27] (fun l i wr=>∃ (k:Nat) (last:Int) (s':CS) (a':Option Addr) (c':Nat),l=.int .i64 last∧i=.int .i64 k∧k≤n∧RowKit.Hid (CS.runs (.iface 242 (.pointer (some ⟨b,0,none⟩))) (ops.drop k) last s'=sF)∧RowKit.Hid (RunI vb B nm w1 g oo k s1.ds.length ops s' wr me (some mb) a' c')) (fun _ i _=>((n:Int)-intOf i).toNat)
 case atStart=>exact⟨0,0,s1,a,c,rfl,rfl,by omega,Lib.hid (by rw[List.drop_zero];exact HsF.out.symm),HJ0⟩
 case round =>
  obtain⟨k,last,s',a',c',rfl,rfl,hk,hrun,J⟩:=hrel
  by_cases hlt:(k:Int)<n
  · have hkl:k<ops.length:=by have:=Hn.out;omega
    have hc:=J.out.cells k _ (by simp[tokVals,List.getElem?_eq_getElem hkl];rfl)
    have hx:=Hlo.out _ (List.getElem_mem hkl)
    have hd:ops.drop k=ops[k] :: ops.drop (k+1):=(List.getElem_cons_drop hkl).symm
    obtain⟨y,hy⟩:∃ y,y=ops[k]:=⟨_,rfl⟩
    rw[← hy]at hc hx hd
    have hrun':=hrun.out
    rw[hd]at hrun'
    have zg:g<wr.heap.size:=J.out.lt
    by_cases he:last=y
    · subst he
      simp only[CS.runs,if_true]at hrun'
      have Hr:=Lib.hid hrun'
      clear hrun' hrun hd hy hx
      go_wp2_with fail
      go_roundw
      · exact⟨k+1,last,s',a',c',rfl,by go_num,by omega,Hr,Lib.hid ⟨J.out.row,J.out.kept,J.out.cells,J.out.lt,J.out.ne,by have:=J.out.len;omega⟩⟩
      · simp[intOf];omega
    · have he':(last == y)=false:=by simpa using he
      simp only[CS.runs,he,if_false]at hrun'
      have Hr:=Lib.hid hrun'
      have HT:=Lib.hid (tok_text y (by omega) wr)
      have HP:KeyB wr B (.iface (K.pty .bin) (.pointer (some ⟨b,0,none⟩))):=(Hhp.out.kept k1B (fun b hb=>by omega)).kept J.out.kept (fun b hb=>by omega)
      have HI:=Lib.hid (inc_complexity J.out.row (tokText y) _ HP (by have:=J.out.len;omega))
      clear hrun' hrun hd hy hx HP
      go_wp2_with fail
      refine HT.out.mono ?_
      rintro e w3 ⟨rfl,hw⟩
      rw[hw]
      clear hw
      go_wp2_with fail
      refine HI.out.mono ?_
      rintro e w2 ⟨rfl,a2,c2,R2,K2,O2⟩
      have J2:RunI vb B nm w1 g oo (k+1) s1.ds.length ops (s'.add ⟨1,0,tokText y,.iface 242 (.pointer (some ⟨b,0,none⟩))⟩) w2 me (some mb) a2 c2:=by
       have hgn:¬ (g=vb∨(Value.slice a' s'.ds.length c').ownBlock=some g):=by
        rintro (e|e)
        · omega
        · exact J.out.ne e
       refine⟨R2,J.out.kept.trans (K2.mono fun b _ h=>?_),fun j u hu=>K2.cell (J.out.cells j u hu) hgn,Nat.lt_of_lt_of_le J.out.lt K2.size,fun e=>?_,?_⟩
       · rcases h with e|e
         · show B≤b;omega
         · have:=(J.out.row.own_ne e).1;show B≤b;omega
       · rcases O2 g e with e|e
         · exact J.out.ne e
         · have:=J.out.lt;omega
       · have:=J.out.len;simp[CS.add];omega
      have HJ2:=Lib.hid J2
      clear R2 K2 O2 J2
      go_wp2_with fail
      go_roundw
      · exact⟨k+1,y,_,a2,c2,rfl,by go_num,by omega,Hr,HJ2⟩
      · simp[intOf];omega
  · have ek:k=ops.length:=by have:=Hn.out;omega
    have hrun':=hrun.out
    rw[List.drop_of_length_le (by omega)]at hrun'
    simp only[CS.runs]at hrun'
    have Hr:=Lib.hid hrun'
    clear hrun' hrun ek
    go_wp2_with fail
    go_ret
    exact⟨rfl,⟨_,_,_,_,Hr.out▸J.out.row⟩,k1B.trans J.out.kept⟩
end Go.Proofs.YtleolbpibjnedaaGreat
