/- gocognit's visitor: sets of parts of syntax (maps to true). -/
import Derived.Test.YtleolbpibjnedaaGreatQWkG
import Derived.Test.YtleolbpibjnedaaGreatQBase
import Derived.Deep.DeepMust
import Derived.Deep.RegionHeld3
import Derived.Deep.RegionLaw
import Derived.Deep.RegionWith
import Derived.BigQuiet
import Derived.Deep.QuietTactic
set_option linter.unusedSimpArgs false
set_option linter.unusedVariables false
set_option maxRecDepth 100000
set_option maxHeartbeats 4000000
namespace Go.Proofs.YtleolbpibjnedaaGreat
open Go Go.RowKit Gc
theorem ul_Expr0:(match Tryz.prog.underlying 153 with | some (.interface _)=>true | _=>false)=true:=by kernel_rfl
theorem ul_Expr:∃ ms,Tryz.prog.underlying 153=some (.interface ms):=by
 have h:=ul_Expr0
 revert h
 generalize Tryz.prog.underlying 153=d
 intro h
 match d,h with
 | some (.interface ms),_=>exact⟨ms,rfl⟩
theorem ul_mapNB:Tryz.prog.underlying 164=some (.map 74 4):=by kernel_rfl
theorem ul_mapEB:Tryz.prog.underlying 165=some (.map 153 4):=by kernel_rfl
theorem zero_bool(w:World):(zeroValue 4).run Tryz.prog w=.ok (.bool false) w:=by kernel_rfl
section
variable {TI TM:TypeId} (hI:∃ ms,Tryz.prog.underlying TI=some (.interface ms)) (hM:Tryz.prog.underlying TM=some (.map TI 4))
include hI
theorem eq_keyT{k k':K}(hk:k.real){b b':Nat}{w:World}{cs cs':Array Value}{t t':TypeId}(hb:w.heap[b]?=some (.cells cs t (0,0)))(hb':w.heap[b']?=some (.cells cs' t' (0,0))) :
 (Op.equal TI (.iface k.pty (.pointer (some ⟨b,0,none⟩))) (.iface k'.pty (.pointer (some ⟨b',0,none⟩)))).run Tryz.prog w=.ok (decide (k.pty=k'.pty∧b=b')) w:=by
 obtain⟨ms,hi⟩:=hI
 by_cases hp:k.pty=k'.pty
 · rw[← hp]
   have h1:=k_comp k hk
   have h2:=k_size k hk
   cases hi1:Tryz.prog.info? k.pty with
   | none=>rw[hi1]at h1;cases h1
   | some i =>
     cases hi2:Tryz.prog.info? k.ty with
     | none=>rw[hi2]at h2;cases h2
     | some j =>
       have c1:i.comparable=true:=by rw[hi1]at h1;simpa using h1
       have c2:j.size≠0:=by rw[hi2]at h2;simpa using h2
       by_cases e:b=b'
       · subst e
         have:=run_equalIn_iface_ptr_same (P:=Tryz.prog) w 9998 (ti:=TI) (⟨b,0,none⟩:Addr) hi (k_un k hk) hi1 c1 hi2
         simp only[Op.equal,Op.maxDepth]
         simpa using this
       · have:=run_equalIn_iface_ptr_other (P:=Tryz.prog) w 9998 (ti:=TI) (a:=⟨b,0,none⟩) (b:=⟨b',0,none⟩) hi (k_un k hk) hi1 c1 hi2 c2 (by intro h;cases h;exact e rfl) hb hb'
         simp only[Op.equal,Op.maxDepth]
         simpa [e]using this
 · have h:∀ d:Nat,(Op.equalIn (d+1) TI (.iface k.pty (.pointer (some ⟨b,0,none⟩))) (.iface k'.pty (.pointer (some ⟨b',0,none⟩)))).run Tryz.prog w=.ok false w:=fun d=>by simp[Op.equalIn,run_underlying hi,hp]
   simp only[Op.equal,Op.maxDepth]
   simpa [hp]using h 9999
theorem find_askingT{w:World}{v:Value}(hv:KeyK w v):∀ (es:List MapEntry) (i:Nat),(∀ e∈es,KeyK w e.key) →
 ((Instr.findAsking TI v es i).run Tryz.prog w=.ok none w∧∀ e∈es,e.key≠v)∨∃ j e,(Instr.findAsking TI v es i).run Tryz.prog w=.ok (some (i+j,e.val)) w∧es[j]?=some e∧e.key=v
 | [],i,_=>.inl ⟨rfl,fun e he=>by cases he⟩
 | e :: es,i,h=>by
   obtain⟨k,b,cs,t,hk,rfl,hb⟩:=hv
   obtain⟨k',b',cs',t',hk',he,hb'⟩:=h e (by simp)
   have hq:=eq_keyT hI (k':=k') hk hb hb'
   by_cases hc:k.pty=k'.pty∧b=b'
   · refine .inr ⟨0,e,?_,rfl,by rw[he,hc.1,hc.2]⟩
     have hq':(Op.equal TI (.iface k.pty (.pointer (some ⟨b,0,none⟩))) e.key).run Tryz.prog w=.ok true w:=by rw[he,hq,decide_eq_true hc]
     simp[Instr.findAsking,hq',Result.andThen]
   · have hrec:=find_askingT (v:=.iface k.pty (.pointer (some ⟨b,0,none⟩))) ⟨k,b,cs,t,hk,rfl,hb⟩ es (i+1) (fun x hx=>h x (by simp[hx]))
     have hq':(Op.equal TI (.iface k.pty (.pointer (some ⟨b,0,none⟩))) e.key).run Tryz.prog w=.ok false w:=by rw[he,hq];simp[hc]
     rcases hrec with ⟨hr,hn⟩|⟨j,x,hr,hj,hx⟩
     · left
       refine⟨by simp[Instr.findAsking,hq',Result.andThen,hr],fun x hx=>?_⟩
       rcases List.mem_cons.1 hx with rfl|hx
       · rw[he]
         intro e'
         simp only[Value.iface.injEq,Value.pointer.injEq,Option.some.injEq,Addr.mk.injEq,and_true]at e'
         exact hc ⟨e'.1.symm,e'.2.symm⟩
       · exact hn x hx
     · refine .inr ⟨j+1,x,?_,by simpa using hj,hx⟩
       simp[Instr.findAsking,hq',Result.andThen,hr]
       omega
theorem find_keyT{w:World}{v:Value}(hv:KeyK w v)(es:List MapEntry)(h:∀ e∈es,KeyK w e.key) :
 ((Instr.findKey TI v es).run Tryz.prog w=.ok none w∧∀ e∈es,e.key≠v)∨∃ j e,(Instr.findKey TI v es).run Tryz.prog w=.ok (some (j,e.val)) w∧es[j]?=some e∧e.key=v:=by
 obtain⟨ms,hi⟩:=id hI
 cases es with
 | nil=>left;exact⟨by simp[Instr.findKey,run_underlying hi,Instr.findNow,Result.andThen],fun e he=>by cases he⟩
 | cons e es =>
   have hn:Instr.findNow (.interface ms) v (e :: es) 0=none:=rfl
   rcases find_askingT hI hv (e :: es) 0 h with ⟨hr,hne⟩|⟨j,x,hr,hj,hx⟩
   · left
     exact⟨by simp[Instr.findKey,run_underlying hi,hn,Result.andThen,hr],hne⟩
   · refine .inr ⟨j,x,?_,hj,hx⟩
     simpa [Instr.findKey,run_underlying hi,hn,Result.andThen]using hr
theorem check_keyT{w:World}{v:Value}(hv:KeyK w v)(em:Bool):(Instr.checkKey em 10000 TI v).run Tryz.prog w=.ok () w:=by
 obtain⟨k,b,cs,t,hk,rfl,hb⟩:=hv
 obtain⟨ms,hi⟩:=hI
 have h1:=k_comp k hk
 cases hi1:Tryz.prog.info? k.pty with
 | none=>rw[hi1]at h1;cases h1
 | some i =>
   have c1:i.comparable=true:=by rw[hi1]at h1;simpa using h1
   have e1:∀ n,(Instr.checkKey em (n+1) k.pty (.pointer (some ⟨b,0,none⟩))).run Tryz.prog w=.ok () w:=fun n=>by simp[Instr.checkKey,run_underlying (k_un k hk)]
   have e2:∀ n,(Instr.checkKey em (n+2) TI (.iface k.pty (.pointer (some ⟨b,0,none⟩)))).run Tryz.prog w=.ok () w:=fun n=>by rw[Instr.checkKey];simp[run_underlying hi,typeInfo,hi1,c1,e1,Result.andThen]
   exact e2 9998
omit hI in
def MapB(w:World)(B mb:Nat)(f:Nat→Nat→Bool):Prop :=
 ∃ es clock,w.heap[mb]?=some (.map es clock)∧(∀ e∈es.toList,KeyB w B e.key∧e.val=.bool true∧∀ p b,e.key=.iface p (.pointer (some ⟨b,0,none⟩))→f p b=true) ∧
  ∀ p b,f p b=true→∃ e∈es.toList,e.key=.iface p (.pointer (some ⟨b,0,none⟩))
omit hI in
theorem MapB.kept{w w':World}{B mb:Nat}{f:Nat→Nat→Bool}(h:MapB w B mb f){M:Nat→Prop}(hk:Kept M w w')(h0:¬ M mb)(hM:∀ b,b<B→¬ M b):MapB w' B mb f:=by
 obtain⟨es,clock,h1,h2,h3⟩:=h
 exact⟨es,clock,hk.obj h1 h0,fun e he=>⟨(h2 e he).1.kept hk hM,(h2 e he).2⟩,h3⟩
omit hI in
theorem MapB.new(w:World)(B:Nat):MapB (w.alloc (.map #[] 0)) B w.heap.size (fun _ _=>false):=⟨#[],0,heap_alloc_new w _,by simp,fun p b h=>by cases h⟩
include hM in
theorem MapB.look{w:World}{B mb:Nat}{f:Nat→Nat→Bool}(h:MapB w B mb f){k:K}{b:Nat}(hv:KeyB w B (.iface k.pty (.pointer (some ⟨b,0,none⟩)))) :
 (Instr.lookup TM (.map (some mb)) (.iface k.pty (.pointer (some ⟨b,0,none⟩))) false).run Tryz.prog w=.ok (.bool (f k.pty b)) w:=by
 obtain⟨es,clock,hb,h2,h3⟩:=h
 rcases find_keyT hI hv.key es.toList (fun e he=>(h2 e he).1.key) with ⟨hr,hn⟩|⟨j,e,hr,hj,he⟩
 · have hf:f k.pty b=false:=by
    cases hf:f k.pty b with
    | false=>rfl
    | true=>obtain⟨e,he,hk⟩:=h3 _ _ hf;exact absurd hk (hn e he)
   simp[Instr.lookup,run_underlying hM,MapKept.run_getObj_map hb,check_keyT hI hv.key,hr,zero_bool,Result.andThen,hf]
 · obtain⟨-,hval,hf⟩:=h2 e (List.mem_of_getElem? hj)
   simp[Instr.lookup,run_underlying hM,MapKept.run_getObj_map hb,check_keyT hI hv.key,hr,hval,Result.andThen,hf _ _ he]
include hM in
theorem MapB.store{w:World}{B mb:Nat}{f:Nat→Nat→Bool}(h:MapB w B mb f)(hB:B≤mb){k:K}{b:Nat}(hv:KeyB w B (.iface k.pty (.pointer (some ⟨b,0,none⟩)))) :
 ∃ w',(Instr.mapUpdate TM (.map (some mb)) (.iface k.pty (.pointer (some ⟨b,0,none⟩))) (.bool true)).run Tryz.prog w=.ok () w'∧MapB w' B mb (fun p c=>if p=k.pty∧c=b then true else f p c)∧Kept (fun b=>b=mb) w w':=by
 obtain⟨es,clock,hb,h2,h3⟩:=h
 have hkept:∀ o,Kept (fun b=>b=mb) w (ChangeMaps.setBlock w mb o):=fun o=>⟨rfl,rfl,rfl,by simp[ChangeMaps.setBlock],fun k _ hk=>ChangeMaps.heap_setBlock_other hb _ hk⟩
 have hnm:∀ b,b<B→¬ b=mb:=fun b hb=>by omega
 rcases find_keyT hI hv.key es.toList (fun e he=>(h2 e he).1.key) with ⟨hr,hn⟩|⟨j,e,hr,hj,he⟩
 · refine⟨ChangeMaps.setBlock w mb (.map (es.push ⟨.iface k.pty (.pointer (some ⟨b,0,none⟩)),.bool true,clock⟩) (clock+1)),?_,⟨_,_,ChangeMaps.heap_setBlock_same hb _,?_,?_⟩,hkept _⟩
   · simp[Instr.mapUpdate,run_underlying hM,MapKept.run_getObj_map hb,check_keyT hI hv.key,hr,MapKept.run_setObj_map _ hb,Result.andThen,ChangeMaps.setBlock]
   · intro x hx
     simp only[Array.toList_push,List.mem_append,List.mem_singleton]at hx
     rcases hx with hx|rfl
     · obtain⟨p1,p2,p3⟩:=h2 x hx
       refine⟨p1.kept (hkept _) hnm,p2,fun p c hk=>?_⟩
       show(if p=k.pty∧c=b then true else f p c)=true
       split
       · rfl
       · exact p3 p c hk
     · refine⟨hv.kept (hkept _) hnm,rfl,fun p c hk=>?_⟩
       simp only[Value.iface.injEq,Value.pointer.injEq,Option.some.injEq,Addr.mk.injEq,and_true]at hk
       simp[hk.1,hk.2]
   · intro p c hf
     replace hf:(if p=k.pty∧c=b then true else f p c)=true:=hf
     split at hf
     · rename_i hc
       exact⟨⟨.iface k.pty (.pointer (some ⟨b,0,none⟩)),.bool true,clock⟩,by simp,by rw[hc.1,hc.2]⟩
     · obtain⟨x,hx,hk⟩:=h3 p c hf
       exact⟨x,by simp[hx],hk⟩
 · have hj':es[j]?=some e:=by simpa using hj
   have hst:(Instr.keyThatStays (.iface k.pty (.pointer (some ⟨b,0,none⟩))) (.iface k.pty (.pointer (some ⟨b,0,none⟩)))).run Tryz.prog w=.ok (.iface k.pty (.pointer (some ⟨b,0,none⟩))) w:=by
    simp[Instr.keyThatStays,Instr.sameBits]
   have hmem:∀ x∈(es.modify j fun e=>{ e with key:=.iface k.pty (.pointer (some ⟨b,0,none⟩)),val:=.bool true }).toList,KeyB w B x.key∧x.val=.bool true∧∀ p c,x.key=.iface p (.pointer (some ⟨c,0,none⟩))→(if p=k.pty∧c=b then true else f p c)=true:=by
    intro x hx
    rw[Array.toList_modify]at hx
    obtain⟨i,hi,rfl⟩:=List.getElem_of_mem hx
    rw[List.getElem_modify]
    split
    · refine⟨hv,rfl,fun p c hk=>?_⟩
      simp only[Value.iface.injEq,Value.pointer.injEq,Option.some.injEq,Addr.mk.injEq,and_true]at hk
      simp[hk.1,hk.2]
    · obtain⟨p1,p2,p3⟩:=h2 _ (List.getElem_mem (by simpa using hi))
      refine⟨p1,p2,fun p c hk=>?_⟩
      split
      · rfl
      · exact p3 p c hk
   refine⟨ChangeMaps.setBlock w mb (.map (es.modify j fun e=>{ e with key:=.iface k.pty (.pointer (some ⟨b,0,none⟩)),val:=.bool true }) clock),?_,⟨_,_,ChangeMaps.heap_setBlock_same hb _,?_,?_⟩,hkept _⟩
   · simp[Instr.mapUpdate,run_underlying hM,MapKept.run_getObj_map hb,check_keyT hI hv.key,hr,hj',he,hst,MapKept.run_setObj_map _ hb,Result.andThen,ChangeMaps.setBlock]
   · intro x hx
     obtain⟨p1,p2⟩:=hmem x hx
     exact⟨p1.kept (hkept _) hnm,p2⟩
   · intro p c hf
     replace hf:(if p=k.pty∧c=b then true else f p c)=true:=hf
     have key:∀ p c,(∃ e∈es.toList,e.key=.iface p (.pointer (some ⟨c,0,none⟩)))→∃ e'∈(es.modify j fun e=>{ e with key:=.iface k.pty (.pointer (some ⟨b,0,none⟩)),val:=.bool true }).toList,e'.key=.iface p (.pointer (some ⟨c,0,none⟩)):=by
      rintro p c ⟨x,hx,hk⟩
      obtain⟨i,hi,rfl⟩:=List.getElem_of_mem hx
      refine⟨(es.toList.modify j _)[i]'(by simpa using hi),by rw[Array.toList_modify];exact List.getElem_mem _,?_⟩
      rw[List.getElem_modify]
      split
      · rename_i hij
        subst hij
        have:es.toList[j]=e:=by
         have:=List.getElem?_eq_getElem (l:=es.toList) hi
         rw[hj]at this
         exact(Option.some.inj this).symm
        rw[this,he]at hk
        exact hk
      · exact hk
     split at hf
     · rename_i hc
       exact key p c ⟨e,List.mem_of_getElem? hj,by rw[he,hc.1,hc.2]⟩
     · exact key p c (h3 p c hf)
end
end Go.Proofs.YtleolbpibjnedaaGreat
namespace Gc
open Go
structure DG where
 inc:Int
 nest:Int
 text:Str
 pos:Value
structure CS where
 nest:Int
 els:Nat→Nat→Bool
 cal:Nat→Nat→Bool
 ds:List DG
def CS.sum(s:CS):Int:=(s.ds.map DG.inc).sum
def dgs:List DG→G
 | []=>.nil
 | d :: l=>.cons (.at (.int .i64 d.inc) (.at (.int .i64 d.nest) (.at (.string d.text) (.at d.pos .fin)))) (dgs l)
theorem dgs_len:∀ l,(dgs l).len=l.length
 | []=>rfl
 | _ :: l=>by simp[dgs,G.len,dgs_len l]
theorem dgs_snoc(d:DG):∀ l,(dgs l).snoc (.at (.int .i64 d.inc) (.at (.int .i64 d.nest) (.at (.string d.text) (.at d.pos .fin))))=dgs (l++[d])
 | []=>rfl
 | _ :: l=>by simp[dgs,G.snoc,dgs_snoc d l]
def CS.add(s:CS)(d:DG):CS:={ s with ds:=s.ds++[d] }
def CS.up(s:CS):CS:={ s with nest:=RowKit.wrap64 (s.nest+1) }
def CS.down(s:CS):CS:={ s with nest:=RowKit.wrap64 (s.nest-1) }
def CS.mark(s:CS)(p b:Nat):CS:={ s with els:=fun q c=>if q=p∧c=b then true else s.els q c }
def CS.done(s:CS)(p b:Nat):CS:={ s with cal:=fun q c=>if q=p∧c=b then true else s.cal q c }
theorem CS.sum_add(s:CS)(d:DG):(s.add d).sum=s.sum+d.inc:=by simp[CS.sum,CS.add]
end Gc
namespace Go.Proofs.YtleolbpibjnedaaGreat
open Go Go.RowKit Gc
theorem ul_sD:Tryz.prog.underlying 69=some (.slice 76):=by kernel_rfl
theorem info_D:(Tryz.prog.info? 76).map (fun i=>(i.zero,i.size,i.bytes))=some (some (.agg #[.int .i64 0,.int .i64 0,.string ⟨#[]⟩,.nilIface]),4,48):=by kernel_rfl
def MapO(w:World)(B vb:Nat)(m:Option Nat)(f:Nat→Nat→Bool):Prop :=
 match m with
 | none=>∀ p b,f p b=false
 | some mb=>B≤mb∧mb≠vb∧MapB w B mb f
structure GRow (vb B:Nat) (nm:Value) (s:CS) (w:World) (me mc:Option Nat) (a:Option Addr) (c:Nat):Prop where
 obj:w.heap[vb]?=some (.cells #[nm,.int .i64 (RowKit.wrap64 s.sum),.int .i64 s.nest,.map me,.map mc,.bool true,.slice a s.ds.length c] 167 (0,0))
 own:OwnL w (fun _=>False) (vb+1) 76 4 (.slice a s.ds.length c) (dgs s.ds)
 els:MapO w B vb me s.els
 cal:MapO w B vb mc s.cal
 ne:∀ m,me=some m→mc≠some m
 keys:∀ d∈s.ds,KeyB w B d.pos
 lb:B≤vb
def GInv(vb B:Nat)(nm:Value)(s:CS)(w:World):Prop:=∃ me mc a c,GRow vb B nm s w me mc a c
theorem MapO.kept{w w':World}{B vb:Nat}{m:Option Nat}{f:Nat→Nat→Bool}(h:MapO w B vb m f){M:Nat→Prop}(hk:Kept M w w')(h0:∀ mb,m=some mb→¬ M mb)(hM:∀ b,b<B→¬ M b):MapO w' B vb m f:=by
 cases m with
 | none=>exact h
 | some mb=>exact⟨h.1,h.2.1,h.2.2.kept hk (h0 _ rfl) hM⟩
theorem GRow.own_ne{vb B:Nat}{nm:Value}{s:CS}{w:World}{me mc:Option Nat}{a:Option Addr}{c:Nat}(h:GRow vb B nm s w me mc a c){k:Nat}(hk:(Value.slice a s.ds.length c).ownBlock=some k):vb+1≤k∧me≠some k∧mc≠some k:=by
 refine⟨(h.own.lt k hk).1,fun e=>?_,fun e=>?_⟩
 all_goals
  obtain⟨xs,ho,-⟩:=h.own
  have hcells:∃ cs t,w.heap[k]?=some (.cells cs t (0,0)):=by
   rcases ho.2 with ⟨e,-⟩|⟨g,cap,cur,e,-,hg,-⟩
   · rw[e]at hk;cases hk
   · rw[e]at hk
     simp only[Value.ownBlock,Option.some.injEq]at hk
     subst hk
     exact⟨_,_,hg⟩
  obtain⟨cs,t,hc⟩:=hcells
  subst e
 · obtain⟨-,-,es,clock,h1,-⟩:=h.els
   rw[h1]at hc;cases hc
 · obtain⟨-,-,es,clock,h1,-⟩:=h.cal
   rw[h1]at hc;cases hc
theorem slot7{w:World}{b:Nat}{v0 v1 v2 v3 v4 v5 v6:Value}{t:TypeId}(h:w.heap[b]?=some (.cells #[v0,v1,v2,v3,v4,v5,v6] t (0,0))) :
 w.cell? ⟨b,0,none⟩=some v0∧w.cell? ⟨b,1,none⟩=some v1∧w.cell? ⟨b,2,none⟩=some v2∧w.cell? ⟨b,3,none⟩=some v3∧w.cell? ⟨b,4,none⟩=some v4∧w.cell? ⟨b,5,none⟩=some v5∧w.cell? ⟨b,6,none⟩=some v6 :=
 ⟨by simp[World.cell?,h],by simp[World.cell?,h],by simp[World.cell?,h],by simp[World.cell?,h],by simp[World.cell?,h],by simp[World.cell?,h],by simp[World.cell?,h]⟩
theorem GRow.nesting{vb B:Nat}{nm:Value}{s:CS}{w:World}{me mc:Option Nat}{a:Option Addr}{c:Nat}(h:GRow vb B nm s w me mc a c)(n:Int):GInv vb B nm { s with nest:=n } (w.setCell ⟨vb,2,none⟩ (.int .i64 n)):=by
 have hk:Kept (fun b=>b=vb) w (w.setCell ⟨vb,2,none⟩ (.int .i64 n)):=Kept.set1e
 have hB:∀ b,b<B→¬ b=vb:=fun b hb=>by have:=h.lb;omega
 refine⟨me,mc,a,c,set_of_cells (cs:=[_,_,_,_,_,_,_]) h.obj 2 _,h.own.kept hk (fun b hb=>by have:=(h.own.lt b hb).1;omega) (fun _ f=>f.elim),h.els.kept hk (fun mb e=>?_) hB,h.cal.kept hk (fun mb e=>?_) hB,h.ne,fun d hd=>(h.keys d hd).kept hk hB,h.lb⟩
 · subst e;exact h.els.2.1
 · subst e;exact h.cal.2.1
def VisP(vb B:Nat)(nm:Value)(s:CS)(w:World)(e:Ending)(w':World):Prop:=e=.returned (.tuple #[])∧GInv vb B nm s w'∧Kept (fun b=>B≤b) w w'
theorem inc_nesting{vb B:Nat}{nm:Value}{s:CS}{w:World}(I:GInv vb B nm s w):Calls Tryz.prog 151 #[.pointer (some ⟨vb,0,none⟩)] w (VisP vb B nm s.up w):=by
 obtain⟨me,mc,a,c,h⟩:=I
 obtain⟨p0,p1,p2,p3,p4,p5,p6⟩:=slot7 h.obj
 have f2:=free_of_cells h.obj 2
 have zb:vb<w.heap.size:=lt_of_heap h.obj
 have H:=Lib.hid h
 clear h p0 p1 p3 p4 p5 p6
 go_enter Tryz.func151,Tryz.ntmps151
 go_wp2_with fail
 go_end0
 exact⟨rfl,H.out.nesting _,Kept.setCell (M:=fun b=>B≤b) _ (a:=⟨vb,2,none⟩) H.out.lb _⟩
theorem dec_nesting{vb B:Nat}{nm:Value}{s:CS}{w:World}(I:GInv vb B nm s w):Calls Tryz.prog 140 #[.pointer (some ⟨vb,0,none⟩)] w (VisP vb B nm s.down w):=by
 obtain⟨me,mc,a,c,h⟩:=I
 obtain⟨p0,p1,p2,p3,p4,p5,p6⟩:=slot7 h.obj
 have f2:=free_of_cells h.obj 2
 have zb:vb<w.heap.size:=lt_of_heap h.obj
 have H:=Lib.hid h
 clear h p0 p1 p3 p4 p5 p6
 go_enter Tryz.func140,Tryz.ntmps140
 go_wp2_with fail
 go_end0
 exact⟨rfl,H.out.nesting _,Kept.setCell (M:=fun b=>B≤b) _ (a:=⟨vb,2,none⟩) H.out.lb _⟩
theorem wrap_wrap(x y:Int):RowKit.wrap64 (RowKit.wrap64 x+y)=RowKit.wrap64 (x+y):=by
 unfold RowKit.wrap64
 omega
section
variable {vb B:Nat} {nm:Value} {s:CS} {w:World} {me mc:Option Nat} {a:Option Addr} {c:Nat}
theorem GRow.low(h:GRow vb B nm s w me mc a c):∀ b,b<B→¬ b=vb:=fun b hb=>by have:=h.lb;omega
theorem GRow.obj4(h:GRow vb B nm s w me mc a c){x:Int}{w1 w4:World}(o1:w1.heap[vb]?=some (.cells #[nm,.int .i64 x,.int .i64 s.nest,.map me,.map mc,.bool true,.slice a s.ds.length c] 167 (0,0)))
 (K4:Kept (fun k=>some k=(Value.slice a s.ds.length c).ownBlock) w1 w4):w4.heap[vb]?=some (.cells #[nm,.int .i64 x,.int .i64 s.nest,.map me,.map mc,.bool true,.slice a s.ds.length c] 167 (0,0)) :=
 K4.obj o1 (fun e=>by have:=(h.own.lt vb e.symm).1;omega)
theorem GRow.ownA(h:GRow vb B nm s w me mc a c){w2:World}(k:Kept (fun b=>b=vb) w w2):OwnL w2 (fun _=>False) (vb+1) 76 4 (.slice a s.ds.length c) (dgs s.ds) :=
 h.own.kept k (fun b hb=>by have:=(h.own.lt b hb).1;omega) (fun _ f=>f.elim)
theorem GRow.pushed(h:GRow vb B nm s w me mc a c)(d:DG)(hd:KeyB w B d.pos){x:Int}(hx:x=RowKit.wrap64 (s.sum+d.inc)){w1 w4:World}{g cap':Nat}(k1:Kept (fun b=>b=vb) w w1)
 (o1:w1.heap[vb]?=some (.cells #[nm,.int .i64 x,.int .i64 s.nest,.map me,.map mc,.bool true,.slice a s.ds.length c] 167 (0,0)))
 (O4:OwnL w4 (fun _=>False) (vb+1) 76 4 (.slice (some ⟨g,0,none⟩) (s.ds.length+1) cap') (dgs (s.ds++[d])))
 (K4:Kept (fun k=>some k=(Value.slice a s.ds.length c).ownBlock) w1 w4) :
 GRow vb B nm (s.add d) (w4.setCell ⟨vb,6,none⟩ (.slice (some ⟨g,0,none⟩) (s.ds.length+1) cap')) me mc (some ⟨g,0,none⟩) cap'∧Kept (fun b=>b=vb∨(Value.slice a s.ds.length c).ownBlock=some b) w (w4.setCell ⟨vb,6,none⟩ (.slice (some ⟨g,0,none⟩) (s.ds.length+1) cap')):=by
 have hB:=h.low
 have lb:=h.lb
 have kA:Kept (fun b=>b=vb∨(Value.slice a s.ds.length c).ownBlock=some b) w (w4.setCell ⟨vb,6,none⟩ (.slice (some ⟨g,0,none⟩) (s.ds.length+1) cap')) :=
  ((k1.mono fun _ _ h=>.inl h).trans (K4.mono fun _ _ e=>.inr e.symm)).trans ((Kept.set1e (b:=vb)).mono fun _ _ h=>.inl h)
 have hlow:∀ b,b<B→¬ (b=vb∨(Value.slice a s.ds.length c).ownBlock=some b):=by
  rintro b hb (h1|h1)
  · exact hB b hb h1
  · have:=(h.own_ne h1).1;omega
 have hlen:(s.add d).ds.length=s.ds.length+1:=by simp[CS.add]
 refine⟨⟨?_,?_,h.els.kept kA (fun mb e=>?_) hlow,h.cal.kept kA (fun mb e=>?_) hlow,h.ne,fun d' hd'=>?_,lb⟩,kA⟩
 · rw[hlen,CS.sum_add,← hx]
   exact set_of_cells (cs:=[_,_,_,_,_,_,_]) (h.obj4 o1 K4) 6 _
 · rw[hlen]
   exact O4.kept (M:=fun b=>b=vb) Kept.set1e (fun b hb=>by have:=(O4.lt b hb).1;omega) (fun _ f=>f.elim)
 · subst e
   rintro (h1|h1)
   · exact h.els.2.1 h1
   · exact(h.own_ne h1).2.1 rfl
 · subst e
   rintro (h1|h1)
   · exact h.cal.2.1 h1
   · exact(h.own_ne h1).2.2 rfl
 · rcases List.mem_append.1 hd' with hd'|hd'
   · exact(h.keys d' hd').kept kA hlow
   · simp at hd';subst hd';exact hd.kept kA hlow
end
def IncP(vb B:Nat)(nm:Value)(s':CS)(w:World)(me mc:Option Nat)(a:Option Addr)(n c:Nat)(e:Ending)(w':World):Prop :=
 e=.returned (.tuple #[])∧∃ a' c',GRow vb B nm s' w' me mc a' c'∧Kept (fun b=>b=vb∨(Value.slice a n c).ownBlock=some b) w w'∧∀ g,(Value.slice a' s'.ds.length c').ownBlock=some g→(Value.slice a n c).ownBlock=some g∨w.heap.size≤g
theorem IncP.vis{vb B:Nat}{nm:Value}{s s':CS}{w:World}{me mc:Option Nat}{a:Option Addr}{c:Nat}(h:GRow vb B nm s w me mc a c){e:Ending}{w':World}(hi:IncP vb B nm s' w me mc a s.ds.length c e w'):VisP vb B nm s' w e w':=by
 obtain⟨h1,a',c',h2,h3,-⟩:=hi
 refine⟨h1,⟨me,mc,a',c',h2⟩,h3.mono fun b _ hb=>?_⟩
 have:=h.lb
 rcases hb with h1|h1
 · show B≤b
   omega
 · have:=(h.own_ne h1).1
   show B≤b
   omega
theorem inc_complexity{vb B:Nat}{nm:Value}{s:CS}{w:World}{me mc:Option Nat}{a:Option Addr}{c:Nat}(h:GRow vb B nm s w me mc a c)(text:Str)(pos:Value)(hp:KeyB w B pos)(hl:s.ds.length≤100000) :
 Calls Tryz.prog 61 #[.pointer (some ⟨vb,0,none⟩),.string text,pos] w (IncP vb B nm (s.add ⟨1,0,text,pos⟩) w me mc a s.ds.length c):=by
 have HP:=Lib.hid hp
 obtain⟨k,b,-,-,-,rfl,-,-⟩:=hp
 obtain⟨X,hX⟩:∃ X,X=k.pty:=⟨_,rfl⟩
 rw[← hX]at HP ⊢
 clear hX
 obtain⟨p0,p1,p2,p3,p4,p5,p6⟩:=slot7 h.obj
 have f1:=free_of_cells h.obj 1
 have zb:vb<w.heap.size:=lt_of_heap h.obj
 obtain⟨i0,hi,hz0,hz1,hz2⟩:=info_parts info_D
 have H:=Lib.hid h
 clear h
 go_enter Tryz.func61,Tryz.ntmps61
 go_wp2_with (at_builtin;go_must (refine wpList_append_one (D:=fun _=>False) (base:=vb+1) (v:=.slice a s.ds.length c) rfl (.tmp 22) (.tmp 26) 69 rfl i0 _ 48 ul_sD hi hz0 hz1 hz2 rfl rfl (H.out.ownA ((Kept.set1e (b:=vb)).trans keptA)) s.ds.length (dgs_len s.ds) ⟨w.heap.size,0,none⟩ 1 rfl (.at (.int .i64 1) (.at (.int .i64 0) (.at (.string text) (.at (.iface X (.pointer (some ⟨b,0,none⟩))) .fin)))) [.int .i64 1,.int .i64 0,.string text,.iface X (.pointer (some ⟨b,0,none⟩))] rfl (by have:=new_cells (w.setCell ⟨vb,1,none⟩ (.int .i64 (RowKit.wrap64 (RowKit.wrap64 s.sum+1)))) [.int .i64 1,.int .i64 0,.string text,.iface X (.pointer (some ⟨b,0,none⟩))] 76;simpa using this) (by simp[Value.oneCell']) ⟨_,rfl,_,rfl,_,rfl,_,rfl,rfl⟩ (by omega) (by omega) (by simp;omega) ?_);intro g cap' w4 O4 K4 hb4 hg4;have ho4:=H.out.obj4 (set_of_cells (cs:=[_,_,_,_,_,_,_]) H.out.obj 1 _) (keptA.trans K4);have q6:=cell_of_cells (cs:=[_,_,_,_,_,_,_]) ho4 6 rfl;have f6:=free_of_cells ho4 6;have z4:=lt_of_heap ho4;clear ho4)
 go_end0
 have e:=dgs_snoc ⟨1,0,text,.iface X (.pointer (some ⟨b,0,none⟩))⟩ s.ds
 simp only[]at e
 rw[e]at O4
 obtain⟨hr,hk⟩:=H.out.pushed ⟨1,0,text,_⟩ HP.out (wrap_wrap _ _) Kept.set1e (set_of_cells (cs:=[_,_,_,_,_,_,_]) H.out.obj 1 _) O4 (keptA.trans K4)
 refine⟨rfl,_,_,hr,hk,fun g' e=>?_⟩
 simp only[Value.ownBlock,Option.some.injEq]at e
 subst e
 rcases hb4 with e|e
 · exact .inl e
 · refine .inr ?_
   simp at e
   omega
theorem inc_any{vb B:Nat}{nm:Value}{s:CS}{w:World}(I:GInv vb B nm s w)(text:Str)(pos:Value)(hp:KeyB w B pos)(hl:s.ds.length≤100000) :
 Calls Tryz.prog 61 #[.pointer (some ⟨vb,0,none⟩),.string text,pos] w (VisP vb B nm (s.add ⟨1,0,text,pos⟩) w):=by
 obtain⟨me,mc,a,c,h⟩:=I
 exact(inc_complexity h text pos hp hl).mono fun e w' hi=>hi.vis h
theorem nest_complexity{vb B:Nat}{nm:Value}{s:CS}{w:World}(I:GInv vb B nm s w)(text:Str)(pos:Value)(hp:KeyB w B pos)(hl:s.ds.length≤100000) :
 Calls Tryz.prog 153 #[.pointer (some ⟨vb,0,none⟩),.string text,pos] w (VisP vb B nm (s.add ⟨RowKit.wrap64 (s.nest+1),s.nest,text,pos⟩) w):=by
 obtain⟨me,mc,a,c,h⟩:=I
 have HP:=Lib.hid hp
 obtain⟨k,b,-,-,-,rfl,-,-⟩:=hp
 obtain⟨X,hX⟩:∃ X,X=k.pty:=⟨_,rfl⟩
 rw[← hX]at HP ⊢
 clear hX
 obtain⟨p0,p1,p2,p3,p4,p5,p6⟩:=slot7 h.obj
 have f1:=free_of_cells h.obj 1
 have zb:vb<w.heap.size:=lt_of_heap h.obj
 obtain⟨i0,hi,hz0,hz1,hz2⟩:=info_parts info_D
 have H:=Lib.hid h
 clear h
 go_enter Tryz.func153,Tryz.ntmps153
 go_wp2_with fail
 go_region
 have e1:RowKit.wrap64 (RowKit.wrap64 s.sum+RowKit.wrap64 (s.nest+1))=RowKit.wrap64 (s.sum+RowKit.wrap64 (s.nest+1)):=wrap_wrap _ _
 rw[e1]
 obtain⟨W0,hW0⟩:∃ W0,W0=(w.setCell ⟨vb,1,none⟩ (.int .i64 (RowKit.wrap64 (s.sum+RowKit.wrap64 (s.nest+1))))).drew:=⟨_,rfl⟩
 have k1:Kept (fun b=>b=vb) w W0:=by rw[hW0];exact Kept.set1e.trans keptD
 have o1:W0.heap[vb]?=some (.cells #[nm,.int .i64 (RowKit.wrap64 (s.sum+RowKit.wrap64 (s.nest+1))),.int .i64 s.nest,.map me,.map mc,.bool true,.slice a s.ds.length c] 167 (0,0)):=by
  rw[hW0];exact set_of_cells (cs:=[_,_,_,_,_,_,_]) H.out.obj 1 _
 rw[← hW0]
 clear hW0 e1 p0 p1 p2 p3 p4 p5 p6 f1
 obtain⟨p0,p1,p2,p3,p4,p5,p6⟩:=slot7 o1
 have z0:vb<W0.heap.size:=lt_of_heap o1
 have O1:=Lib.hid o1
 have hlv:∀ k,some k=(Value.slice a s.ds.length c).ownBlock→vb+1≤k:=fun k e=>(H.out.own.lt k e.symm).1
 have Hlv:=Lib.hid hlv
 clear o1 hlv
 go_upto_region 2 with fail
 have kR:Kept (fun k=>vb+1≤k) W0 W0:=Kept.refl _ _
 have rule:∀ wx:World,Kept (fun k=>vb+1≤k) W0 wx→wx.cell? ⟨vb,6,none⟩=some (.slice a s.ds.length c)∧wx.cell? ⟨vb,2,none⟩=some (.int .i64 s.nest)∧vb<wx.heap.size∧wx.frozen? ⟨vb,6,none⟩=false:=fun wx hk =>
  ⟨hk.cell p6 (by simp only[];omega),hk.cell p2 (by simp only[];omega),lt_of_heap (hk.obj O1.out (by omega)),free_of_cells (hk.obj O1.out (by omega)) 6⟩
 have hw:IntKind.i64.wrap (s.nest+1)=RowKit.wrap64 (s.nest+1):=by rw[IntKind.wrap_i64];unfold RowKit.wrap64;omega
 go_region_law (first
  | (go_must (refine step_append_one (D:=fun _=>False) (base:=vb+1) (v:=.slice a s.ds.length c) rfl (.tmp 27) (.tmp 40) 69 rfl i0 _ 48 ul_sD hi hz0 hz1 hz2 rfl rfl (H.out.ownA (k1.trans (by first | exact keptA | exact keptAD | exact keptD.trans keptA))) s.ds.length (dgs_len s.ds) ⟨W0.heap.size,0,none⟩ 1 rfl (.at (.int .i64 (RowKit.wrap64 (s.nest+1))) (.at (.int .i64 s.nest) (.at (.string text) (.at (.iface X (.pointer (some ⟨b,0,none⟩))) .fin)))) [.int .i64 (RowKit.wrap64 (s.nest+1)),.int .i64 s.nest,.string text,.iface X (.pointer (some ⟨b,0,none⟩))] rfl ?nc (by simp[Value.oneCell']) ⟨_,rfl,_,rfl,_,rfl,_,rfl,rfl⟩ (by omega) (by omega) (by simp;omega) ?_);(case nc=>exact new_cells W0 _ _);intro g cap' w4 O4 K4 hb4 hg4;have ho4:=H.out.obj4 O1.out ((keptAD (M:=fun k=>some k=(Value.slice a s.ds.length c).ownBlock)).trans K4);have q6:=cell_of_cells (cs:=[_,_,_,_,_,_,_]) ho4 6 rfl;have q2:=cell_of_cells (cs:=[_,_,_,_,_,_,_]) ho4 2 rfl;have f6:=free_of_cells ho4 6;have z4:=lt_of_heap ho4;clear ho4))
 all_goals go_wp2_with fail
 all_goals go_end0
 all_goals
  have e:=dgs_snoc ⟨RowKit.wrap64 (s.nest+1),s.nest,text,.iface X (.pointer (some ⟨b,0,none⟩))⟩ s.ds
  simp only[]at e
  rw[e]at O4
  obtain⟨hr,hk⟩:=H.out.pushed ⟨RowKit.wrap64 (s.nest+1),s.nest,text,_⟩ HP.out rfl k1 O1.out O4 (keptAD.trans K4)
  exact(IncP.vis H.out ⟨rfl,_,_,hr,hk,fun g' e=>by
   simp only[Value.ownBlock,Option.some.injEq]at e
   subst e
   rcases hb4 with e|e
   · exact .inl e
   · have hs1:=k1.size
     refine .inr ?_
     simp at e
     omega⟩)
theorem eq_nil_mapN(m:Option Nat)(w:World):(binOp .eql 164 (.map m) (.map none)).run Tryz.prog w=.ok (.bool m.isNone) w:=by
 have h:∀ d:Nat,(Op.equalIn (d+1) 164 (.map m) (.map none)).run Tryz.prog w=.ok m.isNone w:=fun d=>by cases m<;>simp[Op.equalIn,run_underlying ul_mapNB]
 simp only[binOp]
 simp[Op.equal,Op.maxDepth,h 9999]
theorem eq_nil_mapE(m:Option Nat)(w:World):(binOp .eql 165 (.map m) (.map none)).run Tryz.prog w=.ok (.bool m.isNone) w:=by
 have h:∀ d:Nat,(Op.equalIn (d+1) 165 (.map m) (.map none)).run Tryz.prog w=.ok m.isNone w:=fun d=>by cases m<;>simp[Op.equalIn,run_underlying ul_mapEB]
 simp only[binOp]
 simp[Op.equal,Op.maxDepth,h 9999]
def AskP(w:World)(r:Bool)(e:Ending)(w':World):Prop:=e=.returned (.bool r)∧w'=w
theorem is_calc{vb B:Nat}{nm:Value}{s:CS}{w:World}(I:GInv vb B nm s w)(k:K)(b:Nat)(hp:KeyB w B (.iface k.pty (.pointer (some ⟨b,0,none⟩)))) :
 Calls Tryz.prog 155 #[.pointer (some ⟨vb,0,none⟩),.iface k.pty (.pointer (some ⟨b,0,none⟩))] w (AskP w (s.cal k.pty b)):=by
 obtain⟨me,mc,a,c,h⟩:=I
 obtain⟨p0,p1,p2,p3,p4,p5,p6⟩:=slot7 h.obj
 have zb:vb<w.heap.size:=lt_of_heap h.obj
 have hc:=h.cal
 have heq:=eq_nil_mapE mc
 clear h p0 p1 p2 p3 p5 p6
 cases mc with
 | none =>
   have hf:s.cal k.pty b=false:=hc _ _
   obtain⟨X,hX⟩:∃ X,X=k.pty:=⟨_,rfl⟩
   rw[← hX]at hf ⊢
   rw[hf]
   clear hc hp hX hf
   go_enter Tryz.func155,Tryz.ntmps155
   go_wp2_with fail
   go_ret
   exact⟨rfl,rfl⟩
 | some mb =>
   have hl:=hc.2.2.look ul_Expr ul_mapEB hp
   obtain⟨X,hX⟩:∃ X,X=k.pty:=⟨_,rfl⟩
   obtain⟨r,hr⟩:∃ r,r=s.cal k.pty b:=⟨_,rfl⟩
   rw[← hr,← hX]at hl ⊢
   clear hc hp hX hr
   go_enter Tryz.func155,Tryz.ntmps155
   go_wp2_with fail
   go_ret
   exact⟨rfl,rfl⟩
theorem is_else{vb B:Nat}{nm:Value}{s:CS}{w:World}(I:GInv vb B nm s w)(k:K)(b:Nat)(hp:KeyB w B (.iface k.pty (.pointer (some ⟨b,0,none⟩)))) :
 Calls Tryz.prog 157 #[.pointer (some ⟨vb,0,none⟩),.iface k.pty (.pointer (some ⟨b,0,none⟩))] w (AskP w (s.els k.pty b)):=by
 obtain⟨me,mc,a,c,h⟩:=I
 obtain⟨p0,p1,p2,p3,p4,p5,p6⟩:=slot7 h.obj
 have zb:vb<w.heap.size:=lt_of_heap h.obj
 have hc:=h.els
 have heq:=eq_nil_mapN me
 clear h p0 p1 p2 p4 p5 p6
 cases me with
 | none =>
   have hf:s.els k.pty b=false:=hc _ _
   obtain⟨X,hX⟩:∃ X,X=k.pty:=⟨_,rfl⟩
   rw[← hX]at hf ⊢
   rw[hf]
   clear hc hp hX hf
   go_enter Tryz.func157,Tryz.ntmps157
   go_wp2_with fail
   go_ret
   exact⟨rfl,rfl⟩
 | some mb =>
   have hl:=hc.2.2.look ul_Node ul_mapNB hp
   obtain⟨X,hX⟩:∃ X,X=k.pty:=⟨_,rfl⟩
   obtain⟨r,hr⟩:∃ r,r=s.els k.pty b:=⟨_,rfl⟩
   rw[← hr,← hX]at hl ⊢
   clear hc hp hX hr
   go_enter Tryz.func157,Tryz.ntmps157
   go_wp2_with fail
   go_ret
   exact⟨rfl,rfl⟩
def MarkC(vb B:Nat)(nm:Value)(s':CS)(w:World)(me mc:Option Nat)(a:Option Addr)(c:Nat)(e:Ending)(w':World):Prop :=
 e=.returned (.tuple #[])∧∃ mb,GRow vb B nm s' w' me (some mb) a c∧Kept (fun b=>b=vb∨mc=some b) w w'∧(∀ m,mc=some m→mb=m)∧(mc=some mb∨w.heap.size≤mb)
def MarkE(vb B:Nat)(nm:Value)(s':CS)(w:World)(me mc:Option Nat)(a:Option Addr)(c:Nat)(e:Ending)(w':World):Prop :=
 e=.returned (.tuple #[])∧∃ mb,GRow vb B nm s' w' (some mb) mc a c∧Kept (fun b=>b=vb∨me=some b) w w'∧(∀ m,me=some m→mb=m)∧(me=some mb∨w.heap.size≤mb)
theorem GRow.made_cal{vb B:Nat}{nm:Value}{s:CS}{w:World}{me:Option Nat}{a:Option Addr}{c:Nat}(h:GRow vb B nm s w me none a c) :
 GRow vb B nm s ((w.alloc (.map #[] 0)).setCell ⟨vb,4,none⟩ (.map (some w.heap.size))) me (some w.heap.size) a c∧Kept (fun b=>b=vb) w ((w.alloc (.map #[] 0)).setCell ⟨vb,4,none⟩ (.map (some w.heap.size))):=by
 have hk:Kept (fun b=>b=vb) w ((w.alloc (.map #[] 0)).setCell ⟨vb,4,none⟩ (.map (some w.heap.size))):=keptA.trans Kept.set1e
 have hB:=h.low
 have zb:vb<w.heap.size:=lt_of_heap h.obj
 have hf:s.cal=fun _ _=>false:=funext fun p=>funext fun b=>h.cal p b
 have lb:=h.lb
 have hm:MapO ((w.alloc (.map #[] 0)).setCell ⟨vb,4,none⟩ (.map (some w.heap.size))) B vb (some w.heap.size) s.cal:=⟨by omega,by omega,by
  rw[hf]
  exact(MapB.new w B).kept (M:=fun b=>b=vb) Kept.set1e (by omega) hB⟩
 have ho:MapO ((w.alloc (.map #[] 0)).setCell ⟨vb,4,none⟩ (.map (some w.heap.size))) B vb me s.els:=h.els.kept hk (fun mb e=>by subst e;exact h.els.2.1) hB
 have hlt:∀ m,me=some m→m<w.heap.size:=fun m e=>by
  subst e
  obtain⟨-,-,es,clock,h1,-⟩:=h.els
  exact lt_of_heap h1
 refine⟨⟨set_of_cells (cs:=[_,_,_,_,_,_,_]) ((keptA (M:=fun _=>False)).obj h.obj (fun f=>f)) 4 _,h.own.kept hk (fun b hb=>by have:=(h.own.lt b hb).1;omega) (fun _ f=>f.elim),ho,hm,?_,fun d hd=>(h.keys d hd).kept hk hB,h.lb⟩,hk⟩
 intro m e e2
 have:=hlt m e
 cases e2
 omega
theorem GRow.done{vb B:Nat}{nm:Value}{s:CS}{w:World}{me:Option Nat}{mb:Nat}{a:Option Addr}{c:Nat}(h:GRow vb B nm s w me (some mb) a c){k:K}{b:Nat}(hp:KeyB w B (.iface k.pty (.pointer (some ⟨b,0,none⟩)))) :
 ∃ w',(Instr.mapUpdate 165 (.map (some mb)) (.iface k.pty (.pointer (some ⟨b,0,none⟩))) (.bool true)).run Tryz.prog w=.ok () w'∧GRow vb B nm (s.done k.pty b) w' me (some mb) a c∧Kept (fun b=>b=mb) w w':=by
 obtain⟨hb,hv,hm⟩:=h.cal
 obtain⟨w',hr,hm',hk⟩:=hm.store ul_Expr ul_mapEB hb hp
 have hB:∀ b,b<B→¬ b=mb:=fun b hlt=>by omega
 refine⟨w',hr,⟨hk.obj h.obj (Ne.symm hv),h.own.kept hk (fun b e=>?_) (fun _ f=>f.elim),h.els.kept hk (fun m e e2=>by subst e;subst e2;exact h.ne _ rfl rfl) hB,⟨hb,hv,hm'⟩,h.ne,fun d hd=>(h.keys d hd).kept hk hB,h.lb⟩,hk⟩
 intro e2
 subst e2
 exact(h.own_ne e).2.2 rfl
theorem mark_cal{vb B:Nat}{nm:Value}{s:CS}{w:World}{me mc:Option Nat}{a:Option Addr}{c:Nat}(h:GRow vb B nm s w me mc a c)(k:K)(b:Nat)(hp:KeyB w B (.iface k.pty (.pointer (some ⟨b,0,none⟩)))) :
 Calls Tryz.prog 158 #[.pointer (some ⟨vb,0,none⟩),.iface k.pty (.pointer (some ⟨b,0,none⟩))] w (MarkC vb B nm (s.done k.pty b) w me mc a c):=by
 obtain⟨p0,p1,p2,p3,p4,p5,p6⟩:=slot7 h.obj
 have f4:=free_of_cells h.obj 4
 have zb:vb<w.heap.size:=lt_of_heap h.obj
 have heq:=eq_nil_mapE mc
 have hmm:=@run_makeMap Tryz.prog
 have hlb:=h.lb
 cases mc with
 | none =>
   obtain⟨h1,k1⟩:=h.made_cal
   obtain⟨w',hr,h2,k2⟩:=h1.done (hp.kept k1 h.low)
   have H2:=Lib.hid h2
   obtain⟨s',hs'⟩:∃ s',s'=s.done k.pty b:=⟨_,rfl⟩
   obtain⟨X,hX⟩:∃ X,X=k.pty:=⟨_,rfl⟩
   rw[← hs']at H2 ⊢
   rw[← hX,World.setCell_alloc_past _ _ _ _ zb]at hr
   rw[← hX]
   clear h h1 h2 hp hX hs' p0 p1 p2 p3 p5 p6
   go_enter Tryz.func158,Tryz.ntmps158
   go_wp2_with fail
   go_end0
   exact⟨rfl,_,H2.out,((k1.mono (M':=fun b=>(b=vb∨none=some b)∨w.heap.size≤b) fun b _ e=>.inl (.inl e)).trans (k2.mono fun b _ e=>.inr (by omega))).fresh (Nat.le_refl _),fun m e=>(by cases e),.inr (Nat.le_refl _)⟩
 | some mb =>
   obtain⟨w',hr,h2,k2⟩:=h.done hp
   have H2:=Lib.hid h2
   obtain⟨s',hs'⟩:∃ s',s'=s.done k.pty b:=⟨_,rfl⟩
   obtain⟨X,hX⟩:∃ X,X=k.pty:=⟨_,rfl⟩
   rw[← hs']at H2 ⊢
   rw[← hX]at hr ⊢
   clear h h2 hp hX hs' p0 p1 p2 p3 p5 p6
   go_enter Tryz.func158,Tryz.ntmps158
   go_wp2_with fail
   go_end0
   exact⟨rfl,_,H2.out,k2.mono fun b _ e=>.inr (by rw[e]),fun m e=>(by cases e;rfl),.inl rfl⟩
theorem GRow.made_els{vb B:Nat}{nm:Value}{s:CS}{w:World}{mc:Option Nat}{a:Option Addr}{c:Nat}(h:GRow vb B nm s w none mc a c) :
 GRow vb B nm s ((w.alloc (.map #[] 0)).setCell ⟨vb,3,none⟩ (.map (some w.heap.size))) (some w.heap.size) mc a c∧Kept (fun b=>b=vb) w ((w.alloc (.map #[] 0)).setCell ⟨vb,3,none⟩ (.map (some w.heap.size))):=by
 have hk:Kept (fun b=>b=vb) w ((w.alloc (.map #[] 0)).setCell ⟨vb,3,none⟩ (.map (some w.heap.size))):=keptA.trans Kept.set1e
 have hB:=h.low
 have zb:vb<w.heap.size:=lt_of_heap h.obj
 have hf:s.els=fun _ _=>false:=funext fun p=>funext fun b=>h.els p b
 have lb:=h.lb
 have hm:MapO ((w.alloc (.map #[] 0)).setCell ⟨vb,3,none⟩ (.map (some w.heap.size))) B vb (some w.heap.size) s.els:=⟨by omega,by omega,by
  rw[hf]
  exact(MapB.new w B).kept (M:=fun b=>b=vb) Kept.set1e (by omega) hB⟩
 have ho:MapO ((w.alloc (.map #[] 0)).setCell ⟨vb,3,none⟩ (.map (some w.heap.size))) B vb mc s.cal:=h.cal.kept hk (fun mb e=>by subst e;exact h.cal.2.1) hB
 have hlt:∀ m,mc=some m→m<w.heap.size:=fun m e=>by
  subst e
  obtain⟨-,-,es,clock,h1,-⟩:=h.cal
  exact lt_of_heap h1
 refine⟨⟨set_of_cells (cs:=[_,_,_,_,_,_,_]) ((keptA (M:=fun _=>False)).obj h.obj (fun f=>f)) 3 _,h.own.kept hk (fun b hb=>by have:=(h.own.lt b hb).1;omega) (fun _ f=>f.elim),hm,ho,?_,fun d hd=>(h.keys d hd).kept hk hB,h.lb⟩,hk⟩
 intro m e e2
 cases e
 have:=hlt _ e2
 omega
theorem GRow.mark{vb B:Nat}{nm:Value}{s:CS}{w:World}{mc:Option Nat}{mb:Nat}{a:Option Addr}{c:Nat}(h:GRow vb B nm s w (some mb) mc a c){k:K}{b:Nat}(hp:KeyB w B (.iface k.pty (.pointer (some ⟨b,0,none⟩)))) :
 ∃ w',(Instr.mapUpdate 164 (.map (some mb)) (.iface k.pty (.pointer (some ⟨b,0,none⟩))) (.bool true)).run Tryz.prog w=.ok () w'∧GRow vb B nm (s.mark k.pty b) w' (some mb) mc a c∧Kept (fun b=>b=mb) w w':=by
 obtain⟨hb,hv,hm⟩:=h.els
 obtain⟨w',hr,hm',hk⟩:=hm.store ul_Node ul_mapNB hb hp
 have hB:∀ b,b<B→¬ b=mb:=fun b hlt=>by omega
 refine⟨w',hr,⟨hk.obj h.obj (Ne.symm hv),h.own.kept hk (fun b e=>?_) (fun _ f=>f.elim),⟨hb,hv,hm'⟩,h.cal.kept hk (fun m e e2=>by subst e;subst e2;exact h.ne _ rfl rfl) hB,h.ne,fun d hd=>(h.keys d hd).kept hk hB,h.lb⟩,hk⟩
 intro e2
 subst e2
 exact(h.own_ne e).2.1 rfl
theorem mark_els{vb B:Nat}{nm:Value}{s:CS}{w:World}{me mc:Option Nat}{a:Option Addr}{c:Nat}(h:GRow vb B nm s w me mc a c)(k:K)(b:Nat)(hp:KeyB w B (.iface k.pty (.pointer (some ⟨b,0,none⟩)))) :
 Calls Tryz.prog 152 #[.pointer (some ⟨vb,0,none⟩),.iface k.pty (.pointer (some ⟨b,0,none⟩))] w (MarkE vb B nm (s.mark k.pty b) w me mc a c):=by
 obtain⟨p0,p1,p2,p3,p4,p5,p6⟩:=slot7 h.obj
 have f3:=free_of_cells h.obj 3
 have zb:vb<w.heap.size:=lt_of_heap h.obj
 have heq:=eq_nil_mapN me
 have hmm:=@run_makeMap Tryz.prog
 have hlb:=h.lb
 cases me with
 | none =>
   obtain⟨h1,k1⟩:=h.made_els
   obtain⟨w',hr,h2,k2⟩:=h1.mark (hp.kept k1 h.low)
   have H2:=Lib.hid h2
   obtain⟨s',hs'⟩:∃ s',s'=s.mark k.pty b:=⟨_,rfl⟩
   obtain⟨X,hX⟩:∃ X,X=k.pty:=⟨_,rfl⟩
   rw[← hs']at H2 ⊢
   rw[← hX,World.setCell_alloc_past _ _ _ _ zb]at hr
   rw[← hX]
   clear h h1 h2 hp hX hs' p0 p1 p2 p4 p5 p6
   go_enter Tryz.func152,Tryz.ntmps152
   go_wp2_with fail
   go_end0
   exact⟨rfl,_,H2.out,((k1.mono (M':=fun b=>(b=vb∨none=some b)∨w.heap.size≤b) fun b _ e=>.inl (.inl e)).trans (k2.mono fun b _ e=>.inr (by omega))).fresh (Nat.le_refl _),fun m e=>(by cases e),.inr (Nat.le_refl _)⟩
 | some mb =>
   obtain⟨w',hr,h2,k2⟩:=h.mark hp
   have H2:=Lib.hid h2
   obtain⟨s',hs'⟩:∃ s',s'=s.mark k.pty b:=⟨_,rfl⟩
   obtain⟨X,hX⟩:∃ X,X=k.pty:=⟨_,rfl⟩
   rw[← hs']at H2 ⊢
   rw[← hX]at hr ⊢
   clear h h2 hp hX hs' p0 p1 p2 p4 p5 p6
   go_enter Tryz.func152,Tryz.ntmps152
   go_wp2_with fail
   go_end0
   exact⟨rfl,_,H2.out,k2.mono fun b _ e=>.inr (by rw[e]),fun m e=>(by cases e;rfl),.inl rfl⟩
end Go.Proofs.YtleolbpibjnedaaGreat
