/- A map from parts of syntax, or a file, to numbers. -/
import Derived.Test.YtleolbpibjnedaaGreatQWkG
import Derived.Test.YtleolbpibjnedaaGreatQBdC
import Derived.Deep.RegionHeld3
set_option linter.unusedSimpArgs false
set_option linter.unusedVariables false
set_option maxRecDepth 100000
set_option maxHeartbeats 4000000
namespace Go.Proofs.YtleolbpibjnedaaGreat
open Go Go.RowKit Gc
def PtyOk(p:TypeId):Prop:=∃ t,Tryz.prog.underlying p=some (.pointer t)∧(Tryz.prog.info? p).map (·.comparable)=some true∧(Tryz.prog.info? t).map (fun i=>decide (i.size≠0))=some true
theorem pty_ok{k:K}(h:k.real):PtyOk k.pty:=⟨k.ty,k_un k h,k_comp k h,k_size k h⟩
theorem file_ok:PtyOk 83:=⟨91,un_File,by kernel_rfl,by kernel_rfl⟩
theorem eq_keyZ{p p':TypeId}(hk:PtyOk p){b b':Nat}{w:World}{cs cs':Array Value}{t t':TypeId}(hb:w.heap[b]?=some (.cells cs t (0,0)))(hb':w.heap[b']?=some (.cells cs' t' (0,0))) :
 (Op.equal 74 (.iface p (.pointer (some ⟨b,0,none⟩))) (.iface p' (.pointer (some ⟨b',0,none⟩)))).run Tryz.prog w=.ok (decide (p=p'∧b=b')) w:=by
 obtain⟨ms,hi⟩:=ul_Node
 by_cases hp:p=p'
 · rw[← hp]
   obtain⟨t0,hun,h1,h2⟩:=hk
   cases hi1:Tryz.prog.info? p with
   | none=>rw[hi1]at h1;cases h1
   | some i =>
     cases hi2:Tryz.prog.info? t0 with
     | none=>rw[hi2]at h2;cases h2
     | some j =>
       have c1:i.comparable=true:=by rw[hi1]at h1;simpa using h1
       have c2:j.size≠0:=by rw[hi2]at h2;simpa using h2
       by_cases e:b=b'
       · subst e
         have:=run_equalIn_iface_ptr_same (P:=Tryz.prog) w 9998 (ti:=74) (⟨b,0,none⟩:Addr) hi hun hi1 c1 hi2
         simp only[Op.equal,Op.maxDepth]
         simpa using this
       · have:=run_equalIn_iface_ptr_other (P:=Tryz.prog) w 9998 (ti:=74) (a:=⟨b,0,none⟩) (b:=⟨b',0,none⟩) hi hun hi1 c1 hi2 c2 (by intro h;cases h;exact e rfl) hb hb'
         simp only[Op.equal,Op.maxDepth]
         simpa [e]using this
 · have h:∀ d:Nat,(Op.equalIn (d+1) 74 (.iface p (.pointer (some ⟨b,0,none⟩))) (.iface p' (.pointer (some ⟨b',0,none⟩)))).run Tryz.prog w=.ok false w:=fun d=>by simp[Op.equalIn,run_underlying hi,hp]
   simp only[Op.equal,Op.maxDepth]
   simpa [hp]using h 9999
def KeyKZ(w:World)(v:Value):Prop:=∃ (p:TypeId) (b:Nat) (cs:Array Value) (t:TypeId),PtyOk p∧v=.iface p (.pointer (some ⟨b,0,none⟩))∧w.heap[b]?=some (.cells cs t (0,0))
theorem find_askingZ{w:World}{v:Value}(hv:KeyKZ w v):∀ (es:List MapEntry) (i:Nat),(∀ e∈es,KeyKZ w e.key) →
 (Instr.findAsking 74 v es i).run Tryz.prog w=.ok none w∨∃ j e,(Instr.findAsking 74 v es i).run Tryz.prog w=.ok (some (i+j,e.val)) w∧es[j]?=some e∧e.key=v
 | [],i,_=>.inl rfl
 | e :: es,i,h=>by
   obtain⟨p,b,cs,t,hk,rfl,hb⟩:=hv
   obtain⟨p',b',cs',t',hk',he,hb'⟩:=h e (by simp)
   have hq:=eq_keyZ (p':=p') hk hb hb'
   by_cases hc:p=p'∧b=b'
   · refine .inr ⟨0,e,?_,rfl,by rw[he,hc.1,hc.2]⟩
     have hq':(Op.equal 74 (.iface p (.pointer (some ⟨b,0,none⟩))) e.key).run Tryz.prog w=.ok true w:=by rw[he,hq,decide_eq_true hc]
     simp[Instr.findAsking,hq',Result.andThen]
   · have hrec:=find_askingZ (v:=.iface p (.pointer (some ⟨b,0,none⟩))) ⟨p,b,cs,t,hk,rfl,hb⟩ es (i+1) (fun x hx=>h x (by simp[hx]))
     have hq':(Op.equal 74 (.iface p (.pointer (some ⟨b,0,none⟩))) e.key).run Tryz.prog w=.ok false w:=by rw[he,hq];simp[hc]
     rcases hrec with hr|⟨j,x,hr,hj,hx⟩
     · left
       simp[Instr.findAsking,hq',Result.andThen,hr]
     · refine .inr ⟨j+1,x,?_,by simpa using hj,hx⟩
       simp[Instr.findAsking,hq',Result.andThen,hr]
       omega
theorem find_keyZ{w:World}{v:Value}(hv:KeyKZ w v)(es:List MapEntry)(h:∀ e∈es,KeyKZ w e.key) :
 (Instr.findKey 74 v es).run Tryz.prog w=.ok none w∨∃ j e,(Instr.findKey 74 v es).run Tryz.prog w=.ok (some (j,e.val)) w∧es[j]?=some e∧e.key=v:=by
 obtain⟨ms,hi⟩:=ul_Node
 cases es with
 | nil=>left;simp[Instr.findKey,run_underlying hi,Instr.findNow,Result.andThen]
 | cons e es =>
   have hn:Instr.findNow (.interface ms) v (e :: es) 0=none:=rfl
   rcases find_askingZ hv (e :: es) 0 h with hr|⟨j,x,hr,hj,hx⟩
   · left
     simp[Instr.findKey,run_underlying hi,hn,Result.andThen,hr]
   · refine .inr ⟨j,x,?_,hj,hx⟩
     simpa [Instr.findKey,run_underlying hi,hn,Result.andThen]using hr
theorem check_keyZ{w:World}{v:Value}(hv:KeyKZ w v)(em:Bool):(Instr.checkKey em 10000 74 v).run Tryz.prog w=.ok () w:=by
 obtain⟨p,b,cs,t,hk,rfl,hb⟩:=hv
 obtain⟨ms,hi⟩:=ul_Node
 obtain⟨t0,hun,h1,-⟩:=hk
 cases hi1:Tryz.prog.info? p with
 | none=>rw[hi1]at h1;cases h1
 | some i =>
   have c1:i.comparable=true:=by rw[hi1]at h1;simpa using h1
   have e1:∀ n,(Instr.checkKey em (n+1) p (.pointer (some ⟨b,0,none⟩))).run Tryz.prog w=.ok () w:=fun n=>by simp[Instr.checkKey,run_underlying hun]
   have e2:∀ n,(Instr.checkKey em (n+2) 74 (.iface p (.pointer (some ⟨b,0,none⟩)))).run Tryz.prog w=.ok () w:=fun n=>by rw[Instr.checkKey];simp[run_underlying hi,typeInfo,hi1,c1,e1,Result.andThen]
   exact e2 9998
def KeyBZ(w:World)(B:Nat)(v:Value):Prop:=∃ (p:TypeId) (b:Nat) (cs:Array Value) (t:TypeId),PtyOk p∧v=.iface p (.pointer (some ⟨b,0,none⟩))∧w.heap[b]?=some (.cells cs t (0,0))∧b<B
theorem KeyBZ.key{w:World}{B:Nat}{v:Value}(h:KeyBZ w B v):KeyKZ w v:=by
 obtain⟨p,b,cs,t,h1,h2,h3,-⟩:=h
 exact⟨p,b,cs,t,h1,h2,h3⟩
theorem KeyBZ.kept{w w':World}{B:Nat}{v:Value}(h:KeyBZ w B v){M:Nat→Prop}(hk:Kept M w w')(hM:∀ b,b<B→¬ M b):KeyBZ w' B v:=by
 obtain⟨p,b,cs,t,h1,h2,h3,h4⟩:=h
 exact⟨p,b,cs,t,h1,h2,hk.obj h3 (hM b h4),h4⟩
def PMapZ(w:World)(B mb:Nat):Prop:=∃ es clock,w.heap[mb]?=some (.map es clock)∧∀ e∈es.toList,KeyBZ w B e.key∧∃ n:Int,e.val=.int .i64 n
theorem PMapZ.kept{w w':World}{B mb:Nat}(h:PMapZ w B mb){M:Nat→Prop}(hk:Kept M w w')(hmb:¬ M mb)(hM:∀ b,b<B→¬ M b):PMapZ w' B mb:=by
 obtain⟨es,clock,h1,h2⟩:=h
 exact⟨es,clock,hk.obj h1 hmb,fun e he=>⟨(h2 e he).1.kept hk hM,(h2 e he).2⟩⟩
theorem PMapZ.same{w w':World}{B mb:Nat}(h:PMapZ w B mb)(hk:Kept (fun _=>False) w w'):PMapZ w' B mb:=h.kept hk (fun f=>f) (fun _ _ f=>f)
theorem PMapZ.store{w:World}{B mb:Nat}(h:PMapZ w B mb)(hB:B≤mb){v:Value}(hv:KeyBZ w B v)(n:Int) :
 ∃ w',(Instr.mapUpdate 55 (.map (some mb)) v (.int .i64 n)).run Tryz.prog w=.ok () w'∧PMapZ w' B mb∧Kept (fun b=>b=mb) w w':=by
 obtain⟨es,clock,hb,h2⟩:=h
 have hnm:∀ b,b<B→¬ b=mb:=fun b hb=>by omega
 have hkept:∀ o,Kept (fun b=>b=mb) w (ChangeMaps.setBlock w mb o):=fun o=>⟨rfl,rfl,rfl,by simp[ChangeMaps.setBlock],fun k _ hk=>ChangeMaps.heap_setBlock_other hb _ hk⟩
 rcases find_keyZ hv.key es.toList (fun e he=>(h2 e he).1.key) with hr|⟨j,e,hr,hj,he⟩
 · refine⟨ChangeMaps.setBlock w mb (.map (es.push ⟨v,.int .i64 n,clock⟩) (clock+1)),?_,⟨_,_,ChangeMaps.heap_setBlock_same hb _,?_⟩,hkept _⟩
   · simp[Instr.mapUpdate,run_underlying ul_mapN,MapKept.run_getObj_map hb,check_keyZ hv.key,hr,MapKept.run_setObj_map _ hb,Result.andThen,ChangeMaps.setBlock]
   · intro x hx
     simp only[Array.toList_push,List.mem_append,List.mem_singleton]at hx
     rcases hx with hx|rfl
     · exact⟨(h2 x hx).1.kept (hkept _) hnm,(h2 x hx).2⟩
     · exact⟨hv.kept (hkept _) hnm,n,rfl⟩
 · have hj':es[j]?=some e:=by simpa using hj
   have hst:(Instr.keyThatStays v v).run Tryz.prog w=.ok v w:=by
    obtain⟨p,b,cs,t,hk,rfl,hb,-⟩:=hv
    simp[Instr.keyThatStays,Instr.sameBits]
   refine⟨ChangeMaps.setBlock w mb (.map (es.modify j fun e=>{ e with key:=v,val:=.int .i64 n }) clock),?_,⟨_,_,ChangeMaps.heap_setBlock_same hb _,?_⟩,hkept _⟩
   · simp[Instr.mapUpdate,run_underlying ul_mapN,MapKept.run_getObj_map hb,check_keyZ hv.key,hr,hj',he,hst,MapKept.run_setObj_map _ hb,Result.andThen,ChangeMaps.setBlock]
   · intro x hx
     rw[Array.toList_modify]at hx
     obtain⟨i,hi,rfl⟩:=List.getElem_of_mem hx
     rw[List.getElem_modify]
     split
     · exact⟨hv.kept (hkept _) hnm,n,rfl⟩
     · exact⟨(h2 _ (List.getElem_mem _)).1.kept (hkept _) hnm,(h2 _ (List.getElem_mem _)).2⟩
theorem PMapZ.len{w:World}{B mb:Nat}(h:PMapZ w B mb):∃ n:Nat,∀ ty,(Builtin.len_ #[55] ty #[.map (some mb)]).run Tryz.prog w=.ok (.int .i64 n) w:=by
 obtain⟨es,clock,hb,h2⟩:=h
 exact⟨es.size,fun ty=>by simp[Builtin.len_,run_underlying ul_mapN,MapKept.run_getObj_map hb,Result.andThen,goInt]⟩
theorem PMapZ.new(w:World)(B:Nat):PMapZ (w.alloc (.map #[] 0)) B w.heap.size:=⟨#[],0,heap_alloc_new w _,by simp⟩
theorem KeyB.z{w:World}{B:Nat}{v:Value}(h:KeyB w B v):KeyBZ w B v:=by
 obtain⟨k,b,cs,t,h1,h2,h3,h4⟩:=h
 exact⟨k.pty,b,cs,t,pty_ok h1,h2,h3,h4⟩
def PInvZ(c mb B:Nat)(_:Unit)(w:World):Prop:=w.heap[c]?=some (.cells #[.map (some mb)] 55 (0,0))∧PMapZ w B mb∧B≤mb
theorem place_oneZ(c mb B:Nat)(v:Value)(w:World)(hI:PInvZ c mb B () w)(hv:KeyBZ w B v):Calls Tryz.prog 57 #[v,.pointer (some ⟨c,0,none⟩)] w (fun e w'=>e=.returned (.bool true)∧PInvZ c mb B () w'∧Kept (fun b=>B≤b) w w'):=by
 obtain⟨hc,hm,hBm⟩:=hI
 obtain⟨n,hl⟩:=hm.len
 obtain⟨w',hs,hm',hk⟩:=hm.store hBm hv n
 have p0:=cell_of_cells (cs:=[_]) hc 0 rfl
 have zc:c<w.heap.size:=lt_of_heap hc
 have hne:c≠mb:=by
  obtain⟨es,clock,hb,_⟩:=hm
  intro e
  rw[e,hb]at hc
  cases hc
 obtain⟨k,b,cs,t,hkr,rfl,hb,-⟩:=hv
 have HC:=Lib.hid hc
 have HM:=Lib.hid hm'
 clear hc hm hm' hb
 go_enter Tryz.func57,Tryz.ntmps57
 go_wp2_with fail
 go_ret
 exact⟨rfl,⟨hk.obj HC.out hne,HM.out,hBm⟩,hk.mono fun b _ e=>by show B≤b;omega⟩
theorem inspect_visitZ(c mb B:Nat)(v:Value)(w:World)(hI:PInvZ c mb B () w)(hv:v=.nilIface∨KeyBZ w B v) :
 Calls Tryz.prog 238 #[.func (Fn.func 57) #[] #[.pointer (some ⟨c,0,none⟩)],v] w (fun e w'=>e=.returned (.iface 337 (.func (Fn.func 57) #[] #[.pointer (some ⟨c,0,none⟩)]))∧PInvZ c mb B () w'∧Kept (fun b=>B≤b) w w'):=by
 have HI:=Lib.hid hI
 have HV:=Lib.hid hv
 clear hI hv
 go_enter Tryz.func238,Tryz.ntmps238
 go_wp2_with fail
 have h:Calls Tryz.prog 57 #[v,.pointer (some ⟨c,0,none⟩)] w (fun e w'=>e=.returned (.bool true)∧PInvZ c mb B () w'∧Kept (fun b=>B≤b) w w'):=by
  rcases HV.out with rfl|hk
  · exact(place_nil c w).mono fun e w' ⟨h1,h2⟩=>by subst h2;exact⟨h1,HI.out,Kept.refl _ _⟩
  · exact place_oneZ c mb B v w HI.out hk
 refine h.mono ?_
 rintro e w1 ⟨rfl,I,K⟩
 have HI1:=Lib.hid I
 clear I h
 go_wp2_with fail
 go_ret
 exact⟨rfl,HI1.out,K⟩
theorem walkList_D{σ:Type}{T:TypeId}{x:Value}{F:Nat}{rcv:Value}{M:Nat→Prop}{Inv:σ→World→Prop}{sem step:A→σ→σ}{PA:A→σ→Prop}{SK:K→Bool}(V:Vis σ T x F rcv M Inv sem step PA SK)(text:Str)(num:Int)(o:Option Addr)(b:Nat)(l f1 f2 f3:A)(hl:l.isList)(hk:∀ j,j<l.len→(l.get j).isn∧WalkOk T x M Inv sem PA (l.get j))(hmax:l.len≤100000):WalkLOk T x M Inv sem PA 100 (.n .list text num o b l f1 f2 f3):=by
 intro w D v s pa hR hD hI
 obtain⟨u,rs,e,r,-⟩:=hR
 simp only[List.cons.injEq]at e
 obtain⟨rfl,-⟩:=e
 obtain⟨a,c,rfl,hs⟩:=list_valA hl r
 obtain⟨n,hn⟩:∃ n,n=l.len:=⟨_,rfl⟩
 rw[← hn]at hs hmax ⊢
 have Hn:=Lib.hid hn
 have Hs:=Lib.hid hs
 have HR:=Lib.hid r
 have HK:=Lib.hid hk
 have HQ:=Lib.hid (pa_get V (V.her_l _ _ _ _ _ _ _ _ _ pa))
 have HD:=Lib.hid hD
 have HI:=Lib.hid hI
 clear hn hs r hk hD hI
 go_enter Tryz.func100,Tryz.ntmps100
 go_wp2_with fail
 go_loopw [8] (fun t wr=>∃ k:Nat,t=.int .i64 k∧k≤n∧RowKit.Hid (Inv (l.wpre sem k s) wr)∧Kept M w wr) (fun t _=>((n:Int)-intOf t).toNat)
 case atStart=>exact⟨0,rfl,by omega,Lib.hid (by rw[wpre_zero];exact HI.out),Kept.refl _ _⟩
 case round =>
  obtain⟨k,rfl,hk,I,K⟩:=hrel
  by_cases hlt:(k:Int)<n
  · obtain⟨g,o',rfl⟩:=Hs.out (by omega)
    have hkl:k<l.len:=by have:=Hn.out;omega
    obtain⟨v,r,hc,hg⟩:=A_at (k:=k) (HR.out.kept K HD.out) hl (fun j hj=>(HK.out j hj).1) hkl
    have HW:=Lib.hid (HK.out k hkl).2
    have Hr:=Lib.hid r
    clear r
    go_wp2_with fail
    refine(HW.out _ D v _ (HQ.out _ hkl) Hr.out HD.out I.out).mono ?_
    rintro e w2 ⟨rfl,I2,K2⟩
    have HI2:=Lib.hid I2
    clear I2
    go_wp2_with fail
    go_roundw
    · exact⟨k+1,by go_num,by omega,Lib.hid (by rw[wpre_succ _ _ _ hkl];exact HI2.out),K.trans K2⟩
    · simp[intOf];omega
  · go_wp2_with fail
    go_end0
    refine⟨rfl,?_,K⟩
    have e:k=l.len:=by have:=Hn.out;omega
    have:=I.out
    rw[e,wpre_all V _ _ hl]at this
    rw[V.sem_list]
    exact this
theorem walk_file{σ:Type}{T:TypeId}{x:Value}{F:Nat}{rcv:Value}{M:Nat→Prop}{Inv:σ→World→Prop}{sem step:A→σ→σ}{PA:A→σ→Prop}{SK:K→Bool}(V:Vis σ T x F rcv M Inv sem step PA SK){f0:A}{w:World}{D:Nat→Prop}{b:Nat}{v0:Value}{s:σ}
 (ho:w.heap[b]?=some (.cells #[v0] 91 (0,0))) (hb:¬ M b) (r0:Rep w D (f0.g 2 .fin) [v0]) (hD:∀ b,D b→¬ M b) (c0:∃ g n c,v0=.slice g n c) (pa:PA f0 s) (W0:WalkLOk T x M Inv sem PA 100 f0)
 (hV:Calls Tryz.prog F #[rcv,.iface 83 (.pointer (some ⟨b,0,none⟩))] w (fun e w'=>e=.returned (.iface T x)∧Inv s w'∧Kept M w w')) :
 Calls Tryz.prog 59 #[.iface T x,.iface 83 (.pointer (some ⟨b,0,none⟩))] w (fun e w'=>e=.returned (.tuple #[])∧Inv (sem f0 s) w'∧Kept M w w'):=by
 obtain⟨g0,n0,c0,rfl⟩:=c0
 have HV:=Lib.hid hV
 have HL:=Lib.hid V.leave
 have HD:=Lib.hid hD
 have Ho:=Lib.hid ho
 have HR0:=Lib.hid r0
 have HW0:=Lib.hid W0
 have PA0:=Lib.hid pa
 have zb:b<w.heap.size:=lt_of_heap ho
 clear hV hD ho r0 W0 pa
 have hm:=V.meth
 have he:=V.ent
 have t_File:∀ w,(Instr.typeAssert (.iface 83 (.pointer (some ⟨b,0,none⟩))) 74 83 true).run Tryz.prog w=.ok (.tuple #[.pointer (some ⟨b,0,none⟩),.bool true]) w:=fun w=>assert_yes un_File _ _ w
 go_enter Tryz.func59,Tryz.ntmps59
 go_wp2_with fail
 refine HV.out.mono ?_
 rintro e w1 ⟨rfl,I,K1⟩
 have HI:=Lib.hid I
 have o1:=K1.obj Ho.out hb
 have z1:b<w1.heap.size:=lt_of_heap o1
 clear I
 have p0:=cell_of_cells (cs:=[_]) o1 0 rfl
 go_wp2_with fail
 refine(HW0.out _ D _ _ PA0.out (HR0.out.kept K1 HD.out) HD.out HI.out).mono ?_
 rintro e w2 ⟨rfl,I,K2⟩
 have HI:=Lib.hid I
 clear I
 go_wp2_with fail
 refine(HL.out _ _ HI.out).mono ?_
 rintro e w3 ⟨rfl,I,K3⟩
 have HI:=Lib.hid I
 clear I
 go_wp2_with fail
 go_end0
 exact⟨rfl,HI.out,(K1.trans K2).trans K3⟩
end Go.Proofs.YtleolbpibjnedaaGreat
namespace Gc
open Go
def declsN:List (Str×N)→N
 | []=>.nil
 | p :: l=>.cons (N.func p.1 p.2) (declsN l)
end Gc
namespace Go.Proofs.YtleolbpibjnedaaGreat
open Go Go.RowKit Gc
theorem W_decls{σ:Type}{T:TypeId}{x:Value}{F:Nat}{rcv:Value}{M:Nat→Prop}{Inv:σ→World→Prop}{sem step:A→σ→σ}{PA:A→σ→Prop}{SK:K→Bool}(V:Vis σ T x F rcv M Inv sem step PA SK) :
 ∀ fl:List (Str×N),(∀ p∈fl,Gc.V .Ss p.2∧p.2.cost≤100000)→∀ l:A,l.N=declsN fl→l.isList∧∀ j,j<l.len→(l.get j).isn∧WalkOk T x M Inv sem PA (l.get j)
 | [],_=>GoodW_nil rfl
 | p :: fl,h=>GoodW_cons (k:=.func) (fun _ e=>W_func V (h p (by simp)).1 (h p (by simp)).2 e) (W_decls V fl fun q hq=>h q (by simp[hq]))
theorem decls_len:∀ (fl:List (Str×N)) (l:A),l.N=declsN fl→l.len=fl.length
 | [],l,e=>by cases l<;>simp[A.N,declsN]at e;rfl
 | p :: fl,l,e=>by
   cases l with
   | cons a t =>
     simp only[A.N,declsN,Gc.N.cons.injEq]at e
     simp only[A.len,List.length_cons,decls_len fl t e.2]
   | nil=>simp[A.N,declsN]at e
   | n=>simp[A.N,declsN]at e
theorem places_visZ(c mb B:Nat):Vis Unit 337 (.func (Fn.func 57) #[] #[.pointer (some ⟨c,0,none⟩)]) 238 (.func (Fn.func 57) #[] #[.pointer (some ⟨c,0,none⟩)]) (fun b=>B≤b) (PInvZ c mb B) (A.walk fun _ u=>u) (fun _ u=>u) (fun _ _=>True) (fun _=>true) :=
 Vis.any (meth_insp _ _ _) ent_insp (fun a w D v s hv hR hD hI=>inspect_visitZ c mb B v w hI (.inr (key_of hv hR hD).z)) (fun w s hI=>inspect_visitZ c mb B _ w hI (.inl rfl))
theorem inspect_file{l:A}{fl:List (Str×N)}(hg:∀ p∈fl,Gc.V .Ss p.2∧p.2.cost≤100000)(hn:fl.length≤100000)(h:l.N=declsN fl)(c mb B b:Nat)(v0:Value)(w:World)(D:Nat→Prop)(ho:w.heap[b]?=some (.cells #[v0] 91 (0,0)))(hb:b<B)
 (hR:Rep w D (l.g 3 .fin) [v0]) (hD:∀ b,D b→¬ B≤b) (hI:PInvZ c mb B () w) :
 Calls Tryz.prog 56 #[.iface 83 (.pointer (some ⟨b,0,none⟩)),.func (Fn.func 57) #[] #[.pointer (some ⟨c,0,none⟩)]] w (fun e w'=>e=.returned (.tuple #[])∧PInvZ c mb B () w'∧Kept (fun b=>B≤b) w w'):=by
 obtain⟨h1,h2⟩:=W_decls (places_visZ c mb B) fl hg l h
 have hl:l.len≤100000:=by rw[decls_len fl l h];exact hn
 have r2:Rep w D ((A.n .list sE 0 none 0 l .nil .nil .nil).g 2 .fin) [v0]:=⟨_,[],rfl,hR,rfl⟩
 have hs:∃ g n c,v0=.slice g n c:=by
  obtain⟨a,c,e,-⟩:=list_valA h1 hR
  exact⟨_,_,_,e⟩
 have W:=walk_file (places_visZ c mb B) ho (by omega) r2 hD hs (s:=()) trivial (walkList_D (places_visZ c mb B) sE 0 none 0 l .nil .nil .nil h1 h2 hl) (inspect_visitZ c mb B _ w hI (.inr ⟨_,b,_,_,file_ok,rfl,ho,hb⟩))
 have HW:=Lib.hid W
 clear W hI ho hR r2 hs h1 h2 h
 go_enter Tryz.func56,Tryz.ntmps56
 go_wp2_with fail
 refine HW.out.mono ?_
 rintro e w1 ⟨rfl,I,K⟩
 have HI1:=Lib.hid I
 clear I
 go_wp2_with fail
 go_end0
 exact⟨rfl,HI1.out,K⟩
theorem places_file{l:A}{fl:List (Str×N)}(hg:∀ p∈fl,Gc.V .Ss p.2∧p.2.cost≤100000)(hn:fl.length≤100000)(h:l.N=declsN fl)(b:Nat)(v0:Value)(w:World)(D:Nat→Prop)(ho:w.heap[b]?=some (.cells #[v0] 91 (0,0)))(hR:Rep w D (l.g 3 .fin) [v0]) :
 Calls Tryz.prog 34 #[.iface 83 (.pointer (some ⟨b,0,none⟩))] w (fun e w'=>∃ mb,e=.returned (.map (some mb))∧Kept (fun _=>False) w w'):=by
 have hmm:=@run_makeMap Tryz.prog
 have hmf:∀ (fn:Fn) (first cap:Array Value) (w:World),(Instr.makeFunc fn first cap).run Tryz.prog w=.ok (.func fn first cap) w:=fun _ _ _ _=>rfl
 have HR:=Lib.hid hR
 have Hh:=Lib.hid h
 have HG:=Lib.hid hg
 have HO:=Lib.hid ho
 have zb:b<w.heap.size:=lt_of_heap ho
 clear hR h hg ho
 go_enter Tryz.func34,Tryz.ntmps34
 go_wp2_with fail
 have hm:PMapZ ((w.alloc (.map #[] 0)).alloc (.cells #[.map (some w.heap.size)] 55)) w.heap.size w.heap.size:=(PMapZ.new w _).same keptA
 have hI:PInvZ (w.heap.size+1) w.heap.size w.heap.size () ((w.alloc (.map #[] 0)).alloc (.cells #[.map (some w.heap.size)] 55)):=⟨heap2_1 w _ _,hm,Nat.le_refl _⟩
 have HI:=Lib.hid hI
 clear hm hI
 have kA:Kept (fun _=>False) w ((w.alloc (.map #[] 0)).alloc (.cells #[.map (some w.heap.size)] 55)):=keptA.trans keptA
 refine(inspect_file HG.out hn Hh.out _ _ w.heap.size b v0 _ (fun b=>b<w.heap.size) (kA.obj HO.out (fun f=>f)) zb ((HR.out.imp fun b hb _=>hb).kept kA (fun _ _ f=>f)) (fun b hb=>by omega) HI.out).mono ?_
 rintro e w1 ⟨rfl,I,K⟩
 have p0:=cell_of_cells (cs:=[_]) I.1 0 rfl
 have z0:w.heap.size+1<w1.heap.size:=lt_of_heap I.1
 clear I
 go_wp2_with fail
 go_ret
 exact⟨w.heap.size,rfl,((kA.mono (M':=fun b=>False∨w.heap.size≤b) fun _ _ f=>f.elim).trans (K.mono fun b _ h=>.inr (by omega))).fresh (Nat.le_refl _)⟩
theorem asD_func(v:Value)(S:TypeId)(w:World):(Instr.typeAssert (.iface 54 v) S 93 true).run Tryz.prog w=.ok (.tuple #[.iface 54 v,.bool true]) w:=by kernel_rfl
def isD(k:K):Prop:=k=.func
theorem asD_any(k:K)(hk:isD k)(v:Value)(S:TypeId)(w:World):(Instr.typeAssert (.iface k.pty v) S 93 true).run Tryz.prog w=.ok (.tuple #[.iface k.pty v,.bool true]) w:=by
 obtain rfl:k=.func:=hk
 exact asD_func v S w
theorem must_Decl(kids:N)(j:Nat)(k:K)(hk:isD k)(hj:j<kids.len)(hl:kids.isList)(hall:kids.All Gc.N.isN)(hN:NodeB (kids.get j) k)(w:World)(D:Nat→Prop)(bb mb:Nat)(left depth:Int)(f:Int→Option Addr)(kd tx:Str)(i:Int)(a:Option Addr)(c c':Nat)
 (hR:Rep w D kids.g [.slice a c c']) (hD:∀ b,D b→¬ Two bb mb b) (hB:Bld w bb mb left depth f) (hcost:((kids.get j).cost:Int)≤left) (hdeep:depth+(kids.get j).deep≤60) (J:Int) (hJ:J=j) (hmax:kids.len≤100000) :
 Calls Tryz.prog 48 #[.pointer (some ⟨bb,0,none⟩),.agg #[.string kd,.string tx,.int .i64 i,.slice a c c'],.int .i64 J] w (MadeP w bb mb (kids.get j) k 1 (left-(kids.get j).cost) depth f):=by
 subst hJ
 have hc:=kid_slice hl hR
 have hcm:c≤100000:=by omega
 have hjc:(j:Int)<c:=by omega
 obtain⟨g,o,rfl⟩:=slice_someN hl hR (by omega)
 obtain⟨kd',tx',i',a',n',c'',kids',he,hl',hR',_,hg,p0,p1,p2,p3⟩:=rep_at_N (k:=j) hR hl hall hj
 have HN:=Lib.hid hN
 have He:=Lib.hid he
 have HR':=Lib.hid hR'
 have HD:=Lib.hid hD
 have HB:=Lib.hid hB
 clear hN he hR' hD hB hR hc
 go_enter Tryz.func48,Tryz.ntmps48
 go_wp2_with fail
 have kA:Kept (fun _=>False) w (w.alloc (.cells #[.string kd,.string tx,.int .i64 i,.slice (some ⟨g,o,none⟩) c c'] 30)):=keptA
 refine(HN.out kd' tx' i' kids' He.out _ D bb mb left depth f a' n' c'' (HR'.out.kept kA (fun _ _ f=>f)) HD.out (HB.out.kept kA (fun f=>f) (fun f=>f)) hcost hdeep).mono ?_
 rintro e w1 ⟨x,v,f',rfl,hxN,hxK,R1,B1,E1,O1,L1,K1⟩
 have hkr:k.real:=by obtain rfl:k=.func:=hk;trivial
 obtain⟨b,rfl,hbD⟩:=iface_of hxK hkr R1
 have ta:=asD_any k hk (.pointer (some ⟨b,0,none⟩)) 74 w1
 have HxN:=Lib.hid hxN
 have HxK:=Lib.hid hxK
 have HR1:=Lib.hid R1
 have HB1:=Lib.hid B1
 have HE1:=Lib.hid E1
 have HO1:=Lib.hid O1
 clear hxN hxK R1 B1 E1 O1
 go_wp2_with fail
 go_ret
 exact MadeP.up kA ⟨x,_,f',rfl,HxN.out,HxK.out,HR1.out,HB1.out,HE1.out,HO1.out,L1,K1⟩
end Go.Proofs.YtleolbpibjnedaaGreat
namespace Gc
open Go
theorem declsN_isList:∀ fl:List (Str×N),(declsN fl).isList
 | []=>trivial
 | _ :: fl=>declsN_isList fl
theorem declsN_len:∀ fl:List (Str×N),(declsN fl).len=fl.length
 | []=>rfl
 | _ :: fl=>by simp[declsN,N.len,declsN_len fl]
theorem declsN_get:∀ (fl:List (Str×N)) (k:Nat) (h:k<fl.length),(declsN fl).get k=N.func fl[k].1 fl[k].2
 | _ :: _,0,_=>rfl
 | _ :: fl,k+1,h=>by simpa [declsN,N.get]using declsN_get fl k (by simpa using h)
 | [],_,h=>by simp at h
theorem declsN_all:∀ fl:List (Str×N),(declsN fl).All Gc.N.isN
 | []=>trivial
 | p :: fl=>⟨by trivial,declsN_all fl⟩
structure FlOk2 (fl:List (Str×N)):Prop where
 good:∀ p∈fl,V .Ss p.2∧p.2.cost≤100000
 cost:(declsN fl).cost≤2000
 deep:∀ p∈fl,(N.func p.1 p.2).deep≤60
 few:fl.length≤1000
end Gc
namespace Go.Proofs.YtleolbpibjnedaaGreat
open Go Go.RowKit Gc
theorem ul_sDecl:Tryz.prog.underlying 89=some (.slice 93):=by kernel_rfl
theorem info_Decl:(Tryz.prog.info? 93).map (fun i=>(i.zero,i.size,i.bytes))=some (some .nilIface,1,16):=by kernel_rfl
structure FileI (w:World) (D:Nat→Prop) (fb:Nat) (fl:List (Str×N)) (xs:A) (f:Int→Option Addr) (a:Option Addr) (c:Nat):Prop where
 obj:w.heap[fb]?=some (.cells #[.slice a fl.length c] 91 (0,0))
 db:D fb
 rep:Rep w D (xs.g 3 .fin) [.slice a fl.length c]
 nn:xs.N=declsN fl
 objs:xs.objs f
 nd:xs.blocks.Nodup
theorem FileI.kept{w w':World}{D:Nat→Prop}{fb:Nat}{fl:List (Str×N)}{xs:A}{f:Int→Option Addr}{a:Option Addr}{c:Nat}(F:FileI w D fb fl xs f a c){M:Nat→Prop}(hk:Kept M w w')(hD:∀ b,D b→¬ M b):FileI w' D fb fl xs f a c :=
 ⟨hk.obj F.obj (hD _ F.db),F.db,F.rep.kept hk hD,F.nn,F.objs,F.nd⟩
theorem FileI.imp{w:World}{D D':Nat→Prop}{fb:Nat}{fl:List (Str×N)}{xs:A}{f:Int→Option Addr}{a:Option Addr}{c:Nat}(F:FileI w D fb fl xs f a c)(hD:∀ b,b<w.heap.size→D b→D' b):FileI w D' fb fl xs f a c :=
 ⟨F.obj,hD _ (lt_of_heap F.obj) F.db,F.rep.imp hD,F.nn,F.objs,F.nd⟩
def TreeP(w:World)(fl:List (Str×N))(e:Ending)(w':World):Prop :=
 ∃ (fb mp:Nat) (xs:A) (f:Int→Option Addr) (a:Option Addr) (c:Nat),e=.returned (.tuple #[.pointer (some ⟨fb,0,none⟩),.map (some mp),.bool true])∧FileI w' (fun b=>w.heap.size≤b) fb fl xs f a c∧Kept (fun _=>False) w w'
structure TrI (W0:World) (fb bb mb:Nat) (l:N) (k:Nat) (a:Option Addr) (cap:Nat) (xs:A) (f':Int→Option Addr) (wr:World):Prop where
 own:OwnL wr (fun b=>W0.heap.size≤b) W0.heap.size 93 1 (.slice a k cap) (xs.g 3 .fin)
 isl:xs.isList
 len:xs.len=k
 nn:xs.N=l.pre k
 bld:Bld wr bb mb (2000-(l.pre k).cost) 0 f'
 objs:xs.objs f'
 lin:LIn xs.blocks W0.heap.size wr.heap.size
 kept:Kept (fun b=>(Two bb mb b∨b=fb)∨W0.heap.size≤b) W0 wr
 obj:wr.heap[fb]?=some (.cells #[.slice a k cap] 91 (0,0))
theorem TrI.app{W0 wr w0 w2:World}{fb bb mb:Nat}{l:N}{f':Int→Option Addr}{k:Nat}{a:Option Addr}{cap:Nat}{xs:A}(I:TrI W0 fb bb mb l k a cap xs f' wr)(hbb:bb<W0.heap.size)(hmb:mb<W0.heap.size)(h0:Kept (fun _=>False) wr w0)
 (hk:Kept (Two bb mb) w0 w2) {x:A} {v:Value} (R:Rep w2 (fun b=>w0.heap.size≤b) (x.g 1 .fin) [v]) {w3:World} (h3:Kept (fun _=>False) w2 w3) :
 OwnL w3 (fun b=>W0.heap.size≤b) W0.heap.size 93 1 (.slice a k cap) (xs.g 3 .fin)∧Rep w3 (fun b=>W0.heap.size≤b∧some b≠(Value.slice a k cap).ownBlock) (x.g 1 .fin) [v]∧W0.heap.size≤w2.heap.size∧(xs.g 3 .fin).len=k:=by
 have h4:Kept (Two bb mb) wr w3:=((h0.mono fun _ _ f=>f.elim).trans hk).trans (h3.mono fun _ _ f=>f.elim)
 have s0:=I.kept.size
 have s1:=hk.size
 have s2:=h0.size
 refine⟨I.own.kept h4 (fun b e=>fun h=>?_) (fun b hb h=>?_),(R.kept h3 (fun _ _ f=>f)).imp fun b _ hb=>⟨by omega,fun e=>?_⟩,by omega,by rw[A.g_len _ I.isl,I.len]⟩
 · have:=I.own.lt b e
   rcases h with h|h<;>omega
 · rcases h with h|h<;>omega
 · have:=I.own.lt b e.symm
   omega
theorem TrI.next{W0 wr w0 w2 w3 w4:World}{fb bb mb:Nat}{l:N}{f' f2:Int→Option Addr}{k:Nat}{a:Option Addr}{cap g cap':Nat}{xs:A}(I:TrI W0 fb bb mb l k a cap xs f' wr)(hbb:bb<W0.heap.size)(hmb:mb<W0.heap.size)(hfb:fb<W0.heap.size)(hfn:¬ Two bb mb fb)(hkl:k<l.len)
 {x:A} (hxN:x.N=l.get k) (h0:Kept (fun _=>False) wr w0) (B2:Bld w2 bb mb (2000-(l.pre k).cost-(l.get k).cost) 0 f2) (E2:Ext f' f2) (O2:x.objs f2) (L2:LIn x.blocks w0.heap.size w2.heap.size) (hk:Kept (Two bb mb) w0 w2) (h3:Kept (fun _=>False) w2 w3)
 (O4:OwnL w4 (fun b=>W0.heap.size≤b) W0.heap.size 93 1 (.slice (some ⟨g,0,none⟩) (k+1) cap') ((xs.g 3 .fin).snoc (x.g 1 .fin))) (K4:Kept (fun b=>some b=(Value.slice a k cap).ownBlock) w3 w4) :
 TrI W0 fb bb mb l (k+1) (some ⟨g,0,none⟩) cap' (xs.snoc x) f2 (w4.setCell ⟨fb,0,none⟩ (.slice (some ⟨g,0,none⟩) (k+1) cap')):=by
 have hc:=N.cost_pre l k hkl
 have s0:=I.kept.size
 have s1:=hk.size
 have s2:=h0.size
 have s3:=h3.size
 have s4:=K4.size
 have ho:∀ b,some b=(Value.slice a k cap).ownBlock→W0.heap.size≤b:=fun b e=>(I.own.lt b e.symm).1
 have K24:Kept (fun b=>some b=(Value.slice a k cap).ownBlock) w2 w4:=(h3.mono fun _ _ f=>f.elim).trans K4
 have kS:Kept (fun b=>b=fb) w4 (w4.setCell ⟨fb,0,none⟩ (.slice (some ⟨g,0,none⟩) (k+1) cap')):=Kept.set1e
 have K02:Kept (Two bb mb) wr w2:=(h0.mono fun _ _ f=>f.elim).trans hk
 have sS:=kS.size
 have hfo:w4.heap[fb]?=some (.cells #[.slice a k cap] 91 (0,0)):=K24.obj (K02.obj I.obj hfn) fun e=>by have:=ho _ e;omega
 refine⟨?_,A.isList_snoc _ _ I.isl,by rw[A.len_snoc _ _ I.isl,I.len],by rw[A.N_snoc _ _ I.isl,I.nn,hxN,N.pre_succ _ _ hkl],?_,A.objs_snoc _ _ I.isl (A.objs_ext E2 _ I.objs) O2,?_,?_,?_⟩
 · rw[A.g_snoc _ _ I.isl]
   exact O4.kept kS (fun b e h=>by have:=O4.lt b e;omega) (fun b hb h=>by omega)
 · have e:(2000:Int)-((l.pre (k+1)).cost:Int)=2000-(l.pre k).cost-(l.get k).cost:=by omega
   rw[e]
   exact(B2.kept K24 (fun h=>by have:=ho _ h;omega) (fun h=>by have:=ho _ h;omega)).kept kS (fun h=>hfn (.inl h.symm)) (fun h=>hfn (.inr h.symm))
 · rw[A.blocks_snoc _ _ I.isl]
   exact LIn.append I.lin (L2:LIn x.blocks w0.heap.size w2.heap.size) (by omega) (by omega) (by omega) |> fun h=>⟨h.1,fun b hb=>by have:=h.2 b hb;omega⟩
 · exact((I.kept.trans (K02.mono (M':=fun b=>(Two bb mb b∨b=fb)∨W0.heap.size≤b) fun b _ h=>.inl (.inl h))).trans (K24.mono fun b _ h=>.inr (ho b h))).trans (kS.mono fun b _ h=>.inl (.inr h))
 · exact set_of_cells (cs:=[_]) hfo 0 _
theorem tree_any(fl:List (Str×N))(ok:FlOk2 fl)(w:World)(D:Nat→Prop)(tx:Str)(i:Int)(a:Option Addr)(c c':Nat)(hR:Rep w D (declsN fl).g [.slice a c c']) :
 Calls Tryz.prog 30 #[.agg #[.string ⟨#[70,105,108,101]⟩,.string tx,.int .i64 i,.slice a c c']] w (TreeP w fl):=by
 have hl:=declsN_isList fl
 have hcl:=kid_slice hl hR
 rw[declsN_len]at hcl
 obtain⟨n,hn⟩:∃ n,n=fl.length:=⟨_,rfl⟩
 rw[← hn]at hcl
 have hcl':=hcl.symm
 subst hcl'
 have hfew:=ok.few
 rw[← hn]at hfew
 have hcost:=ok.cost
 have hmm:=@run_makeMap Tryz.prog
 have HR:=Lib.hid hR
 have Hn:=Lib.hid hn
 have HOk:=Lib.hid ok
 obtain⟨i0,hi,hz0,hz1,hz2⟩:=info_parts info_Decl
 clear hR hn ok
 go_enter Tryz.func30,Tryz.ntmps30
 go_wp2_with fail
 obtain⟨W0,hW0⟩:∃ W0,W0=(((w.alloc (.cells #[.string ⟨#[70,105,108,101]⟩,.string tx,.int .i64 i,.slice a n c'] 30)).alloc (.map #[] 0)).alloc (.cells #[.bool false,.int .i64 2000,.int .i64 0,.map (some (w.heap.size+1))] 99)).alloc (.cells #[.slice none 0 0] 91):=⟨_,rfl⟩
 have K0:Kept (fun _=>False) w W0:=by rw[hW0];exact((keptA.trans keptA).trans keptA).trans keptA
 have z0:W0.heap.size=w.heap.size+4:=by rw[hW0];simp
 have on:W0.heap[w.heap.size]?=some (.cells #[.string ⟨#[70,105,108,101]⟩,.string tx,.int .i64 i,.slice a n c'] 30 (0,0)):=by rw[hW0];exact(keptA (M:=fun _=>False)).obj (heap3_0 w _ _ _) (fun f=>f)
 have ob:W0.heap[w.heap.size+1+1]?=some (.cells #[.bool false,.int .i64 2000,.int .i64 0,.map (some (w.heap.size+1))] 99 (0,0)):=by rw[hW0];exact(keptA (M:=fun _=>False)).obj (heap3_2 w _ _ _) (fun f=>f)
 have of:W0.heap[w.heap.size+1+1+1]?=some (.cells #[.slice none 0 0] 91 (0,0)):=by
  rw[hW0]
  exact heap_new_at (by simp) _
 have hm:MapI W0 (w.heap.size+1) (fun _=>none):=by
  rw[hW0]
  have:=MapI.new (w.alloc (.cells #[.string ⟨#[70,105,108,101]⟩,.string tx,.int .i64 i,.slice a n c'] 30))
  simp only[World.size_alloc]at this
  exact(this.kept (keptA (M:=fun _=>False)) (fun f=>f)).kept (keptA (M:=fun _=>False)) (fun f=>f)
 have B0:Bld W0 (w.heap.size+1+1) (w.heap.size+1) 2000 0 (fun _=>none):=⟨ob,hm,by omega,by omega,by omega,by omega,by omega⟩
 have I0:TrI W0 (w.heap.size+1+1+1) (w.heap.size+1+1) (w.heap.size+1) (declsN fl) 0 none 0 .nil (fun _=>none) W0 :=
  ⟨OwnL.nil _ _ _ _ _,trivial,rfl,by rw[N.pre_zero];rfl,by rw[N.pre_zero];simpa only[N.cost,Int.natCast_zero,Int.sub_zero]using B0,trivial,LIn.nil,Kept.refl _ _,of⟩
 obtain⟨x0,x1,x2,x3,-⟩:=slot4 on
 have HI0:=Lib.hid I0
 rw[← hW0]
 clear hW0 hm B0 I0 ob of on
 go_loopw [19] (fun t wr=>∃ (k:Nat) (a:Option Addr) (cap:Nat) (xs:A) (f':Int→Option Addr),k≤n∧t=.int .i64 k∧RowKit.Hid (TrI W0 (w.heap.size+1+1+1) (w.heap.size+1+1) (w.heap.size+1) (declsN fl) k a cap xs f' wr)) (fun t _=>(n-intOf t).toNat)
 case atStart=>exact⟨0,_,0,.nil,_,by omega,rfl,HI0⟩
 case round =>
  clear HI0
  obtain⟨k,a',cap,xs,f',hk,rfl,HI⟩:=hrel
  have I:=HI.out
  have s0:=I.kept.size
  have hnb:∀ i,¬ ((Two (w.heap.size+1+1) (w.heap.size+1) (⟨w.heap.size,i,none⟩:Addr).block∨(⟨w.heap.size,i,none⟩:Addr).block=w.heap.size+1+1+1)∨W0.heap.size≤(⟨w.heap.size,i,none⟩:Addr).block):=fun i h=>by simp only[Two]at h;omega
  have q0:=I.kept.cell x0 (hnb _)
  have q1:=I.kept.cell x1 (hnb _)
  have q2:=I.kept.cell x2 (hnb _)
  have q3:=I.kept.cell x3 (hnb _)
  have y0:=cell_of_cells (cs:=[_]) I.obj 0 rfl
  have y1:=free_of_cells I.obj 0
  have zf:w.heap.size+1+1+1<wr.heap.size:=lt_of_heap I.obj
  obtain⟨b0,b1,b2,b3,-⟩:=slot4 I.bld.obj
  have zb:w.heap.size+1+1<wr.heap.size:=by omega
  have zn:w.heap.size<wr.heap.size:=by omega
  by_cases hlt:(k:Int)<n
  · have hkl:k<fl.length:=by have:=Hn.out;omega
    have hkl':k<(declsN fl).len:=by rw[declsN_len];exact hkl
    have hget:=declsN_get fl k hkl
    have hNk:NodeB ((declsN fl).get k) .func:=by rw[hget];exact func_ok _ _ (HOk.out.good _ (List.getElem_mem hkl)).1 (HOk.out.good _ (List.getElem_mem hkl)).2
    have hdk:((declsN fl).get k).deep≤60:=by rw[hget];exact HOk.out.deep _ (List.getElem_mem hkl)
    have hcp:=N.cost_pre (declsN fl) k hkl'
    have HNk:=Lib.hid hNk
    have Hkl:=Lib.hid hkl'
    obtain⟨nk,hnk⟩:∃ nk,nk=(declsN fl).get k:=⟨_,rfl⟩
    rw[← hnk]at HNk hdk hcp
    have Hnk:=Lib.hid hnk
    clear I hget hNk hkl' hkl hnk b0 b1 b2 b3
    go_upto_region 8 with fail
    have kR:Kept (fun _=>False) wr wr.drew:=keptD
    have B:Bld wr.drew (w.heap.size+1+1) (w.heap.size+1) (2000-((declsN fl).pre k).cost) 0 f':=HI.out.bld.kept kR (fun f=>f) (fun f=>f)
    have kk:Kept (Two (w.heap.size+1+1) (w.heap.size+1)) wr.drew wr.drew:=Kept.refl _ _
    have HRW:=Lib.hid (((HR.out.imp (D':=fun b=>b<w.heap.size) fun b hb _=>hb).kept K0 (fun _ _ f=>f)).kept (HI.out.kept.trans (kR.mono fun _ _ f=>f.elim)) (fun b hb h=>by simp only[Two]at h;omega))
    obtain⟨row,hrow⟩:∃ row,row=(Value.slice a' k cap).ownBlock:=⟨_,rfl⟩
    have hrl:∀ b,some b=row→W0.heap.size≤b:=fun b e=>(HI.out.own.lt b (by rw[← hrow,e])).1
    have rule:∀ wx:World,Kept (fun b=>Two (w.heap.size+1+1) (w.heap.size+1) b∨some b=row) wr.drew wx→wx.cell? ⟨w.heap.size+1+1+1,0,none⟩=some (.slice a' k cap)∧wx.frozen? ⟨w.heap.size+1+1+1,0,none⟩=false∧w.heap.size+1+1+1<wx.heap.size ∧
     wx.cell? ⟨w.heap.size,0,none⟩=some (.string ⟨#[70,105,108,101]⟩)∧wx.cell? ⟨w.heap.size,1,none⟩=some (.string tx)∧wx.cell? ⟨w.heap.size,2,none⟩=some (.int .i64 i)∧wx.cell? ⟨w.heap.size,3,none⟩=some (.slice a n c')∧w.heap.size<wx.heap.size:=fun wx hx=>by
     have hf:¬ (Two (w.heap.size+1+1) (w.heap.size+1) (w.heap.size+1+1+1)∨some (w.heap.size+1+1+1)=row):=fun h=>by
      rcases h with h|h
      · simp only[Two]at h;omega
      · have:=hrl _ h;omega
     have hn:∀ i,¬ (Two (w.heap.size+1+1) (w.heap.size+1) (⟨w.heap.size,i,none⟩:Addr).block∨some (⟨w.heap.size,i,none⟩:Addr).block=row):=fun i h=>by
      rcases h with h|h
      · simp only[Two]at h;omega
      · have:=hrl _ h;simp only[]at this;omega
     have o:=hx.obj (kR.obj HI.out.obj (fun f=>f)) hf
     have hz:=hx.size
     have hz':=kR.size
     exact⟨cell_of_cells (cs:=[_]) o 0 rfl,free_of_cells o 0,lt_of_heap o,hx.cell (kR.cell q0 (fun f=>f)) (hn _),hx.cell (kR.cell q1 (fun f=>f)) (hn _),hx.cell (kR.cell q2 (fun f=>f)) (hn _),hx.cell (kR.cell q3 (fun f=>f)) (hn _),by omega⟩
    have Hrl:=Lib.hid hrl
    have Hrow:=Lib.hid hrow
    clear q0 q1 q2 q3 y0 y1 hrl hnb hrow
    have hS:Kept (fun b=>Two (w.heap.size+1+1) (w.heap.size+1) b∨some b=row) wr.drew wr.drew:=Kept.refl _ _
    go_region_law (first
     | (have _h:=R2;go_must (refine step_append_one (D:=fun b=>W0.heap.size≤b) (base:=W0.heap.size) (v:=.slice a' k cap) rfl (.tmp 26) (.tmp 31) 89 rfl i0 _ 16 ul_sDecl hi hz0 hz1 hz2 rfl rfl (HI.out.app (by omega) (by omega) kR K2 R2 (by first | exact keptAD | exact keptA)).1 k (HI.out.app (by omega) (by omega) kR K2 R2 (Kept.refl _ _)).2.2.2 ⟨w2.heap.size,0,none⟩ 1 rfl (x.g 1 .fin) [.iface 54 (.pointer (some ⟨bd,0,none⟩))] rfl ?nc (fun u hu=>by rw[List.mem_singleton.1 hu];rfl) (HI.out.app (by omega) (by omega) kR K2 R2 (by first | exact keptAD | exact keptA)).2.1 (by omega) (by omega) (by have:=(HI.out.app (by omega) (by omega) kR K2 R2 (Kept.refl _ _)).2.2.1;simp;omega) ?_);(case nc=>exact new_cells w2 _ _);intro g4 cap' w4 O4 K4 hb4 hg4;have hS:Kept (fun b=>Two (w.heap.size+1+1) (w.heap.size+1) b∨some b=row) wr.drew w4:=((kk.mono fun b _ h=>.inl h).trans (by first | exact keptAD | exact keptA)).trans (K4.mono fun b _ e=>.inr (by rw[Hrow.out];exact e)))
     | (go_simp;go_at_call 48;go_must (refine(must_Decl (declsN fl) k .func rfl Hkl.out (declsN_isList fl) (declsN_all fl) (by rw[← Hnk.out];exact HNk.out) _ (fun b=>b<w.heap.size) (w.heap.size+1+1) (w.heap.size+1) (2000-((declsN fl).pre k).cost) 0 f' _ _ _ _ _ _ HRW.out (fun b hb h=>by simp only[Two]at h;omega) B ?c1 ?c2 _ rfl (by rw[declsN_len];have:=HOk.out.few;omega)).mono ?_);(case c1=>(rw[← Hnk.out];omega));(case c2=>(rw[← Hnk.out];omega));rintro e w2 ⟨x,v,f2,rfl,hxN,hxK,R2,B2,E2,O2,L2,K2⟩;obtain⟨bd,rfl,-⟩:=iface_of hxK trivial R2;have kk:=kk.trans K2;have hS:Kept (fun b=>Two (w.heap.size+1+1) (w.heap.size+1) b∨some b=row) wr.drew w2:=kk.mono fun b _ h=>.inl h))
    all_goals go_wp2_with fail
    all_goals
     have I':=HI.out.next (by omega) (by omega) (by omega) (fun h=>by simp only[Two]at h;omega) Hkl.out hxN kR B2 E2 O2 L2 K2 (by first | exact keptAD | exact keptA) O4 K4
     refine⟨⟨k+1,_,_,_,_,by omega,by go_num,Lib.hid I'⟩,?_⟩
     simp[intOf];omega
  · have hkn:k=n:=by omega
    subst hkn
    have hpa:=N.pre_all (declsN fl) (declsN_isList fl)
    have hnn:xs.N=declsN fl:=by rw[I.nn];rw[show k=(declsN fl).len by rw[declsN_len];exact Hn.out];exact hpa
    have HRp:=Lib.hid (I.own.rep (D:=fun b=>W0.heap.size≤b) (fun b h0 _=>h0))
    have Hnn:=Lib.hid hnn
    clear I hnn hpa
    go_wp2_with fail
    refine(places_file HOk.out.good (by rw[← Hn.out];omega) Hnn.out (w.heap.size+1+1+1) _ wr (fun b=>W0.heap.size≤b) HI.out.obj HRp.out).mono ?_
    rintro e w2 ⟨mp,rfl,K2⟩
    go_wp2_with fail
    go_ret3
    refine⟨w.heap.size+1+1+1,mp,xs,f',a',cap,rfl,⟨?_,by omega,?_,Hnn.out,HI.out.objs,HI.out.lin.1⟩,?_⟩
    · rw[← Hn.out]
      exact K2.obj HI.out.obj (fun f=>f)
    · rw[← Hn.out]
      exact(HRp.out.kept K2 (fun _ _ f=>f)).imp fun b _ hb=>by omega
    · exact(((K0.mono (M':=fun b=>False∨w.heap.size≤b) fun _ _ f=>f.elim).trans (HI.out.kept.mono fun b _ h=>.inr (by simp only[Two]at h;omega))).trans (K2.mono fun _ _ f=>f.elim)).fresh (Nat.le_refl _)
end Go.Proofs.YtleolbpibjnedaaGreat
