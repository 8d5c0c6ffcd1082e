/- The builder of syntax: its state, and what its functions make. -/
import Derived.Test.YtleolbpibjnedaaGreatQBase
import Derived.Maps.Keyed
set_option linter.unusedSimpArgs false
set_option linter.unusedVariables false
set_option maxRecDepth 100000
set_option maxHeartbeats 4000000
namespace Go.Proofs.YtleolbpibjnedaaGreat
open Go Go.RowKit Gc
theorem ul_mapO:Tryz.prog.underlying 97=some (.map 3 126):=by kernel_rfl
theorem ul_int:Tryz.prog.underlying 3=some (.int .i64):=by kernel_rfl
theorem zero_pO(w:World):(zeroValue 126).run Tryz.prog w=.ok (.pointer none) w:=by kernel_rfl
def MapI(w:World)(mb:Nat)(f:Int→Option Addr):Prop :=
 ∃ es clock,w.heap[mb]?=some (.map es clock)∧(∀ e∈es.toList,∃ i a,e.key=.int .i64 i∧0≤i∧i≤1000000∧e.val=.pointer (some a)∧f i=some a)∧(∀ i a,f i=some a→∃ e∈es.toList,e.key=.int .i64 i) ∧
  (∀ i a,f i=some a→a.block<w.heap.size∧a.block≠mb)∧∀ i j a b,f i=some a→f j=some b→a.block=b.block→i=j
theorem MapI.kept{w w':World}{mb:Nat}{f:Int→Option Addr}(h:MapI w mb f){M:Nat→Prop}(hk:Kept M w w')(hM:¬ M mb):MapI w' mb f:=by
 obtain⟨es,clock,h1,h2,h3,h4,h5⟩:=h
 exact⟨es,clock,hk.obj h1 hM,h2,h3,fun i a e=>⟨Nat.lt_of_lt_of_le (h4 i a e).1 hk.size,(h4 i a e).2⟩,h5⟩
theorem MapI.lts{w:World}{mb:Nat}{f:Int→Option Addr}(h:MapI w mb f)(i:Int)(a:Addr)(hf:f i=some a):a.block<w.heap.size:=by
 obtain⟨_,_,_,_,_,h4,_⟩:=h
 exact(h4 i a hf).1
theorem keyI{i:Int}(h0:0≤i)(h1:i≤1000000):∃ l,keyOf Tryz.prog 3 (.int .i64 i)=some l:=⟨_,Maps.keyOf_int_mk ul_int (WalkArith.wf_i64 (by omega))⟩
theorem MapI.find{w:World}{f:Int→Option Addr}{es:Array MapEntry}(h2:∀ e∈es.toList,∃ i a,e.key=.int .i64 i∧0≤i∧i≤1000000∧e.val=.pointer (some a)∧f i=some a)(h3:∀ i a,f i=some a→∃ e∈es.toList,e.key=.int .i64 i)
 {i:Int} (h0:0≤i) (h1:i≤1000000) :
 ((Instr.findKey 3 (.int .i64 i) es.toList).run Tryz.prog w=.ok none w∧f i=none)∨∃ j a,(Instr.findKey 3 (.int .i64 i) es.toList).run Tryz.prog w=.ok (some (j,.pointer (some a))) w∧f i=some a:=by
 obtain⟨l,hl⟩:=keyI h0 h1
 rcases(Maps.int_keyed (P:=Tryz.prog) ul_int).find w hl es.toList (fun e he=>by obtain⟨j,a,hj,p0,p1,_⟩:=h2 e he;rw[hj];exact keyI p0 p1) with ⟨hr,hn⟩ | ⟨j,e,hr,hj,he⟩
 · refine .inl ⟨hr,?_⟩
   cases hf:f i with
   | none=>rfl
   | some a=>obtain⟨e,he,hk⟩:=h3 i a hf;exact absurd hk (hn e he)
 · obtain⟨i',a,hk,_,_,hv,hf⟩:=h2 e (List.mem_of_getElem? hj)
   rw[he]at hk
   cases hk
   rw[hv]at hr
   exact .inr ⟨j,a,hr,hf⟩
theorem MapI.check(w:World){i:Int}(h0:0≤i)(h1:i≤1000000)(em:Bool):(Instr.checkKey em 10000 3 (.int .i64 i)).run Tryz.prog w=.ok () w:=by
 obtain⟨l,hl⟩:=keyI h0 h1
 exact(Maps.int_keyed (P:=Tryz.prog) ul_int).check w em hl
theorem MapI.look{w:World}{mb:Nat}{f:Int→Option Addr}(h:MapI w mb f){i:Int}(h0:0≤i)(h1:i≤1000000) :
 (Instr.lookup 97 (.map (some mb)) (.int .i64 i) false).run Tryz.prog w=.ok (.pointer (f i)) w:=by
 obtain⟨es,clock,hb,h2,h3,h4,h5⟩:=h
 rcases MapI.find (w:=w) h2 h3 h0 h1 with ⟨hr,hf⟩|⟨j,a,hr,hf⟩
 · simp[Instr.lookup,run_underlying ul_mapO,MapKept.run_getObj_map hb,MapI.check w h0 h1,hr,zero_pO,Result.andThen,hf]
 · simp[Instr.lookup,run_underlying ul_mapO,MapKept.run_getObj_map hb,MapI.check w h0 h1,hr,Result.andThen,hf]
theorem MapI.store{w:World}{mb:Nat}{f:Int→Option Addr}(h:MapI w mb f){i:Int}(h0:0≤i)(h1:i≤1000000)(hf:f i=none)(a:Addr)(ha:a.block<w.heap.size∧a.block≠mb)(hne:∀ j b,f j=some b→b.block≠a.block) :
 ∃ w',(Instr.mapUpdate 97 (.map (some mb)) (.int .i64 i) (.pointer (some a))).run Tryz.prog w=.ok () w'∧MapI w' mb (fun j=>if j=i then some a else f j)∧Kept (fun b=>b=mb) w w':=by
 obtain⟨es,clock,hb,h2,h3,h4,h5⟩:=h
 rcases MapI.find (w:=w) h2 h3 h0 h1 with ⟨hr,_⟩|⟨j,a',hr,hf'⟩
 · refine⟨ChangeMaps.setBlock w mb (.map (es.push ⟨.int .i64 i,.pointer (some a),clock⟩) (clock+1)),?_,⟨_,_,ChangeMaps.heap_setBlock_same hb _,?_,?_,?_,?_⟩,⟨rfl,rfl,rfl,by simp[ChangeMaps.setBlock],fun k _ hk=>ChangeMaps.heap_setBlock_other hb _ hk⟩⟩
   · simp[Instr.mapUpdate,run_underlying ul_mapO,MapKept.run_getObj_map hb,MapI.check w h0 h1,hr,MapKept.run_setObj_map _ hb,Result.andThen,ChangeMaps.setBlock]
   · intro e he
     simp only[Array.toList_push,List.mem_append,List.mem_singleton]at he
     rcases he with he|rfl
     · obtain⟨j,b,p1,p2,p3,p4,p5⟩:=h2 e he
       refine⟨j,b,p1,p2,p3,p4,?_⟩
       have hji:j≠i:=fun e=>by rw[e,hf]at p5;cases p5
       simp only[hji,if_false]
       exact p5
     · exact⟨i,a,rfl,h0,h1,rfl,by simp⟩
   · intro j b hj
     by_cases e:j=i
     · subst e;exact⟨⟨.int .i64 j,.pointer (some a),clock⟩,by simp,rfl⟩
     · simp only[e,if_false]at hj
       obtain⟨x,hx,hk⟩:=h3 j b hj
       exact⟨x,by simp[hx],hk⟩
   · intro j b hj
     have hs:(ChangeMaps.setBlock w mb (.map (es.push ⟨.int .i64 i,.pointer (some a),clock⟩) (clock+1))).heap.size=w.heap.size:=by simp[ChangeMaps.setBlock]
     rw[hs]
     by_cases e:j=i
     · simp only[e,if_true,Option.some.injEq]at hj;subst hj;exact ha
     · simp only[e,if_false]at hj;exact h4 j b hj
   · intro j j' b b' hj hj' he
     by_cases e:j=i
     · by_cases e':j'=i
       · rw[e,e']
       · simp only[e,if_true,Option.some.injEq]at hj
         simp only[e',if_false]at hj'
         subst hj
         exact absurd he.symm (hne _ _ hj')
     · simp only[e,if_false]at hj
       by_cases e':j'=i
       · simp only[e',if_true,Option.some.injEq]at hj'
         subst hj'
         exact absurd he (hne _ _ hj)
       · simp only[e',if_false]at hj'
         exact h5 _ _ _ _ hj hj' he
 · rw[hf]at hf';cases hf'
structure Bld (w:World) (bb mb:Nat) (left depth:Int) (f:Int→Option Addr):Prop where
 obj:w.heap[bb]?=some (.cells #[.bool false,.int .i64 left,.int .i64 depth,.map (some mb)] 99 (0,0))
 map:MapI w mb f
 ne:bb≠mb
 l0:0≤left
 l1:left≤2000
 d0:0≤depth
 d1:depth≤60
theorem Bld.kept{w w':World}{bb mb:Nat}{left depth:Int}{f:Int→Option Addr}(h:Bld w bb mb left depth f){M:Nat→Prop}(hk:Kept M w w')(hb:¬ M bb)(hM:¬ M mb):Bld w' bb mb left depth f :=
 ⟨hk.obj h.obj hb,h.map.kept hk hM,h.ne,h.l0,h.l1,h.d0,h.d1⟩
def Two(bb mb:Nat):Nat→Prop:=fun b=>b=bb∨b=mb
def MadeP(w:World)(bb mb:Nat)(n:N)(k:K)(m:Nat)(left depth:Int)(f:Int→Option Addr)(e:Ending)(w':World):Prop :=
 ∃ (a:A) (v:Value) (f':Int→Option Addr),e=.returned v∧a.N=n∧a.K=k∧Rep w' (fun b=>w.heap.size≤b) (a.g m .fin) [v]∧Bld w' bb mb left depth f'∧Ext f f'∧a.objs f'∧LIn a.blocks w.heap.size w'.heap.size∧Kept (Two bb mb) w w'
def NodeB(n:N)(k:K):Prop:=∀ (kd tx:Str) (i:Int) (kids:N),n=.n kd tx i kids→∀ (w:World) (D:Nat→Prop) (bb mb:Nat) (left depth:Int) (f:Int→Option Addr) (a:Option Addr) (c c':Nat),
 Rep w D kids.g [.slice a c c']→(∀ b,D b→¬ Two bb mb b)→Bld w bb mb left depth f→(n.cost:Int)≤left→depth+n.deep≤60 →
 Calls Tryz.prog 33 #[.pointer (some ⟨bb,0,none⟩),.agg #[.string kd,.string tx,.int .i64 i,.slice a c c']] w (MadeP w bb mb n k 1 (left-n.cost) depth f)
def MadeB(n:N)(k:K):Prop:=∀ (kd tx:Str) (i:Int) (kids:N),n=.n kd tx i kids→∀ (w:World) (D:Nat→Prop) (bb mb:Nat) (left depth:Int) (f:Int→Option Addr) (a:Option Addr) (c c':Nat),
 Rep w D kids.g [.slice a c c']→(∀ b,D b→¬ Two bb mb b)→Bld w bb mb left depth f→(n.cost:Int)≤left+1→depth+n.deep≤61 →
 Calls Tryz.prog 54 #[.pointer (some ⟨bb,0,none⟩),.agg #[.string kd,.string tx,.int .i64 i,.slice a c c']] w (MadeP w bb mb n k 1 (left+1-n.cost) depth f)
theorem assert_no{P:Program}{T e:TypeId}(hT:P.underlying T=some (.pointer e))(hz:∀ w,(zeroValue T).run P w=.ok (.pointer none) w){X:TypeId}(h:X≠T)(v:Value)(S:TypeId)(w:World) :
 (Instr.typeAssert (.iface X v) S T true).run P w=.ok (.tuple #[.pointer none,.bool false]) w:=by
 simp[Instr.typeAssert,run_underlying hT,h,hz,Result.andThen]
theorem nob{P:Program}(X:TypeId)(b:Nat)(S:TypeId){T e:TypeId}(hT:P.underlying T=some (.pointer e))(hz:∀ w,(zeroValue T).run P w=.ok (.pointer none) w)(h:X≠T):∀ w,(Instr.typeAssert (.iface X (.pointer (some ⟨b,0,none⟩))) S T true).run P w=.ok (.tuple #[.pointer none,.bool false]) w:=fun w=>assert_no hT hz h _ _ w
def NoS(P:Program)(X b S:TypeId):List TypeId→Prop
 | []=>True
 | T :: l=>(∀ w,(Instr.typeAssert (.iface X (.pointer (some ⟨b,0,none⟩))) S T true).run P w=.ok (.tuple #[.pointer none,.bool false]) w)∧NoS P X b S l
theorem noS{P:Program}(pt:List TypeId)(hp:∀ T∈pt,(∃ e,P.underlying T=some (.pointer e))∧∀ w,(zeroValue T).run P w=.ok (.pointer none) w)(X b S:TypeId):∀ l:List TypeId,l.all (fun T=>pt.contains T && !(X == T))=true→NoS P X b S l
 | [],_=>trivial
 | T :: l,h=>by
   simp only[List.all_cons,Bool.and_eq_true,List.contains_iff_mem,Bool.not_eq_true',beq_eq_false_iff_ne]at h
   obtain⟨⟨h1,h2⟩,h3⟩:=h
   obtain⟨⟨e,he⟩,hz⟩:=hp T h1
   exact⟨nob X b S he hz h2,noS pt hp X b S l h3⟩
theorem assert_yes{P:Program}{T e:TypeId}(hT:P.underlying T=some (.pointer e))(v:Value)(S:TypeId)(w:World) :
 (Instr.typeAssert (.iface T v) S T true).run P w=.ok (.tuple #[v,.bool true]) w:=by
 simp[Instr.typeAssert,run_underlying hT,Result.andThen]
theorem assert_nil{P:Program}{T e:TypeId}(hT:P.underlying T=some (.pointer e))(hz:∀ w,(zeroValue T).run P w=.ok (.pointer none) w)(S:TypeId)(w:World) :
 (Instr.typeAssert .nilIface S T true).run P w=.ok (.tuple #[.pointer none,.bool false]) w:=by
 simp[Instr.typeAssert,run_underlying hT,hz,Result.andThen]
theorem un_File:Tryz.prog.underlying 83=some (.pointer 91):=by kernel_rfl
theorem zp_File(w:World):(zeroValue 83).run Tryz.prog w=.ok (.pointer none) w:=by kernel_rfl
theorem un_Field:Tryz.prog.underlying 196=some (.pointer 202):=by kernel_rfl
theorem zp_Field(w:World):(zeroValue 196).run Tryz.prog w=.ok (.pointer none) w:=by kernel_rfl
theorem un_FieldList:Tryz.prog.underlying 120=some (.pointer 206):=by kernel_rfl
theorem zp_FieldList(w:World):(zeroValue 120).run Tryz.prog w=.ok (.pointer none) w:=by kernel_rfl
theorem un_Ellipsis:Tryz.prog.underlying 208=some (.pointer 210):=by kernel_rfl
theorem zp_Ellipsis(w:World):(zeroValue 208).run Tryz.prog w=.ok (.pointer none) w:=by kernel_rfl
theorem un_FuncLit:Tryz.prog.underlying 211=some (.pointer 215):=by kernel_rfl
theorem zp_FuncLit(w:World):(zeroValue 211).run Tryz.prog w=.ok (.pointer none) w:=by kernel_rfl
theorem un_CompositeLit:Tryz.prog.underlying 216=some (.pointer 219):=by kernel_rfl
theorem zp_CompositeLit(w:World):(zeroValue 216).run Tryz.prog w=.ok (.pointer none) w:=by kernel_rfl
theorem un_ParenExpr:Tryz.prog.underlying 220=some (.pointer 222):=by kernel_rfl
theorem zp_ParenExpr(w:World):(zeroValue 220).run Tryz.prog w=.ok (.pointer none) w:=by kernel_rfl
theorem un_SelectorExpr:Tryz.prog.underlying 190=some (.pointer 193):=by kernel_rfl
theorem zp_SelectorExpr(w:World):(zeroValue 190).run Tryz.prog w=.ok (.pointer none) w:=by kernel_rfl
theorem un_IndexExpr:Tryz.prog.underlying 224=some (.pointer 226):=by kernel_rfl
theorem zp_IndexExpr(w:World):(zeroValue 224).run Tryz.prog w=.ok (.pointer none) w:=by kernel_rfl
theorem un_IndexListExpr:Tryz.prog.underlying 227=some (.pointer 229):=by kernel_rfl
theorem zp_IndexListExpr(w:World):(zeroValue 227).run Tryz.prog w=.ok (.pointer none) w:=by kernel_rfl
theorem un_SliceExpr:Tryz.prog.underlying 230=some (.pointer 232):=by kernel_rfl
theorem zp_SliceExpr(w:World):(zeroValue 230).run Tryz.prog w=.ok (.pointer none) w:=by kernel_rfl
theorem un_TypeAssertExpr:Tryz.prog.underlying 233=some (.pointer 235):=by kernel_rfl
theorem zp_TypeAssertExpr(w:World):(zeroValue 233).run Tryz.prog w=.ok (.pointer none) w:=by kernel_rfl
theorem un_CallExpr:Tryz.prog.underlying 172=some (.pointer 177):=by kernel_rfl
theorem zp_CallExpr(w:World):(zeroValue 172).run Tryz.prog w=.ok (.pointer none) w:=by kernel_rfl
theorem un_StarExpr:Tryz.prog.underlying 236=some (.pointer 237):=by kernel_rfl
theorem zp_StarExpr(w:World):(zeroValue 236).run Tryz.prog w=.ok (.pointer none) w:=by kernel_rfl
theorem un_UnaryExpr:Tryz.prog.underlying 238=some (.pointer 241):=by kernel_rfl
theorem zp_UnaryExpr(w:World):(zeroValue 238).run Tryz.prog w=.ok (.pointer none) w:=by kernel_rfl
theorem un_BinaryExpr:Tryz.prog.underlying 242=some (.pointer 244):=by kernel_rfl
theorem zp_BinaryExpr(w:World):(zeroValue 242).run Tryz.prog w=.ok (.pointer none) w:=by kernel_rfl
theorem un_KeyValueExpr:Tryz.prog.underlying 245=some (.pointer 247):=by kernel_rfl
theorem zp_KeyValueExpr(w:World):(zeroValue 245).run Tryz.prog w=.ok (.pointer none) w:=by kernel_rfl
theorem un_ArrayType:Tryz.prog.underlying 248=some (.pointer 250):=by kernel_rfl
theorem zp_ArrayType(w:World):(zeroValue 248).run Tryz.prog w=.ok (.pointer none) w:=by kernel_rfl
theorem un_StructType:Tryz.prog.underlying 251=some (.pointer 254):=by kernel_rfl
theorem zp_StructType(w:World):(zeroValue 251).run Tryz.prog w=.ok (.pointer none) w:=by kernel_rfl
theorem un_FuncType:Tryz.prog.underlying 122=some (.pointer 256):=by kernel_rfl
theorem zp_FuncType(w:World):(zeroValue 122).run Tryz.prog w=.ok (.pointer none) w:=by kernel_rfl
theorem un_InterfaceType:Tryz.prog.underlying 257=some (.pointer 259):=by kernel_rfl
theorem zp_InterfaceType(w:World):(zeroValue 257).run Tryz.prog w=.ok (.pointer none) w:=by kernel_rfl
theorem un_MapType:Tryz.prog.underlying 260=some (.pointer 261):=by kernel_rfl
theorem zp_MapType(w:World):(zeroValue 260).run Tryz.prog w=.ok (.pointer none) w:=by kernel_rfl
theorem un_ChanType:Tryz.prog.underlying 262=some (.pointer 265):=by kernel_rfl
theorem zp_ChanType(w:World):(zeroValue 262).run Tryz.prog w=.ok (.pointer none) w:=by kernel_rfl
theorem un_DeclStmt:Tryz.prog.underlying 266=some (.pointer 268):=by kernel_rfl
theorem zp_DeclStmt(w:World):(zeroValue 266).run Tryz.prog w=.ok (.pointer none) w:=by kernel_rfl
theorem un_LabeledStmt:Tryz.prog.underlying 272=some (.pointer 277):=by kernel_rfl
theorem zp_LabeledStmt(w:World):(zeroValue 272).run Tryz.prog w=.ok (.pointer none) w:=by kernel_rfl
theorem un_ExprStmt:Tryz.prog.underlying 278=some (.pointer 279):=by kernel_rfl
theorem zp_ExprStmt(w:World):(zeroValue 278).run Tryz.prog w=.ok (.pointer none) w:=by kernel_rfl
theorem un_SendStmt:Tryz.prog.underlying 280=some (.pointer 282):=by kernel_rfl
theorem zp_SendStmt(w:World):(zeroValue 280).run Tryz.prog w=.ok (.pointer none) w:=by kernel_rfl
theorem un_IncDecStmt:Tryz.prog.underlying 283=some (.pointer 285):=by kernel_rfl
theorem zp_IncDecStmt(w:World):(zeroValue 283).run Tryz.prog w=.ok (.pointer none) w:=by kernel_rfl
theorem un_AssignStmt:Tryz.prog.underlying 286=some (.pointer 288):=by kernel_rfl
theorem zp_AssignStmt(w:World):(zeroValue 286).run Tryz.prog w=.ok (.pointer none) w:=by kernel_rfl
theorem un_GoStmt:Tryz.prog.underlying 289=some (.pointer 292):=by kernel_rfl
theorem zp_GoStmt(w:World):(zeroValue 289).run Tryz.prog w=.ok (.pointer none) w:=by kernel_rfl
theorem un_DeferStmt:Tryz.prog.underlying 293=some (.pointer 294):=by kernel_rfl
theorem zp_DeferStmt(w:World):(zeroValue 293).run Tryz.prog w=.ok (.pointer none) w:=by kernel_rfl
theorem un_ReturnStmt:Tryz.prog.underlying 295=some (.pointer 297):=by kernel_rfl
theorem zp_ReturnStmt(w:World):(zeroValue 295).run Tryz.prog w=.ok (.pointer none) w:=by kernel_rfl
theorem un_BranchStmt:Tryz.prog.underlying 298=some (.pointer 300):=by kernel_rfl
theorem zp_BranchStmt(w:World):(zeroValue 298).run Tryz.prog w=.ok (.pointer none) w:=by kernel_rfl
theorem un_BlockStmt:Tryz.prog.underlying 123=some (.pointer 304):=by kernel_rfl
theorem zp_BlockStmt(w:World):(zeroValue 123).run Tryz.prog w=.ok (.pointer none) w:=by kernel_rfl
theorem un_IfStmt:Tryz.prog.underlying 305=some (.pointer 307):=by kernel_rfl
theorem zp_IfStmt(w:World):(zeroValue 305).run Tryz.prog w=.ok (.pointer none) w:=by kernel_rfl
theorem un_CaseClause:Tryz.prog.underlying 308=some (.pointer 310):=by kernel_rfl
theorem zp_CaseClause(w:World):(zeroValue 308).run Tryz.prog w=.ok (.pointer none) w:=by kernel_rfl
theorem un_SwitchStmt:Tryz.prog.underlying 311=some (.pointer 313):=by kernel_rfl
theorem zp_SwitchStmt(w:World):(zeroValue 311).run Tryz.prog w=.ok (.pointer none) w:=by kernel_rfl
theorem un_TypeSwitchStmt:Tryz.prog.underlying 314=some (.pointer 316):=by kernel_rfl
theorem zp_TypeSwitchStmt(w:World):(zeroValue 314).run Tryz.prog w=.ok (.pointer none) w:=by kernel_rfl
theorem un_CommClause:Tryz.prog.underlying 317=some (.pointer 319):=by kernel_rfl
theorem zp_CommClause(w:World):(zeroValue 317).run Tryz.prog w=.ok (.pointer none) w:=by kernel_rfl
theorem un_SelectStmt:Tryz.prog.underlying 320=some (.pointer 322):=by kernel_rfl
theorem zp_SelectStmt(w:World):(zeroValue 320).run Tryz.prog w=.ok (.pointer none) w:=by kernel_rfl
theorem un_ForStmt:Tryz.prog.underlying 323=some (.pointer 325):=by kernel_rfl
theorem zp_ForStmt(w:World):(zeroValue 323).run Tryz.prog w=.ok (.pointer none) w:=by kernel_rfl
theorem un_RangeStmt:Tryz.prog.underlying 326=some (.pointer 328):=by kernel_rfl
theorem zp_RangeStmt(w:World):(zeroValue 326).run Tryz.prog w=.ok (.pointer none) w:=by kernel_rfl
theorem un_ImportSpec:Tryz.prog.underlying 142=some (.pointer 185):=by kernel_rfl
theorem zp_ImportSpec(w:World):(zeroValue 142).run Tryz.prog w=.ok (.pointer none) w:=by kernel_rfl
theorem un_ValueSpec:Tryz.prog.underlying 329=some (.pointer 331):=by kernel_rfl
theorem zp_ValueSpec(w:World):(zeroValue 329).run Tryz.prog w=.ok (.pointer none) w:=by kernel_rfl
theorem un_TypeSpec:Tryz.prog.underlying 151=some (.pointer 155):=by kernel_rfl
theorem zp_TypeSpec(w:World):(zeroValue 151).run Tryz.prog w=.ok (.pointer none) w:=by kernel_rfl
theorem un_GenDecl:Tryz.prog.underlying 134=some (.pointer 139):=by kernel_rfl
theorem zp_GenDecl(w:World):(zeroValue 134).run Tryz.prog w=.ok (.pointer none) w:=by kernel_rfl
theorem un_FuncDecl:Tryz.prog.underlying 54=some (.pointer 125):=by kernel_rfl
theorem zp_FuncDecl(w:World):(zeroValue 54).run Tryz.prog w=.ok (.pointer none) w:=by kernel_rfl
theorem un_Ident:Tryz.prog.underlying 121=some (.pointer 128):=by kernel_rfl
theorem un_BasicLit:Tryz.prog.underlying 183=some (.pointer 188):=by kernel_rfl
theorem zp_BasicLit(w:World):(zeroValue 183).run Tryz.prog w=.ok (.pointer none) w:=by kernel_rfl
theorem nobs(X b S:TypeId)(l:List TypeId)(h:l.all (fun T=>[54,83,120,122,123,134,142,151,172,183,190,196,208,211,216,220,224,227,230,233,236,238,242,245,248,251,257,260,262,266,272,278,280,283,286,289,293,295,298,305,308,311,314,317,320,323,326,329].contains T && !(X == T))=true):NoS Tryz.prog X b S l:=noS _ (fun T hT=>by
 simp only[List.mem_cons,List.not_mem_nil,or_false]at hT
 rcases hT with rfl|rfl|rfl|rfl|rfl|rfl|rfl|rfl|rfl|rfl|rfl|rfl|rfl|rfl|rfl|rfl|rfl|rfl|rfl|rfl|rfl|rfl|rfl|rfl|rfl|rfl|rfl|rfl|rfl|rfl|rfl|rfl|rfl|rfl|rfl|rfl|rfl|rfl|rfl|rfl|rfl|rfl|rfl|rfl|rfl|rfl|rfl|rfl
 · exact⟨⟨_,un_FuncDecl⟩,zp_FuncDecl⟩
 · exact⟨⟨_,un_File⟩,zp_File⟩
 · exact⟨⟨_,un_FieldList⟩,zp_FieldList⟩
 · exact⟨⟨_,un_FuncType⟩,zp_FuncType⟩
 · exact⟨⟨_,un_BlockStmt⟩,zp_BlockStmt⟩
 · exact⟨⟨_,un_GenDecl⟩,zp_GenDecl⟩
 · exact⟨⟨_,un_ImportSpec⟩,zp_ImportSpec⟩
 · exact⟨⟨_,un_TypeSpec⟩,zp_TypeSpec⟩
 · exact⟨⟨_,un_CallExpr⟩,zp_CallExpr⟩
 · exact⟨⟨_,un_BasicLit⟩,zp_BasicLit⟩
 · exact⟨⟨_,un_SelectorExpr⟩,zp_SelectorExpr⟩
 · exact⟨⟨_,un_Field⟩,zp_Field⟩
 · exact⟨⟨_,un_Ellipsis⟩,zp_Ellipsis⟩
 · exact⟨⟨_,un_FuncLit⟩,zp_FuncLit⟩
 · exact⟨⟨_,un_CompositeLit⟩,zp_CompositeLit⟩
 · exact⟨⟨_,un_ParenExpr⟩,zp_ParenExpr⟩
 · exact⟨⟨_,un_IndexExpr⟩,zp_IndexExpr⟩
 · exact⟨⟨_,un_IndexListExpr⟩,zp_IndexListExpr⟩
 · exact⟨⟨_,un_SliceExpr⟩,zp_SliceExpr⟩
 · exact⟨⟨_,un_TypeAssertExpr⟩,zp_TypeAssertExpr⟩
 · exact⟨⟨_,un_StarExpr⟩,zp_StarExpr⟩
 · exact⟨⟨_,un_UnaryExpr⟩,zp_UnaryExpr⟩
 · exact⟨⟨_,un_BinaryExpr⟩,zp_BinaryExpr⟩
 · exact⟨⟨_,un_KeyValueExpr⟩,zp_KeyValueExpr⟩
 · exact⟨⟨_,un_ArrayType⟩,zp_ArrayType⟩
 · exact⟨⟨_,un_StructType⟩,zp_StructType⟩
 · exact⟨⟨_,un_InterfaceType⟩,zp_InterfaceType⟩
 · exact⟨⟨_,un_MapType⟩,zp_MapType⟩
 · exact⟨⟨_,un_ChanType⟩,zp_ChanType⟩
 · exact⟨⟨_,un_DeclStmt⟩,zp_DeclStmt⟩
 · exact⟨⟨_,un_LabeledStmt⟩,zp_LabeledStmt⟩
 · exact⟨⟨_,un_ExprStmt⟩,zp_ExprStmt⟩
 · exact⟨⟨_,un_SendStmt⟩,zp_SendStmt⟩
 · exact⟨⟨_,un_IncDecStmt⟩,zp_IncDecStmt⟩
 · exact⟨⟨_,un_AssignStmt⟩,zp_AssignStmt⟩
 · exact⟨⟨_,un_GoStmt⟩,zp_GoStmt⟩
 · exact⟨⟨_,un_DeferStmt⟩,zp_DeferStmt⟩
 · exact⟨⟨_,un_ReturnStmt⟩,zp_ReturnStmt⟩
 · exact⟨⟨_,un_BranchStmt⟩,zp_BranchStmt⟩
 · exact⟨⟨_,un_IfStmt⟩,zp_IfStmt⟩
 · exact⟨⟨_,un_CaseClause⟩,zp_CaseClause⟩
 · exact⟨⟨_,un_SwitchStmt⟩,zp_SwitchStmt⟩
 · exact⟨⟨_,un_TypeSwitchStmt⟩,zp_TypeSwitchStmt⟩
 · exact⟨⟨_,un_CommClause⟩,zp_CommClause⟩
 · exact⟨⟨_,un_SelectStmt⟩,zp_SelectStmt⟩
 · exact⟨⟨_,un_ForStmt⟩,zp_ForStmt⟩
 · exact⟨⟨_,un_RangeStmt⟩,zp_RangeStmt⟩
 · exact⟨⟨_,un_ValueSpec⟩,zp_ValueSpec⟩) X b S l h
theorem as_ident(v:Value)(S:TypeId)(w:World):(Instr.typeAssert (.iface 121 v) S 121 true).run Tryz.prog w=.ok (.tuple #[v,.bool true]) w:=assert_yes un_Ident v S w
theorem as_lit(v:Value)(S:TypeId)(w:World):(Instr.typeAssert (.iface 183 v) S 183 true).run Tryz.prog w=.ok (.tuple #[v,.bool true]) w:=assert_yes un_BasicLit v S w
theorem as_flit(v:Value)(S:TypeId)(w:World):(Instr.typeAssert (.iface 211 v) S 211 true).run Tryz.prog w=.ok (.tuple #[v,.bool true]) w:=assert_yes un_FuncLit v S w
theorem as_paren(v:Value)(S:TypeId)(w:World):(Instr.typeAssert (.iface 220 v) S 220 true).run Tryz.prog w=.ok (.tuple #[v,.bool true]) w:=assert_yes un_ParenExpr v S w
theorem as_call(v:Value)(S:TypeId)(w:World):(Instr.typeAssert (.iface 172 v) S 172 true).run Tryz.prog w=.ok (.tuple #[v,.bool true]) w:=assert_yes un_CallExpr v S w
theorem as_un(v:Value)(S:TypeId)(w:World):(Instr.typeAssert (.iface 238 v) S 238 true).run Tryz.prog w=.ok (.tuple #[v,.bool true]) w:=assert_yes un_UnaryExpr v S w
theorem as_bin(v:Value)(S:TypeId)(w:World):(Instr.typeAssert (.iface 242 v) S 242 true).run Tryz.prog w=.ok (.tuple #[v,.bool true]) w:=assert_yes un_BinaryExpr v S w
theorem as_ftype(v:Value)(S:TypeId)(w:World):(Instr.typeAssert (.iface 122 v) S 122 true).run Tryz.prog w=.ok (.tuple #[v,.bool true]) w:=assert_yes un_FuncType v S w
theorem as_flist(v:Value)(S:TypeId)(w:World):(Instr.typeAssert (.iface 120 v) S 120 true).run Tryz.prog w=.ok (.tuple #[v,.bool true]) w:=assert_yes un_FieldList v S w
theorem as_exprS(v:Value)(S:TypeId)(w:World):(Instr.typeAssert (.iface 278 v) S 278 true).run Tryz.prog w=.ok (.tuple #[v,.bool true]) w:=assert_yes un_ExprStmt v S w
theorem as_inc(v:Value)(S:TypeId)(w:World):(Instr.typeAssert (.iface 283 v) S 283 true).run Tryz.prog w=.ok (.tuple #[v,.bool true]) w:=assert_yes un_IncDecStmt v S w
theorem as_assign(v:Value)(S:TypeId)(w:World):(Instr.typeAssert (.iface 286 v) S 286 true).run Tryz.prog w=.ok (.tuple #[v,.bool true]) w:=assert_yes un_AssignStmt v S w
theorem as_ret(v:Value)(S:TypeId)(w:World):(Instr.typeAssert (.iface 295 v) S 295 true).run Tryz.prog w=.ok (.tuple #[v,.bool true]) w:=assert_yes un_ReturnStmt v S w
theorem as_branch(v:Value)(S:TypeId)(w:World):(Instr.typeAssert (.iface 298 v) S 298 true).run Tryz.prog w=.ok (.tuple #[v,.bool true]) w:=assert_yes un_BranchStmt v S w
theorem as_block(v:Value)(S:TypeId)(w:World):(Instr.typeAssert (.iface 123 v) S 123 true).run Tryz.prog w=.ok (.tuple #[v,.bool true]) w:=assert_yes un_BlockStmt v S w
theorem as_if_(v:Value)(S:TypeId)(w:World):(Instr.typeAssert (.iface 305 v) S 305 true).run Tryz.prog w=.ok (.tuple #[v,.bool true]) w:=assert_yes un_IfStmt v S w
theorem as_case_(v:Value)(S:TypeId)(w:World):(Instr.typeAssert (.iface 308 v) S 308 true).run Tryz.prog w=.ok (.tuple #[v,.bool true]) w:=assert_yes un_CaseClause v S w
theorem as_switch(v:Value)(S:TypeId)(w:World):(Instr.typeAssert (.iface 311 v) S 311 true).run Tryz.prog w=.ok (.tuple #[v,.bool true]) w:=assert_yes un_SwitchStmt v S w
theorem as_comm(v:Value)(S:TypeId)(w:World):(Instr.typeAssert (.iface 317 v) S 317 true).run Tryz.prog w=.ok (.tuple #[v,.bool true]) w:=assert_yes un_CommClause v S w
theorem as_select(v:Value)(S:TypeId)(w:World):(Instr.typeAssert (.iface 320 v) S 320 true).run Tryz.prog w=.ok (.tuple #[v,.bool true]) w:=assert_yes un_SelectStmt v S w
theorem as_for_(v:Value)(S:TypeId)(w:World):(Instr.typeAssert (.iface 323 v) S 323 true).run Tryz.prog w=.ok (.tuple #[v,.bool true]) w:=assert_yes un_ForStmt v S w
theorem as_range(v:Value)(S:TypeId)(w:World):(Instr.typeAssert (.iface 326 v) S 326 true).run Tryz.prog w=.ok (.tuple #[v,.bool true]) w:=assert_yes un_RangeStmt v S w
theorem as_labeled(v:Value)(S:TypeId)(w:World):(Instr.typeAssert (.iface 272 v) S 272 true).run Tryz.prog w=.ok (.tuple #[v,.bool true]) w:=assert_yes un_LabeledStmt v S w
theorem as_func(v:Value)(S:TypeId)(w:World):(Instr.typeAssert (.iface 54 v) S 54 true).run Tryz.prog w=.ok (.tuple #[v,.bool true]) w:=assert_yes un_FuncDecl v S w
theorem asE_ident(v:Value)(S:TypeId)(w:World):(Instr.typeAssert (.iface 121 v) S 153 true).run Tryz.prog w=.ok (.tuple #[.iface 121 v,.bool true]) w:=by kernel_rfl
theorem asE_lit(v:Value)(S:TypeId)(w:World):(Instr.typeAssert (.iface 183 v) S 153 true).run Tryz.prog w=.ok (.tuple #[.iface 183 v,.bool true]) w:=by kernel_rfl
theorem asE_flit(v:Value)(S:TypeId)(w:World):(Instr.typeAssert (.iface 211 v) S 153 true).run Tryz.prog w=.ok (.tuple #[.iface 211 v,.bool true]) w:=by kernel_rfl
theorem asE_paren(v:Value)(S:TypeId)(w:World):(Instr.typeAssert (.iface 220 v) S 153 true).run Tryz.prog w=.ok (.tuple #[.iface 220 v,.bool true]) w:=by kernel_rfl
theorem asE_call(v:Value)(S:TypeId)(w:World):(Instr.typeAssert (.iface 172 v) S 153 true).run Tryz.prog w=.ok (.tuple #[.iface 172 v,.bool true]) w:=by kernel_rfl
theorem asE_un(v:Value)(S:TypeId)(w:World):(Instr.typeAssert (.iface 238 v) S 153 true).run Tryz.prog w=.ok (.tuple #[.iface 238 v,.bool true]) w:=by kernel_rfl
theorem asE_bin(v:Value)(S:TypeId)(w:World):(Instr.typeAssert (.iface 242 v) S 153 true).run Tryz.prog w=.ok (.tuple #[.iface 242 v,.bool true]) w:=by kernel_rfl
theorem asE_ftype(v:Value)(S:TypeId)(w:World):(Instr.typeAssert (.iface 122 v) S 153 true).run Tryz.prog w=.ok (.tuple #[.iface 122 v,.bool true]) w:=by kernel_rfl
theorem asS_exprS(v:Value)(S:TypeId)(w:World):(Instr.typeAssert (.iface 278 v) S 274 true).run Tryz.prog w=.ok (.tuple #[.iface 278 v,.bool true]) w:=by kernel_rfl
theorem asS_inc(v:Value)(S:TypeId)(w:World):(Instr.typeAssert (.iface 283 v) S 274 true).run Tryz.prog w=.ok (.tuple #[.iface 283 v,.bool true]) w:=by kernel_rfl
theorem asS_assign(v:Value)(S:TypeId)(w:World):(Instr.typeAssert (.iface 286 v) S 274 true).run Tryz.prog w=.ok (.tuple #[.iface 286 v,.bool true]) w:=by kernel_rfl
theorem asS_ret(v:Value)(S:TypeId)(w:World):(Instr.typeAssert (.iface 295 v) S 274 true).run Tryz.prog w=.ok (.tuple #[.iface 295 v,.bool true]) w:=by kernel_rfl
theorem asS_branch(v:Value)(S:TypeId)(w:World):(Instr.typeAssert (.iface 298 v) S 274 true).run Tryz.prog w=.ok (.tuple #[.iface 298 v,.bool true]) w:=by kernel_rfl
theorem asS_block(v:Value)(S:TypeId)(w:World):(Instr.typeAssert (.iface 123 v) S 274 true).run Tryz.prog w=.ok (.tuple #[.iface 123 v,.bool true]) w:=by kernel_rfl
theorem asS_if_(v:Value)(S:TypeId)(w:World):(Instr.typeAssert (.iface 305 v) S 274 true).run Tryz.prog w=.ok (.tuple #[.iface 305 v,.bool true]) w:=by kernel_rfl
theorem asS_case_(v:Value)(S:TypeId)(w:World):(Instr.typeAssert (.iface 308 v) S 274 true).run Tryz.prog w=.ok (.tuple #[.iface 308 v,.bool true]) w:=by kernel_rfl
theorem asS_switch(v:Value)(S:TypeId)(w:World):(Instr.typeAssert (.iface 311 v) S 274 true).run Tryz.prog w=.ok (.tuple #[.iface 311 v,.bool true]) w:=by kernel_rfl
theorem asS_comm(v:Value)(S:TypeId)(w:World):(Instr.typeAssert (.iface 317 v) S 274 true).run Tryz.prog w=.ok (.tuple #[.iface 317 v,.bool true]) w:=by kernel_rfl
theorem asS_select(v:Value)(S:TypeId)(w:World):(Instr.typeAssert (.iface 320 v) S 274 true).run Tryz.prog w=.ok (.tuple #[.iface 320 v,.bool true]) w:=by kernel_rfl
theorem asS_for_(v:Value)(S:TypeId)(w:World):(Instr.typeAssert (.iface 323 v) S 274 true).run Tryz.prog w=.ok (.tuple #[.iface 323 v,.bool true]) w:=by kernel_rfl
theorem asS_range(v:Value)(S:TypeId)(w:World):(Instr.typeAssert (.iface 326 v) S 274 true).run Tryz.prog w=.ok (.tuple #[.iface 326 v,.bool true]) w:=by kernel_rfl
theorem asS_labeled(v:Value)(S:TypeId)(w:World):(Instr.typeAssert (.iface 272 v) S 274 true).run Tryz.prog w=.ok (.tuple #[.iface 272 v,.bool true]) w:=by kernel_rfl
def isE:K→Prop
 | .ident | .lit | .flit | .paren | .call | .un | .bin | .ftype=>True
 | _=>False
def isS:K→Prop
 | .exprS | .inc | .assign | .ret | .branch | .block | .if_ | .case_ | .switch | .comm | .select | .for_ | .range | .labeled=>True
 | _=>False
theorem asE_any(k:K)(hk:isE k)(v:Value)(S:TypeId)(w:World):(Instr.typeAssert (.iface k.pty v) S 153 true).run Tryz.prog w=.ok (.tuple #[.iface k.pty v,.bool true]) w:=by
 cases k<;>first | exact hk.elim | skip
 · exact asE_ident v S w
 · exact asE_lit v S w
 · exact asE_flit v S w
 · exact asE_paren v S w
 · exact asE_call v S w
 · exact asE_un v S w
 · exact asE_bin v S w
 · exact asE_ftype v S w
theorem asS_any(k:K)(hk:isS k)(v:Value)(S:TypeId)(w:World):(Instr.typeAssert (.iface k.pty v) S 274 true).run Tryz.prog w=.ok (.tuple #[.iface k.pty v,.bool true]) w:=by
 cases k<;>first | exact hk.elim | skip
 · exact asS_exprS v S w
 · exact asS_inc v S w
 · exact asS_assign v S w
 · exact asS_ret v S w
 · exact asS_branch v S w
 · exact asS_block v S w
 · exact asS_if_ v S w
 · exact asS_case_ v S w
 · exact asS_switch v S w
 · exact asS_comm v S w
 · exact asS_select v S w
 · exact asS_for_ v S w
 · exact asS_range v S w
 · exact asS_labeled v S w
end Go.Proofs.YtleolbpibjnedaaGreat
