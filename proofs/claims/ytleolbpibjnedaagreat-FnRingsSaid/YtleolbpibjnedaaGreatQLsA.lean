/- The laws' small functions that make parts of syntax. -/
import Derived.Test.YtleolbpibjnedaaGreatQBase
import Derived.Deep.RegionHeld3
import Derived.Deep.DeepMust
import Derived.Deep.DeepCutAuto
set_option linter.unusedSimpArgs false
set_option linter.unusedVariables false
set_option maxRecDepth 100000
set_option maxHeartbeats 4000000
namespace Go.Proofs.YtleolbpibjnedaaGreat
open Go Go.RowKit Gc
def IsNode(w:World)(k t:Str)(i:Int)(a:Option Addr)(n c:Nat)(e:Ending)(w':World):Prop :=
 e=.returned (.agg #[.string k,.string t,.int .i64 i,.slice a n c])∧Kept (fun _=>False) w w'
abbrev zeroN:Obj:=.cells #[.string ⟨#[]⟩,.string ⟨#[]⟩,.int .i64 0,.slice none 0 0] 30
theorem keptSet4{w w1:World}(hk:Kept (fun _=>False) (w.alloc zeroN) w1){v0 v1 v2 v3:Value} :
 Kept (fun _=>False) w ((((w1.setCell ⟨w.heap.size,0,none⟩ v0).setCell ⟨w.heap.size,1,none⟩ v1).setCell ⟨w.heap.size,2,none⟩ v2).setCell ⟨w.heap.size,3,none⟩ v3) :=
 (((keptA.trans hk).mono (M':=fun b=>False∨w.heap.size≤b) fun _ _ f=>f.elim).trans ((Kept.set4 (M:=fun b=>b=w.heap.size) rfl).mono fun b _ h=>.inr (by omega))).fresh (Nat.le_refl _)
theorem none_any(w:World):Calls Tryz.prog 21 #[] w (IsNode w sE sE 0 none 0 0):=by
 go_enter Tryz.func21,Tryz.ntmps21
 go_wp2_with fail
 refine bodyPost_ret (v:=.agg #[.string ⟨#[]⟩,.string ⟨#[]⟩,.int .i64 0,.slice none 0 0]) (by simp[results,Tryz.results21,go_sem];done) rfl ?_
 exact⟨rfl,keptA⟩
theorem name_any(w:World)(s:Str)(i:Int):Calls Tryz.prog 22 #[.string s,.int .i64 i] w (IsNode w kIdent s i none 0 0):=by
 go_enter Tryz.func22,Tryz.ntmps22
 go_wp2_with fail
 refine bodyPost_ret (v:=.agg #[.string kIdent,.string s,.int .i64 i,.slice none 0 0]) (by simp[results,Tryz.results22,go_sem,kIdent];done) rfl ?_
 exact⟨rfl,keptA⟩
theorem part_any(w:World)(k:Str)(a:Option Addr)(n c:Nat):Calls Tryz.prog 18 #[.string k,.slice a n c] w (IsNode w k sE 0 a n c):=by
 go_enter Tryz.func18,Tryz.ntmps18
 go_wp2_with fail
 refine bodyPost_ret (v:=.agg #[.string k,.string ⟨#[]⟩,.int .i64 0,.slice a n c]) (by simp[results,Tryz.results18,go_sem];done) rfl ?_
 exact⟨rfl,keptA⟩
theorem listOf_any(w:World)(a:Option Addr)(n c:Nat):Calls Tryz.prog 36 #[.slice a n c] w (IsNode w kList sE 0 a n c):=by
 go_enter Tryz.func36,Tryz.ntmps36
 go_wp2_with fail
 refine(part_any _ _ a n c).mono ?_
 rintro e w1 ⟨rfl,hk⟩
 obtain⟨r0,r1,r2,r3,q0,q1,q2,q3⟩:=slot4 (hk.obj (heap_alloc_new w zeroN) (fun f=>f))
 have z1:w.heap.size<w1.heap.size:=by have:=hk.size;simp at this;omega
 go_wp2_with fail
 refine bodyPost_ret (v:=.agg #[.string kList,.string ⟨#[]⟩,.int .i64 0,.slice a n c]) (by simp[results,Tryz.results36,go_sem,kList,r0,r1,r2,r3,z1,sE];done) rfl ?_
 exact⟨rfl,keptSet4 hk⟩
theorem variable_any(w:World)(n:Nat)(hn:n<4)(NN:Int)(hN:NN=n):Calls Tryz.prog 97 #[.int .i64 NN] w (IsNode w kIdent (strOf [118,(97+n).toUInt8]) (n+1:Nat) none 0 0):=by
 have henc:Utf8.encode (97+NN)=strOf [(97+n).toUInt8]:=by
  have:n=0∨n=1∨n=2∨n=3:=by omega
  subst hN
  rcases this with rfl|rfl|rfl|rfl<;>rfl
 have hsz:(Utf8.encode (97+NN)).size=1:=by rw[henc,strOf_size];rfl
 have h0:0≤NN:=by omega
 have h1:NN≤3:=by omega
 have He:=Lib.hid henc
 have HN:=Lib.hid hN
 clear henc hN
 go_enter Tryz.func97,Tryz.ntmps97
 go_wp2_with fail
 refine(name_any _ _ _).mono ?_
 rintro e w1 ⟨rfl,hk⟩
 obtain⟨r0,r1,r2,r3,q0,q1,q2,q3⟩:=slot4 (hk.obj (heap_alloc_new w zeroN) (fun f=>f))
 have z1:w.heap.size<w1.heap.size:=by have:=hk.size;simp at this;omega
 go_wp2_with fail
 refine bodyPost_ret (v:=.agg #[.string kIdent,.string (⟨#[118]⟩++Utf8.encode (97+NN)),.int .i64 (NN+1),.slice none 0 0]) (by simp[results,Tryz.results97,go_sem,r0,r1,r2,r3,z1];done) rfl ?_
 refine⟨?_,keptSet4 hk⟩
 have e1:NN+1=((n+1:Nat):Int):=by have:=HN.out;omega
 have e2:(⟨#[118]⟩:ByteArray)++Utf8.encode (97+NN)=strOf [118,(97+n).toUInt8]:=by
  rw[He.out]
  exact strOf_append [118] _
 rw[e1,e2]
def NodeP(w:World)(x:N)(e:Ending)(w':World):Prop :=
 ∃ (k t:Str) (i:Int) (a:Option Addr) (n c:Nat),e=.returned (.agg #[.string k,.string t,.int .i64 i,.slice a n c])∧Rep w' (fun b=>w.heap.size≤b) x.g [.string k,.string t,.int .i64 i,.slice a n c]∧Kept (fun _=>False) w w'
def ExprN(t:T):Prop:=∀ (w:World) (D:Nat→Prop) (v0 v1 v2 v3 v4:Value),Rep w D t.g [v0,v1,v2,v3,v4]→Calls Tryz.prog 98 #[.agg #[v0,v1,v2,v3,v4]] w (NodeP w (t.N 0))
theorem x_inv{w:World}{D:Nat→Prop}{kind n:Nat}{op:Str}{kids body:T}{v0 v1 v2 v3 v4:Value}(h:Rep w D (T.x kind n op kids body).g [v0,v1,v2,v3,v4]) :
 v0=.int .i64 kind∧v1=.int .i64 n∧v2=.string op∧Rep w D kids.g [v3]∧Rep w D body.g [v4]:=by
 obtain⟨_,e0,_,e1,_,e2,v,rs,e3,h3,v',rs',e4,h4,e5⟩:=h
 simp only[List.cons.injEq]at e0
 obtain⟨rfl,rfl⟩:=e0
 simp only[List.cons.injEq]at e1
 obtain⟨rfl,rfl⟩:=e1
 simp only[List.cons.injEq]at e2
 obtain⟨rfl,rfl⟩:=e2
 simp only[List.cons.injEq]at e3
 obtain⟨rfl,rfl⟩:=e3
 simp only[List.cons.injEq]at e4
 obtain⟨rfl,rfl⟩:=e4
 exact⟨rfl,rfl,rfl,h3,h4⟩
theorem list_val{w:World}{D:Nat→Prop}{l:G}(hl:l.isList){v:Value}(h:Rep w D l [v]):∃ a n c,v=.slice a n c∧n=l.len:=by
 cases l with
 | nil=>obtain⟨a,c,e⟩:=h;exact⟨a,0,c,by simpa using e,rfl⟩
 | cons hd tl =>
   have h':=h
   obtain⟨g,o,n,c,hs,e,_⟩:=h
   have e':v=.slice (some ⟨g,o,none⟩) (n+1) (c+1):=by simpa using e
   subst e'
   exact⟨_,_,_,rfl,Rep.len_eq hl h'⟩
 | _=>exact hl.elim
theorem node_leaf{w w':World}{k t:Str}{i:Int}(hk:Kept (fun _=>False) w w'):NodeP w (.n k t i .nil) (.returned (.agg #[.string k,.string t,.int .i64 i,.slice none 0 0])) w' :=
 ⟨k,t,i,none,0,0,rfl,⟨_,rfl,_,rfl,_,rfl,_,_,rfl,⟨_,_,rfl⟩,rfl⟩,hk⟩
theorem keptBox{w w1:World}{o:Obj}(hk:Kept (fun _=>False) ((w.alloc o).alloc zeroN) w1){v0 v1 v2 v3:Value} :
 Kept (fun _=>False) w ((((w1.setCell ⟨w.heap.size+1,0,none⟩ v0).setCell ⟨w.heap.size+1,1,none⟩ v1).setCell ⟨w.heap.size+1,2,none⟩ v2).setCell ⟨w.heap.size+1,3,none⟩ v3) :=
 ((((keptA.trans keptA).trans hk).mono (M':=fun b=>False∨w.heap.size≤b) fun _ _ f=>f.elim).trans ((Kept.set4 (M:=fun b=>b=w.heap.size+1) rfl).mono fun b _ h=>.inr (by omega))).fresh (Nat.le_refl _)
theorem expr_var(n:Nat)(hn:n<4)(op:Str)(kids body:T)(hkl:kids.isList)(hbl:body.isList):ExprN (.x 1 n op kids body):=by
 intro w D v0 v1 v2 v3 v4 hr
 obtain⟨rfl,rfl,rfl,h3,h4⟩:=x_inv hr
 obtain⟨a3,n3,c3,rfl,-⟩:=list_val (T.g_isList _ hkl) h3
 obtain⟨a4,n4,c4,rfl,-⟩:=list_val (T.g_isList _ hbl) h4
 have hn0:(0:Int)≤n:=by omega
 have hn1:(n:Int)≤3:=by omega
 clear hr h3 h4
 go_enter Tryz.func98,Tryz.ntmps98
 go_wp2_with fail
 refine(variable_any _ n hn _ rfl).mono ?_
 rintro e w1 ⟨rfl,hk⟩
 have z0:=hk.size
 simp at z0
 obtain⟨r0,r1,r2,r3,q0,q1,q2,q3⟩:=slot4 (hk.obj (heap2_1 w _ zeroN) (fun f=>f))
 have z1:w.heap.size<w1.heap.size:=by omega
 have z2:w.heap.size+1<w1.heap.size:=by omega
 go_wp2_with fail
 refine bodyPost_ret (v:=.agg #[.string kIdent,.string (strOf [118,(97+n).toUInt8]),.int .i64 (n+1:Nat),.slice none 0 0]) (by simp[results,Tryz.results98,go_sem,r0,r1,r2,r3,z1,z2];done) rfl ?_
 exact node_leaf (keptBox hk)
theorem expr_litN(kind n:Nat)(hkind:kind=0)(op:Str)(kids body:T)(hkl:kids.isList)(hbl:body.isList):ExprN (.x kind n op kids body):=by
 intro w D v0 v1 v2 v3 v4 hr
 subst hkind
 obtain⟨rfl,rfl,rfl,h3,h4⟩:=x_inv hr
 obtain⟨a3,n3,c3,rfl,-⟩:=list_val (T.g_isList _ hkl) h3
 obtain⟨a4,n4,c4,rfl,-⟩:=list_val (T.g_isList _ hbl) h4
 clear hr h3 h4
 go_enter Tryz.func98,Tryz.ntmps98
 go_wp2_with fail
 refine bodyPost_ret (v:=.agg #[.string kLit,.string s7,.int .i64 1,.slice none 0 0]) (by simp[results,Tryz.results98,go_sem,kLit,s7];done) rfl ?_
 exact node_leaf (keptA.trans keptA)
theorem x_first{w:World}{D:Nat→Prop}{kind n:Nat}{op:Str}{kids body t:T}{a:Option Addr}{len cap:Nat}(h:Rep w D (T.cons (.x kind n op kids body) t).g [.slice a len cap]) :
 ∃ g o n' c' u3 u4,a=some ⟨g,o,none⟩∧len=n'+1∧cap=c'+1∧Rep w D (T.x kind n op kids body).g [.int .i64 kind,.int .i64 n,.string op,u3,u4] ∧
  w.cell? ⟨g,o,none⟩=some (.int .i64 kind)∧w.cell? ⟨g,o+1,none⟩=some (.int .i64 n)∧w.cell? ⟨g,o+2,none⟩=some (.string op)∧w.cell? ⟨g,o+3,none⟩=some u3∧w.cell? ⟨g,o+4,none⟩=some u4 ∧
  Rep w D t.g [.slice (some ⟨g,o+5,none⟩) n' c']:=by
 obtain⟨g,o,n',c',hs,e,_,hx,hc,ht⟩:=h
 simp only[List.cons.injEq,Value.slice.injEq,and_true]at e
 obtain⟨rfl,rfl,rfl⟩:=e
 have hx':=hx
 obtain⟨r0,rfl,r1,rfl,r2,rfl,u3,r3,rfl,h3,u4,r4,rfl,h4,rfl⟩:=hx
 exact⟨g,o,n',c',u3,u4,rfl,rfl,rfl,hx',hc 0 _ rfl,hc 1 _ rfl,hc 2 _ rfl,hc 3 _ rfl,hc 4 _ rfl,ht⟩
theorem expr_two(ka na:Nat)(opa:Str)(kidsa bodya:T)(kb nb:Nat)(opb:Str)(kidsb bodyb:T)(hA:ExprN (.x ka na opa kidsa bodya))(hB:ExprN (.x kb nb opb kidsb bodyb))(n:Nat)(op:Str) :
 ExprN (.x 2 n op (.cons (.x ka na opa kidsa bodya) (.cons (.x kb nb opb kidsb bodyb) .nil)) .nil):=by
 intro w D v0 v1 v2 v3 v4 hr
 obtain⟨rfl,rfl,rfl,h3,h4⟩:=x_inv hr
 obtain⟨a3,n3,c3,rfl,-⟩:=list_val (T.g_isList _ (by trivial)) h3
 obtain⟨a4,n4,c4,rfl,-⟩:=list_val (T.g_isList _ (by trivial)) h4
 obtain⟨g,o,n',c',a5,a6,rfl,rfl,rfl,hra,p0,p1,p2,p3,p4,ht⟩:=x_first h3
 obtain⟨g',o',n'',c'',b5,b6,e,rfl,rfl,hrb,s0,s1,s2,s3,s4,ht'⟩:=x_first ht
 obtain rfl:n''=0:=by obtain⟨_,_,e⟩:=ht';simp only[List.cons.injEq,Value.slice.injEq,and_true]at e;exact e.2.1
 simp only[Option.some.injEq,Addr.mk.injEq,and_true]at e
 obtain⟨rfl,rfl⟩:=e
 have Hra:=Lib.hid hra
 have Hrb:=Lib.hid hrb
 have hA':=Lib.hid hA
 have hB':=Lib.hid hB
 have hsz:=World.block_lt_of_cell? w _ p0
 simp only[]at hsz
 clear hr h3 h4 hra hrb hA hB ht ht'
 go_enter Tryz.func98,Tryz.ntmps98
 go_upto_region 5 with fail
 obtain⟨W0,hW0⟩:∃ W0,W0=(w.alloc (.cells #[.int .i64 2,.int .i64 n,.string op,.slice (some ⟨g,o,none⟩) (0+1+1) (c''+1+1),.slice a4 n4 c4] 64)).alloc zeroN:=⟨_,rfl⟩
 rw[← hW0]
 have K0:Kept (fun b=>b=w.heap.size+1) w W0:=by rw[hW0];exact keptA.trans keptA
 have ob:=hW0▸heap2_0 w _ zeroN
 have oz:W0.heap[w.heap.size+1]?=some zeroN:=hW0▸heap2_1 w _ zeroN
 obtain⟨x0,x1,x2,x3,x4,_⟩:=slot5 ob
 have z0:w.heap.size+1<W0.heap.size:=by rw[hW0];simp
 clear hW0
 have rule:∀ wx:World,Kept (fun b=>b=w.heap.size+1) W0 wx→wx.cell? ⟨g,o,none⟩=some (.int .i64 ka)∧wx.cell? ⟨g,o+1,none⟩=some (.int .i64 na)∧wx.cell? ⟨g,o+2,none⟩=some (.string opa)∧wx.cell? ⟨g,o+3,none⟩=some a5∧wx.cell? ⟨g,o+4,none⟩=some a6 ∧
  wx.cell? ⟨g,o+5,none⟩=some (.int .i64 kb)∧wx.cell? ⟨g,o+5+1,none⟩=some (.int .i64 nb)∧wx.cell? ⟨g,o+5+2,none⟩=some (.string opb)∧wx.cell? ⟨g,o+5+3,none⟩=some b5∧wx.cell? ⟨g,o+5+4,none⟩=some b6 ∧
  wx.cell? ⟨w.heap.size,2,none⟩=some (.string op)∧wx.cell? ⟨w.heap.size,3,none⟩=some (.slice (some ⟨g,o,none⟩) (0+1+1) (c''+1+1)):=fun wx hk =>
  have hk':=K0.trans hk
  have hne:∀ i,¬ (⟨g,i,none⟩:Addr).block=w.heap.size+1:=fun i=>by simp only[];omega
  ⟨hk'.cell p0 (hne _),hk'.cell p1 (hne _),hk'.cell p2 (hne _),hk'.cell p3 (hne _),hk'.cell p4 (hne _),hk'.cell s0 (hne _),hk'.cell s1 (hne _),hk'.cell s2 (hne _),hk'.cell s3 (hne _),hk'.cell s4 (hne _),hk.cell x2 (by simp),hk.cell x3 (by simp)⟩
 go_region_held3 (fun wx=>Kept (fun b=>b=w.heap.size+1) W0 wx) (first | assumption | exact keptD | exact Kept.trans (by assumption) keptA | exact Kept.trans (by assumption) ((Kept.set4 (M:=fun b=>b=w.heap.size+1) rfl).trans keptA)) (first
  | (have _hh:=hk1;go_at_call 98;refine(hB'.out _ (fun b=>b<w.heap.size) _ _ _ _ _ ((Hrb.out.imp fun b hl _=>hl).kept (K0.trans (by assumption)) (fun b hb=>by omega))).mono ?_;rintro e w3 ⟨k2,t2,i2,l2,m2,d2,rfl,R2,hk2⟩;have hS3:Kept (fun b=>b=w.heap.size+1) W0 w3:=Kept.trans (by assumption) (hk2.mono fun _ _ f=>f.elim);have oz3:w3.heap[w.heap.size+1]?=some zeroN:=hk2.obj (hk1.obj oz (fun f=>f)) (fun f=>f);obtain⟨r0,r1,r2,r3,q0,q1,q2,q3⟩:=slot4 oz3;have z3:w.heap.size+1<w3.heap.size:=lt_of_heap oz3;have R2':=R2.imp (D':=fun b=>w.heap.size+1<b) (fun b _ hb=>by have:=lt_of_heap (hk1.obj oz (fun f=>f));(try simp at hb);omega);have R1'':=R1'.kept hk2 (fun _ _ f=>f))
  | (go_at_call 98;refine(hA'.out _ (fun b=>b<w.heap.size) _ _ _ _ _ ((Hra.out.imp fun b hl _=>hl).kept (K0.trans (by assumption)) (fun b hb=>by omega))).mono ?_;rintro e w2 ⟨k1,t1,i1,l1,m1,d1,rfl,R1,hk1⟩;have hS2:Kept (fun b=>b=w.heap.size+1) W0 w2:=Kept.trans (by assumption) (hk1.mono fun _ _ f=>f.elim);have R1':=R1.imp (D':=fun b=>w.heap.size+1<b) (fun b _ hb=>by(try simp at hb);omega)))
 go_wp2_with fail
 have z4:w.heap.size<w3.heap.size:=by omega
 refine bodyPost_ret (v:=.agg #[.string kBin,.string op,.int .i64 0,.slice (some ⟨w3.heap.size,0,none⟩) 2 2]) (by simp[results,Tryz.results98,go_sem,kBin,r0,r1,r2,r3,z3,z4];done) rfl ?_
 rw[show(T.x 2 n op (.cons (.x ka na opa kidsa bodya) (.cons (.x kb nb opb kidsb bodyb) .nil)) .nil).N 0=.n kBin op 0 (.cons ((T.x ka na opa kidsa bodya).N 0) (.cons ((T.x kb nb opb kidsb bodyb).N 0) .nil)) by simp[T.N]]
 have kF:∀ {u0 u1 u2 u3:Value} {ob:Obj},Kept (fun b=>b=w.heap.size+1) w3 (((((w3.setCell ⟨w.heap.size+1,0,none⟩ u0).setCell ⟨w.heap.size+1,1,none⟩ u1).setCell ⟨w.heap.size+1,2,none⟩ u2).setCell ⟨w.heap.size+1,3,none⟩ u3).alloc ob):=(Kept.set4 (M:=fun b=>b=w.heap.size+1) rfl).trans keptA
 refine⟨kBin,op,0,_,2,2,rfl,⟨_,rfl,_,rfl,_,rfl,_,_,rfl,rep_two (xs:=[_,_,_,_]) (ys:=[_,_,_,_]) (heap_new_at (by simp) _) (by omega) ((R1''.kept kF (fun b hb=>by omega)).imp fun b _ hb=>by omega) ((R2'.kept kF (fun b hb=>by omega)).imp fun b _ hb=>by omega),rfl⟩,?_⟩
 exact(((K0.trans hS3).trans kF).mono (M':=fun b=>False∨w.heap.size≤b) fun b _ h=>.inr (by omega)).fresh (Nat.le_refl _)
theorem expr_notN(ka na:Nat)(opa:Str)(kidsa bodya:T)(hA:ExprN (.x ka na opa kidsa bodya))(n:Nat)(op:Str) :
 ExprN (.x 3 n op (.cons (.x ka na opa kidsa bodya) .nil) .nil):=by
 intro w D v0 v1 v2 v3 v4 hr
 obtain⟨rfl,rfl,rfl,h3,h4⟩:=x_inv hr
 obtain⟨a3,n3,c3,rfl,-⟩:=list_val (T.g_isList _ (by trivial)) h3
 obtain⟨a4,n4,c4,rfl,-⟩:=list_val (T.g_isList _ (by trivial)) h4
 obtain⟨g,o,n',c',a5,a6,rfl,rfl,rfl,hra,p0,p1,p2,p3,p4,ht⟩:=x_first h3
 obtain rfl:n'=0:=by obtain⟨_,_,e⟩:=ht;simp only[List.cons.injEq,Value.slice.injEq,and_true]at e;exact e.2.1
 have Hra:=Lib.hid hra
 have hA':=Lib.hid hA
 have hsz:=World.block_lt_of_cell? w _ p0
 simp only[]at hsz
 clear hr h3 h4 hra hA ht
 go_enter Tryz.func98,Tryz.ntmps98
 go_upto_region 7 with fail
 obtain⟨W0,hW0⟩:∃ W0,W0=(w.alloc (.cells #[.int .i64 3,.int .i64 n,.string op,.slice (some ⟨g,o,none⟩) (0+1) (c'+1),.slice a4 n4 c4] 64)).alloc zeroN:=⟨_,rfl⟩
 rw[← hW0]
 have K0:Kept (fun b=>b=w.heap.size+1) w W0:=by rw[hW0];exact keptA.trans keptA
 have ob:=hW0▸heap2_0 w _ zeroN
 have oz:W0.heap[w.heap.size+1]?=some zeroN:=hW0▸heap2_1 w _ zeroN
 obtain⟨x0,x1,x2,x3,x4,_⟩:=slot5 ob
 have z0:w.heap.size+1<W0.heap.size:=by rw[hW0];simp
 clear hW0
 have hne:∀ i,¬ (⟨g,i,none⟩:Addr).block=w.heap.size+1:=fun i=>by simp only[];omega
 have P0:=K0.cell p0 (hne _)
 have P1:=K0.cell p1 (hne _)
 have P2:=K0.cell p2 (hne _)
 have P3:=K0.cell p3 (hne _)
 have P4:=K0.cell p4 (hne _)
 go_wp2_with fail
 refine(hA'.out _ (fun b=>b<w.heap.size) _ _ _ _ _ ((Hra.out.imp fun b hl _=>hl).kept K0 (fun b hb=>by omega))).mono ?_
 rintro e w2 ⟨k1,t1,i1,l1,m1,d1,rfl,R1,hk1⟩
 have oz2:w2.heap[w.heap.size+1]?=some zeroN:=hk1.obj oz (fun f=>f)
 obtain⟨r0,r1,r2,r3,q0,q1,q2,q3⟩:=slot4 oz2
 have z2:w.heap.size+1<w2.heap.size:=lt_of_heap oz2
 have R1':=R1.imp (D':=fun b=>w.heap.size+1<b) (fun b _ hb=>by omega)
 have z4:w.heap.size<w2.heap.size:=by omega
 go_wp2_with fail
 refine bodyPost_ret (v:=.agg #[.string kUn,.string sNot,.int .i64 0,.slice (some ⟨w2.heap.size,0,none⟩) 1 1]) (by simp[results,Tryz.results98,go_sem,kUn,sNot,r0,r1,r2,r3,z2,z4];done) rfl ?_
 rw[show(T.x 3 n op (.cons (.x ka na opa kidsa bodya) .nil) .nil).N 0=.n kUn sNot 0 (.cons ((T.x ka na opa kidsa bodya).N 0) .nil) by simp[T.N]]
 have kF:∀ {u0 u1 u2 u3:Value} {ob:Obj},Kept (fun b=>b=w.heap.size+1) w2 (((((w2.setCell ⟨w.heap.size+1,0,none⟩ u0).setCell ⟨w.heap.size+1,1,none⟩ u1).setCell ⟨w.heap.size+1,2,none⟩ u2).setCell ⟨w.heap.size+1,3,none⟩ u3).alloc ob):=(Kept.set4 (M:=fun b=>b=w.heap.size+1) rfl).trans keptA
 refine⟨kUn,sNot,0,_,1,1,rfl,⟨_,rfl,_,rfl,_,rfl,_,_,rfl,rep_one (xs:=[_,_,_,_]) (heap_new_at (by simp) _) (by omega) ((R1'.kept kF (fun b hb=>by omega)).imp fun b _ hb=>by omega),rfl⟩,?_⟩
 exact(((K0.trans (hk1.mono fun _ _ f=>f.elim)).trans kF).mono (M':=fun b=>False∨w.heap.size≤b) fun b _ h=>.inr (by omega)).fresh (Nat.le_refl _)
theorem expr_parN(ka na:Nat)(opa:Str)(kidsa bodya:T)(hA:ExprN (.x ka na opa kidsa bodya))(n:Nat)(op:Str) :
 ExprN (.x 4 n op (.cons (.x ka na opa kidsa bodya) .nil) .nil):=by
 intro w D v0 v1 v2 v3 v4 hr
 obtain⟨rfl,rfl,rfl,h3,h4⟩:=x_inv hr
 obtain⟨a3,n3,c3,rfl,-⟩:=list_val (T.g_isList _ (by trivial)) h3
 obtain⟨a4,n4,c4,rfl,-⟩:=list_val (T.g_isList _ (by trivial)) h4
 obtain⟨g,o,n',c',a5,a6,rfl,rfl,rfl,hra,p0,p1,p2,p3,p4,ht⟩:=x_first h3
 obtain rfl:n'=0:=by obtain⟨_,_,e⟩:=ht;simp only[List.cons.injEq,Value.slice.injEq,and_true]at e;exact e.2.1
 have Hra:=Lib.hid hra
 have hA':=Lib.hid hA
 have hsz:=World.block_lt_of_cell? w _ p0
 simp only[]at hsz
 clear hr h3 h4 hra hA ht
 go_enter Tryz.func98,Tryz.ntmps98
 go_upto_region 9 with fail
 obtain⟨W0,hW0⟩:∃ W0,W0=(w.alloc (.cells #[.int .i64 4,.int .i64 n,.string op,.slice (some ⟨g,o,none⟩) (0+1) (c'+1),.slice a4 n4 c4] 64)).alloc zeroN:=⟨_,rfl⟩
 rw[← hW0]
 have K0:Kept (fun b=>b=w.heap.size+1) w W0:=by rw[hW0];exact keptA.trans keptA
 have ob:=hW0▸heap2_0 w _ zeroN
 have oz:W0.heap[w.heap.size+1]?=some zeroN:=hW0▸heap2_1 w _ zeroN
 obtain⟨x0,x1,x2,x3,x4,_⟩:=slot5 ob
 have z0:w.heap.size+1<W0.heap.size:=by rw[hW0];simp
 clear hW0
 have hne:∀ i,¬ (⟨g,i,none⟩:Addr).block=w.heap.size+1:=fun i=>by simp only[];omega
 have P0:=K0.cell p0 (hne _)
 have P1:=K0.cell p1 (hne _)
 have P2:=K0.cell p2 (hne _)
 have P3:=K0.cell p3 (hne _)
 have P4:=K0.cell p4 (hne _)
 go_wp2_with fail
 refine(hA'.out _ (fun b=>b<w.heap.size) _ _ _ _ _ ((Hra.out.imp fun b hl _=>hl).kept K0 (fun b hb=>by omega))).mono ?_
 rintro e w2 ⟨k1,t1,i1,l1,m1,d1,rfl,R1,hk1⟩
 have oz2:w2.heap[w.heap.size+1]?=some zeroN:=hk1.obj oz (fun f=>f)
 obtain⟨r0,r1,r2,r3,q0,q1,q2,q3⟩:=slot4 oz2
 have z2:w.heap.size+1<w2.heap.size:=lt_of_heap oz2
 have R1':=R1.imp (D':=fun b=>w.heap.size+1<b) (fun b _ hb=>by omega)
 have z4:w.heap.size<w2.heap.size:=by omega
 go_wp2_with fail
 refine(part_any _ _ _ _ _).mono ?_
 rintro e w3 ⟨rfl,hk3⟩
 have oz3:w3.heap[w.heap.size+1]?=some zeroN:=hk3.obj (keptA.obj (M:=fun _=>False) oz2 (fun f=>f)) (fun f=>f)
 obtain⟨r0',r1',r2',r3',q0',q1',q2',q3'⟩:=slot4 oz3
 have z3:w.heap.size+1<w3.heap.size:=lt_of_heap oz3
 have z5:w.heap.size<w3.heap.size:=by omega
 go_wp2_with fail
 refine bodyPost_ret (v:=.agg #[.string kParen,.string ⟨#[]⟩,.int .i64 0,.slice (some ⟨w2.heap.size,0,none⟩) 1 1]) (by simp[results,Tryz.results98,go_sem,kParen,sE,r0',r1',r2',r3',z3,z5];done) rfl ?_
 rw[show(T.x 4 n op (.cons (.x ka na opa kidsa bodya) .nil) .nil).N 0=.n kParen sE 0 (.cons ((T.x ka na opa kidsa bodya).N 0) .nil) by simp[T.N,N.part]]
 have kF:∀ {u0 u1 u2 u3:Value},Kept (fun b=>b=w.heap.size+1) w3 ((((w3.setCell ⟨w.heap.size+1,0,none⟩ u0).setCell ⟨w.heap.size+1,1,none⟩ u1).setCell ⟨w.heap.size+1,2,none⟩ u2).setCell ⟨w.heap.size+1,3,none⟩ u3):=Kept.set4 (M:=fun b=>b=w.heap.size+1) rfl
 have kG:=(keptA.trans (hk3.mono (M':=fun b=>b=w.heap.size+1) fun _ _ f=>f.elim))
 refine⟨kParen,sE,0,_,1,1,rfl,⟨_,rfl,_,rfl,_,rfl,_,_,rfl,rep_one (xs:=[_,_,_,_]) (kF.obj (hk3.obj (heap_alloc_new w2 _) (fun f=>f)) (by omega)) (by omega) (((R1'.kept kG (fun b hb=>by omega)).kept kF (fun b hb=>by omega)).imp fun b _ hb=>by omega),rfl⟩,?_⟩
 exact((((K0.trans (hk1.mono fun _ _ f=>f.elim)).trans kG).trans kF).mono (M':=fun b=>False∨w.heap.size≤b) fun b _ h=>.inr (by omega)).fresh (Nat.le_refl _)
end Go.Proofs.YtleolbpibjnedaaGreat
namespace Gc
open Go
def T.get:T→Nat→T
 | .cons h _,0=>h
 | .cons _ t,k+1=>t.get k
 | _,_=>.nil
def T.pre:T→Nat→Gc.N
 | .cons h t,k+1=>.cons (h.N 0) (t.pre k)
 | _,_=>.nil
theorem T.pre_zero(t:T):t.pre 0=.nil:=by cases t<;>rfl
theorem T.pre_isList:∀ (t:T) (k:Nat),(t.pre k).isList
 | .cons _ t,k+1=>T.pre_isList t k
 | .cons _ _,0 | .nil,_ | .x ..,_ | .s ..,_=>trivial
theorem T.pre_succ:∀ (t:T) (k:Nat),k<t.len→t.pre (k+1)=(t.pre k).snoc ((t.get k).N 0)
 | .cons h t,0,_=>by simp only[T.pre,T.pre_zero,N.snoc,T.get]
 | .cons h t,k+1,hk=>by
   have:=T.pre_succ t k (by simp only[T.len]at hk;omega)
   simp only[T.pre,N.snoc,T.get]
   exact congrArg _ this
 | .nil,_,h | .x ..,_,h | .s ..,_,h=>by simp[T.len]at h
theorem T.pre_all:∀ (t:T),t.isList→t.pre t.len=t.N 0
 | .cons h t,hl=>by
   simp only[T.len,T.pre]
   rw[T.pre_all t hl]
   simp[T.N]
 | .nil,_=>rfl
 | .x ..,h=>h.elim
 | .s ..,h=>h.elim
def T.All(P:T→Prop):T→Prop
 | .cons h t=>P h∧t.All P
 | _=>True
theorem T.All.get{P:T→Prop}:∀ {t:T} {k:Nat},t.All P→k<t.len→P (t.get k)
 | .cons _ _,0,h,_=>h.1
 | .cons _ t,k+1,h,hk=>T.All.get (t:=t) h.2 (by simp only[T.len]at hk;omega)
 | .nil,_,_,h | .x ..,_,_,h | .s ..,_,_,h=>by simp[T.len]at h
theorem T.rep_at{w:World}{D:Nat→Prop}(sz:Nat):∀ {t:T} {g o n c k:Nat},Rep w D t.g [.slice (some ⟨g,o,none⟩) n c]→t.isList→(∀ hs h,Rep w D h hs→t.All (fun x=>x.g=h→hs.length=sz))→k<t.len →
 ∃ hs,Rep w D (t.get k).g hs∧hs.length=sz∧D g∧g<w.heap.size∧∀ j u,hs[j]?=some u→w.cell? ⟨g,o+k*sz+j,none⟩=some u
 | .cons h t,g,o,n,c,k,hr,hl,hs0,hk=>by
   obtain⟨g',o',n',c',hs,e,⟨hD,hg⟩,hx,hc,ht⟩:=hr
   simp only[List.cons.injEq,Value.slice.injEq,and_true,Option.some.injEq,Addr.mk.injEq]at e
   obtain⟨⟨rfl,rfl⟩,rfl,rfl⟩:=e
   have hlen:hs.length=sz:=(hs0 hs _ hx).1 rfl
   cases k with
   | zero=>exact⟨hs,hx,hlen,hD,hg,fun j u hu=>by rw[Nat.zero_mul,Nat.add_zero];exact hc j u hu⟩
   | succ k =>
     rw[hlen]at ht
     obtain⟨hs',h1,h2,h3,h4,h5⟩:=T.rep_at sz (t:=t) (k:=k) ht hl (fun hs h hh=>(hs0 hs h hh).2) (by simp only[T.len]at hk;omega)
     refine⟨hs',h1,h2,h3,h4,fun j u hu=>?_⟩
     have:=h5 j u hu
     rw[show o+(k+1)*sz+j=o+sz+k*sz+j by rw[Nat.add_mul];omega]
     exact this
 | .nil,_,_,_,_,_,_,_,_,h | .x ..,_,_,_,_,_,_,_,_,h | .s ..,_,_,_,_,_,_,_,_,h=>by simp[T.len]at h
end Gc
namespace Go.Proofs.YtleolbpibjnedaaGreat
open Go Go.RowKit Gc
def ExprX(t:T):Prop:=ExprN t∧∃ kind n op kids body,t=.x kind n op kids body∧kids.isList∧body.isList
structure RowI (W0:World) (l:N) (k:Nat) (a:Option Addr) (cap:Nat) (wr:World):Prop where
 own:OwnL wr (fun b=>W0.heap.size≤b) W0.heap.size 30 4 (.slice a k cap) l.g
 len:l.len=k
 kept:Kept (fun b=>W0.heap.size≤b) W0 wr
theorem one4{k t:Str}{i:Int}{a:Option Addr}{n c:Nat}:∀ u∈[Value.string k,.string t,.int .i64 i,.slice a n c],u.oneCell'=true:=by
 intro u hu
 simp only[List.mem_cons,List.not_mem_nil,or_false]at hu
 rcases hu with rfl|rfl|rfl|rfl<;>rfl
theorem RowI.start(W0:World):RowI W0 .nil 0 (some ⟨W0.heap.size,0,none⟩) 0 (W0.alloc (.cells #[] 30)) :=
 ⟨⟨[],World.ownsRow_made W0 #[] 0 (Nat.le_refl _) (Nat.zero_le _) rfl,rfl⟩,rfl,keptA⟩
theorem RowI.app{W0 wr W w2:World}{l x:N}{k:Nat}{a:Option Addr}{cap:Nat}(I:RowI W0 l k a cap wr)(hA:Kept (fun _=>False) wr W)(hk:Kept (fun _=>False) W w2){kd t:Str}{i:Int}{b:Option Addr}{n c:Nat}
 (R:Rep w2 (fun b=>W.heap.size≤b) x.g [.string kd,.string t,.int .i64 i,.slice b n c]) (o:Obj) :
 OwnL (w2.alloc o) (fun b=>W0.heap.size≤b) W0.heap.size 30 4 (.slice a k cap) l.g ∧
 Rep (w2.alloc o) (fun b=>W0.heap.size≤b∧some b≠(Value.slice a k cap).ownBlock) x.g [.string kd,.string t,.int .i64 i,.slice b n c]∧W0.heap.size≤w2.heap.size:=by
 have h3:Kept (fun _=>False) wr (w2.alloc o):=(hA.trans hk).trans keptA
 have s0:=I.kept.size
 have s1:=hA.size
 have s2:=hk.size
 refine⟨I.own.kept h3 (fun _ _ f=>f) (fun _ _ f=>f),(R.kept (keptA (M:=fun _=>False)) (fun _ _ f=>f)).imp fun b _ hb=>⟨by omega,fun e=>?_⟩,by omega⟩
 have:=I.own.lt b e.symm
 omega
theorem RowI.next{W0 wr W w2 w4:World}{l x:N}{k:Nat}{a:Option Addr}{cap g cap':Nat}{o:Obj}(I:RowI W0 l k a cap wr)(hl:l.isList)(hA:Kept (fun _=>False) wr W)(hk:Kept (fun _=>False) W w2)
 (O4:OwnL w4 (fun b=>W0.heap.size≤b) W0.heap.size 30 4 (.slice (some ⟨g,0,none⟩) (k+1) cap') (l.g.snoc x.g))
 (K4:Kept (fun b=>some b=(Value.slice a k cap).ownBlock) (w2.alloc o) w4):RowI W0 (l.snoc x) (k+1) (some ⟨g,0,none⟩) cap' w4 :=
 ⟨by rw[N.g_snoc _ _ hl];exact O4,by rw[N.len_snoc _ _ hl,I.len],
  I.kept.trans (((hA.trans hk).trans keptA).mono (M':=fun b=>W0.heap.size≤b) (fun _ _ f=>f.elim) |>.trans (K4.mono fun b _ e=>(I.own.lt b e.symm).1))⟩
theorem slice_some{w:World}{D:Nat→Prop}{l:G}(hl:l.isList){a:Option Addr}{n c:Nat}(h:Rep w D l [.slice a n c])(hn:0<n):∃ g o,a=some ⟨g,o,none⟩:=by
 cases l with
 | nil=>obtain⟨_,_,e⟩:=h;simp only[List.cons.injEq,Value.slice.injEq,and_true]at e;omega
 | cons hd tl=>obtain⟨g,o,n',c',hs,e,_⟩:=h;simp only[List.cons.injEq,Value.slice.injEq,and_true]at e;exact⟨g,o,e.1⟩
 | _=>exact hl.elim
theorem all_x_len{w:World}{D:Nat→Prop}:∀ {t:T},t.All ExprX→∀ (hs:List Value) (h:G),Rep w D h hs→t.All (fun x=>x.g=h→hs.length=5)
 | .cons _ t,ha,hs,h,hr=>by
   refine⟨fun e=>?_,all_x_len ha.2 hs h hr⟩
   obtain⟨_,kind,n,op,kids,body,rfl,_⟩:=ha.1
   rw[← e]at hr
   obtain⟨r0,rfl,r1,rfl,r2,rfl,u3,r3,rfl,h3,u4,r4,rfl,h4,rfl⟩:=hr
   rfl
 | .nil,_,_,_,_ | .x ..,_,_,_,_ | .s ..,_,_,_,_=>trivial
theorem x_at{w:World}{D:Nat→Prop}{t:T}{g o n c k:Nat}(h:Rep w D t.g [.slice (some ⟨g,o,none⟩) n c])(hl:t.isList)(ha:t.All ExprX)(hk:k<t.len) :
 ∃ (kind nn:Nat) (op:Str) (a5:Option Addr) (n5 c5:Nat) (a6:Option Addr) (n6 c6:Nat),Rep w D (t.get k).g [.int .i64 kind,.int .i64 nn,.string op,.slice a5 n5 c5,.slice a6 n6 c6]∧ExprN (t.get k)∧g<w.heap.size ∧
  w.cell? ⟨g,o+k*5,none⟩=some (.int .i64 kind)∧w.cell? ⟨g,o+k*5+1,none⟩=some (.int .i64 nn)∧w.cell? ⟨g,o+k*5+2,none⟩=some (.string op) ∧
  w.cell? ⟨g,o+k*5+3,none⟩=some (.slice a5 n5 c5)∧w.cell? ⟨g,o+k*5+4,none⟩=some (.slice a6 n6 c6):=by
 obtain⟨hs,hx,hlen,_,hg,hc⟩:=T.rep_at 5 h hl (fun hs h hr=>all_x_len ha hs h hr) hk
 obtain⟨hE,kind,nn,op,kids,body,he,hkl,hbl⟩:=ha.get hk
 match hs,hlen with
 | [u0,u1,u2,u3,u4],_ =>
   have hx':=hx
   rw[he]at hx'
   obtain⟨rfl,rfl,rfl,h3,h4⟩:=x_inv hx'
   obtain⟨a5,n5,c5,rfl,-⟩:=list_val (T.g_isList _ hkl) h3
   obtain⟨a6,n6,c6,rfl,-⟩:=list_val (T.g_isList _ hbl) h4
   exact⟨kind,nn,op,a5,n5,c5,a6,n6,c6,hx,hE,hg,hc 0 _ rfl,hc 1 _ rfl,hc 2 _ rfl,hc 3 _ rfl,hc 4 _ rfl⟩
theorem expr_callN(n:Nat)(f:Str)(args:T)(hl:args.isList)(hmax:args.len≤100000)(hall:args.All ExprX):ExprN (.x 5 n f args .nil):=by
 intro w D v0 v1 v2 v3 v4 hr
 obtain⟨rfl,rfl,rfl,h3,h4⟩:=x_inv hr
 obtain⟨a3,n3,c3,rfl,hlen⟩:=list_val (T.g_isList _ hl) h3
 obtain⟨a4,n4,c4,rfl,-⟩:=list_val (T.g_isList _ (by trivial)) h4
 rw[T.g_len]at hlen
 have H3:=Lib.hid h3
 have Hall:=Lib.hid hall
 have Hlen:=Lib.hid hlen
 obtain⟨i0,hi,hz0,hz1,hz2⟩:=info_parts info_N
 have hn3:n3≤100000:=by omega
 clear hr h3 h4 hall hlen
 show Calls Tryz.prog 98 #[.agg #[.int .i64 5,.int .i64 n,.string f,.slice a3 n3 c3,.slice a4 n4 c4]] w _
 go_enter Tryz.func98,Tryz.ntmps98
 go_upto_region 11 with fail
 obtain⟨W0,hW0⟩:∃ W0,W0=(w.alloc (.cells #[.int .i64 5,.int .i64 n,.string f,.slice a3 n3 c3,.slice a4 n4 c4] 64)).alloc zeroN:=⟨_,rfl⟩
 rw[← hW0]
 have K0:Kept (fun _=>False) w W0:=by rw[hW0];exact keptA.trans keptA
 have ob:=hW0▸heap2_0 w _ zeroN
 have oz:W0.heap[w.heap.size+1]?=some zeroN:=hW0▸heap2_1 w _ zeroN
 obtain⟨x0,x1,x2,x3,x4,_⟩:=slot5 ob
 have z0:w.heap.size+1<W0.heap.size:=by rw[hW0];simp
 have z1:w.heap.size<W0.heap.size:=by omega
 clear hW0
 have hs0:=RowI.start W0
 go_wp2_with fail
 go_loopw [3,53] (fun v i wr=>∃ (k:Nat) (a:Option Addr) (cap:Nat),k≤n3∧v=.slice a k cap∧i=.int .i64 k∧RowI W0 (args.pre k) k a cap wr) (fun _ i _=>(n3-intOf i).toNat)
 case atStart=>exact⟨0,_,0,by omega,rfl,rfl,by rw[T.pre_zero];exact hs0⟩
 case round =>
  clear hs0
  obtain⟨k,a,cap,hk3,rfl,rfl,I⟩:=hrel
  by_cases hlt:(k:Int)<n3
  · obtain⟨g,o,rfl⟩:=slice_some (T.g_isList _ hl) H3.out (by omega)
    obtain⟨kd5,nn5,op5,a5,n5,c5,a6,n6,c6,hx,hE,hg,p0,p1,p2,p3,p4⟩:=x_at (k:=k) H3.out hl Hall.out (by have:=Hlen.out;omega)
    have K1:Kept (fun b=>w.heap.size+1<b) w wr:=(K0.mono fun _ _ f=>f.elim).trans (I.kept.mono fun b _ h=>by omega)
    have hxs:=I.kept.size
    have P0:=K1.cell p0 (by simp only[];omega)
    have P1:=K1.cell p1 (by simp only[];omega)
    have P2:=K1.cell p2 (by simp only[];omega)
    have P3:=K1.cell p3 (by simp only[];omega)
    have P4:=K1.cell p4 (by simp only[];omega)
    have hE':=Lib.hid hE
    have hx':=Lib.hid hx
    clear hx hE
    go_wp2_with fail
    refine(hE'.out _ (fun b=>b<w.heap.size) _ _ _ _ _ (((hx'.out.imp fun b hl _=>hl).kept K1 (fun b hb=>by omega)).kept (keptA (M:=fun _=>False)) (fun _ _ f=>f))).mono ?_
    rintro e w2 ⟨k1,t1,i1,l1,m1,d1,rfl,R1,hk1⟩
    go_wp2_with (at_builtin;go_must (refine wpList_append_one (D:=fun b=>W0.heap.size≤b) (base:=W0.heap.size) (v:=.slice a k cap) rfl (.tmp 57) (.tmp 60) 28 rfl i0 _ 64 ul_sN hi hz0 hz1 hz2 rfl rfl (I.app keptA hk1 R1 _).1 k (by rw[N.g_len,I.len]) ⟨w2.heap.size,0,none⟩ 1 rfl _ _ rfl (new_cells _ _ _) one4 (I.app keptA hk1 R1 _).2.1 (by omega) (by omega) (by have:=(I.app keptA hk1 R1 (Obj.cells #[] 66)).2.2;simp;omega) ?_);intro g4 cap' w4 O4 K4 hb4 hg4)
    have I':=I.next (T.pre_isList _ _) keptA hk1 O4 K4
    rw[← T.pre_succ _ _ (by have:=Hlen.out;omega)]at I'
    go_roundw
    · exact⟨k+1,_,_,by omega,rfl,by go_num,I'⟩
    · simp[intOf];omega
  · have X2:=I.kept.cell x2 (by simp only[];omega)
    have X3:=I.kept.cell x3 (by simp only[];omega)
    have ozr:=I.kept.obj oz (by omega)
    go_wp2_with fail
    refine(name_any _ _ _).mono ?_
    rintro e w2 ⟨rfl,hk2⟩
    go_wp2_with fail
    refine(listOf_any _ _ _ _).mono ?_
    rintro e w3 ⟨rfl,hk3⟩
    go_wp2_with fail
    refine(part_any _ _ _ _ _).mono ?_
    rintro e w4 ⟨rfl,hk4⟩
    have k23:=hk2.trans hk3
    have oz4:w4.heap[w.heap.size+1]?=some zeroN:=hk4.obj (keptA.obj (M:=fun _=>False) (k23.obj ozr (fun f=>f)) (fun f=>f)) (fun f=>f)
    obtain⟨r0,r1,r2,r3,q0,q1,q2,q3⟩:=slot4 oz4
    have z4:w.heap.size+1<w4.heap.size:=lt_of_heap oz4
    have z5:w.heap.size<w4.heap.size:=by omega
    go_wp2_with fail
    refine bodyPost_ret (v:=.agg #[.string kCall,.string sE,.int .i64 0,.slice (some ⟨w3.heap.size,0,none⟩) 2 2]) (by simp[results,Tryz.results98,go_sem,kCall,r0,r1,r2,r3,z4,z5];done) rfl ?_
    obtain rfl:k=args.len:=by have:=Hlen.out;omega
    have hI:=I.own.rep (D:=fun b=>W0.heap.size≤b) (fun b h0 _=>h0)
    rw[T.pre_all _ hl]at hI
    rw[show(T.x 5 n f args .nil).N 0=.part kCall (.two (.name f 0) (.list (args.N 0))) by simp[T.N]]
    have kF:∀ {u0 u1 u2 u3:Value},Kept (fun b=>b=w.heap.size+1) w4 ((((w4.setCell ⟨w.heap.size+1,0,none⟩ u0).setCell ⟨w.heap.size+1,1,none⟩ u1).setCell ⟨w.heap.size+1,2,none⟩ u2).setCell ⟨w.heap.size+1,3,none⟩ u3):=Kept.set4 (M:=fun b=>b=w.heap.size+1) rfl
    have k34:Kept (fun _=>False) w3 w4:=keptA.trans hk4
    have kr4:Kept (fun _=>False) wr w4:=k23.trans k34
    have szr:=I.kept.size
    have sz3:=k23.size
    refine⟨kCall,sE,0,_,2,2,rfl,⟨_,rfl,_,rfl,_,rfl,_,_,rfl,rep_two (xs:=[_,_,_,_]) (ys:=[_,_,_,_]) (kF.obj (hk4.obj (heap_alloc_new w3 _) (fun f=>f)) (by omega)) (by omega) ?_ ?_,rfl⟩,?_⟩
    · exact⟨_,rfl,_,rfl,_,rfl,_,_,rfl,⟨_,_,rfl⟩,rfl⟩
    · exact⟨_,rfl,_,rfl,_,rfl,_,_,rfl,(((hI.kept kr4 (fun _ _ f=>f)).kept kF (fun b hb=>by omega)).imp fun b _ hb=>by omega),rfl⟩
    · exact((((K0.mono fun _ _ f=>f.elim).trans (I.kept.mono (M':=fun b=>False∨w.heap.size≤b) fun b _ h=>.inr (by omega))).trans (kr4.mono fun _ _ f=>f.elim)).trans (kF.mono fun b _ h=>.inr (by omega))).fresh (Nat.le_refl _)
end Go.Proofs.YtleolbpibjnedaaGreat
