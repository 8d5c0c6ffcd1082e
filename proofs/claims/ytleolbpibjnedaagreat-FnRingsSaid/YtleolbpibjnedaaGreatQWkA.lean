/- Which parts of syntax the laws' trees become; how many nodes, how deep, how many ways. -/
import Derived.Test.YtleolbpibjnedaaGreatQBdC
import Derived.Test.YtleolbpibjnedaaGreatQBdA
import Derived.Test.YtleolbpibjnedaaGreatQBdD
import Derived.Deep.DeepMust
set_option linter.unusedSimpArgs false
set_option linter.unusedVariables false
set_option maxRecDepth 100000
set_option maxHeartbeats 4000000
namespace Gc
open Go
inductive VS | k (k:K) | Es | Ss | Cs | Ms
def isEk:K→Prop
 | .ident | .lit | .flit | .paren | .call | .un | .bin=>True
 | _=>False
def isSk:K→Prop
 | .exprS | .inc | .assign | .ret | .branch | .block | .if_ | .switch | .select | .for_ | .range | .labeled=>True
 | _=>False
inductive V:VS→N→Prop
 | ident (s:Str) (i:Int) (h0:0≤i) (h1:i≤1000000):V (.k .ident) (.n kIdent s i .nil)
 | lit (s:Str):V (.k .lit) (.n kLit s 1 .nil)
 | flit (l:N) (hl:V .Ss l):V (.k .flit) (.part kFuncLit (.two .ftype (.block l)))
 | paren (k:K) (x:N) (hk:isEk k) (hx:V (.k k) x):V (.k .paren) (.part kParen (.one x))
 | call (f:Str) (args:N) (hf:isName f) (h:V .Es args):V (.k .call) (.part kCall (.two (.name f 0) (.list args)))
 | un (op:Str) (h:op=sNot∨op=sArrow) (k:K) (x:N) (hk:isEk k) (hx:V (.k k) x):V (.k .un) (.n kUn op 0 (.one x))
 | bin (op:Str) (h:isOp2 op) (ka kb:K) (a b:N) (hka:isEk ka) (hkb:isEk kb) (ha:V (.k ka) a) (hb:V (.k kb) b):V (.k .bin) (.n kBin op 0 (.two a b))
 | exprS (k:K) (x:N) (hk:isEk k) (hx:V (.k k) x):V (.k .exprS) (.part kExprS (.one x))
 | assign (op:Str) (h:op=⟨#[61]⟩∨op=⟨#[43,61]⟩) (a b:N) (ha:V .Es a) (hb:V .Es b):V (.k .assign) (.n kAssign op 0 (.two (.list a) (.list b)))
 | inc (op:Str) (h:op=sInc∨op=sDec) (k:K) (x:N) (hk:isEk k) (hx:V (.k k) x):V (.k .inc) (.n kInc op 0 (.one x))
 | ifNo (k:K) (x l:N) (hk:isEk k) (hx:V (.k k) x) (hl:V .Ss l):V (.k .if_) (.part kIf (.four .none x (.block l) .none))
 | ifElse (k ks:K) (x l y:N) (hk:isEk k) (hks:isSk ks) (hx:V (.k k) x) (hl:V .Ss l) (hy:V (.k ks) y):V (.k .if_) (.part kIf (.four .none x (.block l) y))
 | for_ (k:K) (x l:N) (hk:isEk k) (hx:V (.k k) x) (hl:V .Ss l):V (.k .for_) (.part kFor (.four .none x .none (.block l)))
 | range (k:K) (x l:N) (hk:isEk k) (hx:V (.k k) x) (hl:V .Ss l):V (.k .range) (.part kRange (.four .none .none x (.block l)))
 | switch (k:K) (x l:N) (hk:isEk k) (hx:V (.k k) x) (hl:V .Cs l):V (.k .switch) (.part kSwitch (.three .none x (.part kBlock (.one (.list l)))))
 | select (l:N) (hl:V .Ms l):V (.k .select) (.part kSelect (.one (.part kBlock (.one (.list l)))))
 | branch (op:Str) (h:op=sBreak∨op=sContinue):V (.k .branch) (.n kBranch op 0 (.one .none))
 | branchTo (op:Str) (h:op=sBreak∨op=sContinue) (x:N) (hx:V (.k .ident) x):V (.k .branch) (.n kBranch op 0 (.one x))
 | ret (a:N) (ha:V .Es a):V (.k .ret) (.part kReturn (.one (.list a)))
 | block (l:N) (hl:V .Ss l):V (.k .block) (.block l)
 | labeled (x:N) (ks:K) (y:N) (hks:isSk ks) (hx:V (.k .ident) x) (hy:V (.k ks) y):V (.k .labeled) (.part kLabeled (.two x y))
 | caseNo (l:N) (hl:V .Ss l):V (.k .case_) (.part kCase (.two .none (.list l)))
 | case_ (a l:N) (ha:V .Es a) (hl:V .Ss l):V (.k .case_) (.part kCase (.two (.list a) (.list l)))
 | commNo (l:N) (hl:V .Ss l):V (.k .comm) (.part kComm (.two .none (.list l)))
 | comm (x l:N) (hx:V (.k .exprS) x) (hl:V .Ss l):V (.k .comm) (.part kComm (.two x (.list l)))
 | enil:V .Es .nil
 | econs (k:K) (x t:N) (hk:isEk k) (hx:V (.k k) x) (ht:V .Es t):V .Es (.cons x t)
 | snil:V .Ss .nil
 | scons (k:K) (x t:N) (hk:isSk k) (hx:V (.k k) x) (ht:V .Ss t):V .Ss (.cons x t)
 | cnil:V .Cs .nil
 | ccons (x t:N) (hx:V (.k .case_) x) (ht:V .Cs t):V .Cs (.cons x t)
 | mnil:V .Ms .nil
 | mcons (x t:N) (hx:V (.k .comm) x) (ht:V .Ms t):V .Ms (.cons x t)
inductive VV:N→Prop
 | v (k:K) (n:N) (h:V (.k k) n):VV n
 | ftype:VV .ftype
 | flist:VV (.part kFieldList (.one .none))
 | blockC (l:N) (h:V .Cs l):VV (.block l)
 | blockM (l:N) (h:V .Ms l):VV (.block l)
 | func (called:Str) (l:N) (h:V .Ss l):VV (.part kFuncDecl (.four .none (.name called 0) .ftype (.block l)))
def isLogic(op:Str):Bool:=op.data.toList == [38,38] || op.data.toList == [124,124]
def N.cyc:N→Nat
 | .nil=>0
 | .cons h t=>h.cyc+t.cyc
 | .n kind text _ kids =>
   (if kind.data.toList=kFuncDecl.data.toList∨kind.data.toList=kIf.data.toList∨kind.data.toList=kFor.data.toList∨kind.data.toList=kRange.data.toList∨kind.data.toList=kCase.data.toList∨kind.data.toList=kComm.data.toList then 1
     else if kind.data.toList=kBin.data.toList∧isLogic text=true then 1 else 0)+kids.cyc
def WV(o:So)(t:T):Prop :=
 match o with
 | .E=>∃ k,isEk k∧V (.k k) (t.N 0)
 | .S=>∃ k,isSk k∧V (.k k) (t.N 0)
 | .Es=>V .Es (t.N 0)
 | .Ss=>V .Ss (t.N 0)
 | .Cs=>∀ m,(m%2=0→V .Cs (t.N (m+1)))∧(m%2=1→V .Ms (t.N (m+1)))
theorem V_clause{m:Nat}{last:Bool}{l:N}(hl:V .Ss l):(m%2=0→V (.k .case_) (.clause m last l))∧(m%2=1→V (.k .comm) (.clause m last l)):=by
 constructor
 · intro h
   simp only[N.clause,h,if_true]
   cases last
   · exact .case_ _ _ (.econs .lit _ _ trivial (.lit _) .enil) hl
   · exact .caseNo _ hl
 · intro h
   have h':¬ m%2=0:=by omega
   simp only[N.clause,h',if_false]
   cases last
   · exact .comm _ _ (.exprS .un _ trivial (.un _ (.inr rfl) .ident _ trivial (.ident _ _ (by decide) (by decide)))) hl
   · exact .commNo _ hl
theorem lab_ne(k:Nat):¬ (lab k).data.size=0:=by simp[lab,strOf]
theorem V_var(n:Nat)(h:n<4):V (.k .ident) (.var n):=.ident _ _ (by omega) (by omega)
end Gc
namespace Go.Proofs.YtleolbpibjnedaaGreat
open Go Go.RowKit Gc
theorem isEk_E{k:K}(h:isEk k):isE k:=by cases k<;>first | exact h.elim | trivial
theorem isSk_S{k:K}(h:isSk k):isS k:=by cases k<;>first | exact h.elim | trivial
end Go.Proofs.YtleolbpibjnedaaGreat
namespace Gc
open Go
def A.walk{σ:Type}(step:A→σ→σ):A→σ→σ
 | .nil,s=>s
 | .cons h t,s=>t.walk step (h.walk step s)
 | .n k text num o b f0 f1 f2 f3,s =>
   match k with
   | .none=>s
   | .list=>f0.walk step s
   | k=>match k.arity with
     | 0=>step (.n k text num o b f0 f1 f2 f3) s
     | 1=>f0.walk step (step (.n k text num o b f0 f1 f2 f3) s)
     | 2=>f1.walk step (f0.walk step (step (.n k text num o b f0 f1 f2 f3) s))
     | 3=>f2.walk step (f1.walk step (f0.walk step (step (.n k text num o b f0 f1 f2 f3) s)))
     | _=>f3.walk step (f2.walk step (f1.walk step (f0.walk step (step (.n k text num o b f0 f1 f2 f3) s))))
end Gc
namespace Go.Proofs.YtleolbpibjnedaaGreat
open Go Go.RowKit Gc
def nilK:K→Bool
 | .flit | .if_ | .for_ | .range | .switch | .select=>true
 | _=>false
section
variable {σ:Type} (T:TypeId) (x:Value) (M:Nat→Prop) (Inv:σ→World→Prop) (sem:A→σ→σ) (PA:A→σ→Prop)
def WalkP(a:A)(s:σ)(w:World)(e:Ending)(w':World):Prop:=e=.returned (.tuple #[])∧Inv (sem a s) w'∧Kept M w w'
def WalkOk(a:A):Prop:=∀ (w:World) (D:Nat→Prop) (v:Value) (s:σ),PA a s→Rep w D (a.g 1 .fin) [v]→(∀ b,D b→¬ M b)→Inv s w→Calls Tryz.prog 59 #[.iface T x,v] w (WalkP M Inv sem a s w)
def WalkLOk(F:Nat)(a:A):Prop:=∀ (w:World) (D:Nat→Prop) (v:Value) (s:σ),PA a s→Rep w D (a.g 2 .fin) [v]→(∀ b,D b→¬ M b)→Inv s w→Calls Tryz.prog F #[.iface T x,v] w (WalkP M Inv sem a s w)
def ChildOk(k:K)(f0 f1 f2 f3:A):Prop:=∀ f,(f=f0∧0<k.arity∨f=f1∧1<k.arity∨f=f2∧2<k.arity∨f=f3∧3<k.arity)→f.isn∧(f.K=.none∨WalkOk T x M Inv sem PA f)
end
structure Vis (σ:Type) (T:TypeId) (x:Value) (F:Nat) (rcv:Value) (M:Nat→Prop) (Inv:σ→World→Prop) (sem step:A→σ→σ) (PA:A→σ→Prop) (SK:K→Bool):Prop where
 meth : ∀ w, (method 502 T x "Visit").run Tryz.prog w = .ok (F, rcv) w
 ent:∀ args w,(callFunc F args).run Tryz.prog w=.ok (.enter F args) w
 visit:∀ (a:A) (w:World) (D:Nat→Prop) (v:Value) (s:σ),VV a.N→PA a s→SK a.K=true→Rep w D (a.g 1 .fin) [v]→(∀ b,D b→¬ M b)→Inv s w→Calls Tryz.prog F #[rcv,v] w (fun e w'=>e=.returned (.iface T x)∧Inv (step a s) w'∧Kept M w w')
 leave:∀ (w:World) (s:σ),Inv s w→Calls Tryz.prog F #[rcv,.nilIface] w (fun e w'=>e=.returned (.iface T x)∧Inv s w'∧Kept M w w')
 her_c:∀ h t s,PA (.cons h t) s→PA h s∧PA t (sem h s)
 her_n:∀ k text num o b f0 f1 f2 f3 s,k.real→SK k=true→PA (.n k text num o b f0 f1 f2 f3) s→(0<k.arity→PA f0 (step (.n k text num o b f0 f1 f2 f3) s))∧(1<k.arity→PA f1 (sem f0 (step (.n k text num o b f0 f1 f2 f3) s))) ∧
  (2<k.arity→PA f2 (sem f1 (sem f0 (step (.n k text num o b f0 f1 f2 f3) s))))∧(3<k.arity→PA f3 (sem f2 (sem f1 (sem f0 (step (.n k text num o b f0 f1 f2 f3) s)))))
 her_l:∀ text num o b f0 f1 f2 f3 s,PA (.n .list text num o b f0 f1 f2 f3) s→PA f0 s
 sk:∀ k,nilK k=false→SK k=true
 sem_nil:∀ s,sem .nil s=s
 sem_cons:∀ h t s,sem (.cons h t) s=sem t (sem h s)
 sem_none:∀ text num o b f0 f1 f2 f3 s,sem (.n .none text num o b f0 f1 f2 f3) s=s
 sem_list:∀ text num o b f0 f1 f2 f3 s,sem (.n .list text num o b f0 f1 f2 f3) s=sem f0 s
 sem_n:∀ k text num o b f0 f1 f2 f3 s,k.real→SK k=true→sem (.n k text num o b f0 f1 f2 f3) s=(match k.arity with
  | 0=>step (.n k text num o b f0 f1 f2 f3) s
  | 1=>sem f0 (step (.n k text num o b f0 f1 f2 f3) s)
  | 2=>sem f1 (sem f0 (step (.n k text num o b f0 f1 f2 f3) s))
  | 3=>sem f2 (sem f1 (sem f0 (step (.n k text num o b f0 f1 f2 f3) s)))
  | _=>sem f3 (sem f2 (sem f1 (sem f0 (step (.n k text num o b f0 f1 f2 f3) s)))))
 own:∀ k text num o b f0 f1 f2 f3,SK k=false→VV (A.n k text num o b f0 f1 f2 f3).N→ChildOk T x M Inv sem PA k f0 f1 f2 f3→WalkOk T x M Inv sem PA (.n k text num o b f0 f1 f2 f3)
theorem walk_semn{σ:Type}{step:A→σ→σ}(k:K)(text:Str)(num:Int)(o:Option Addr)(b:Nat)(f0 f1 f2 f3:A)(s:σ)(hk:k.real):A.walk step (.n k text num o b f0 f1 f2 f3) s=(match k.arity with
 | 0=>step (.n k text num o b f0 f1 f2 f3) s
 | 1=>f0.walk step (step (.n k text num o b f0 f1 f2 f3) s)
 | 2=>f1.walk step (f0.walk step (step (.n k text num o b f0 f1 f2 f3) s))
 | 3=>f2.walk step (f1.walk step (f0.walk step (step (.n k text num o b f0 f1 f2 f3) s)))
 | _=>f3.walk step (f2.walk step (f1.walk step (f0.walk step (step (.n k text num o b f0 f1 f2 f3) s))))):=by
 cases k<;>first | rfl | exact hk.elim
theorem Vis.self{σ:Type}{T:TypeId}{x:Value}{F:Nat}{rcv:Value}{M:Nat→Prop}{Inv:σ→World→Prop}{step:A→σ→σ}{PA:A→σ→Prop}
 (meth : ∀ w, (method 502 T x "Visit").run Tryz.prog w = .ok (F, rcv) w) (ent : ∀ args w, (callFunc F args).run Tryz.prog w = .ok (.enter F args) w)
 (visit:∀ (a:A) (w:World) (D:Nat→Prop) (v:Value) (s:σ),VV a.N→PA a s→Rep w D (a.g 1 .fin) [v]→(∀ b,D b→¬ M b)→Inv s w→Calls Tryz.prog F #[rcv,v] w (fun e w'=>e=.returned (.iface T x)∧Inv (step a s) w'∧Kept M w w'))
 (leave:∀ (w:World) (s:σ),Inv s w→Calls Tryz.prog F #[rcv,.nilIface] w (fun e w'=>e=.returned (.iface T x)∧Inv s w'∧Kept M w w'))
 (her_c:∀ h t s,PA (.cons h t) s→PA h s∧PA t (h.walk step s))
 (her_n:∀ k text num o b f0 f1 f2 f3 s,k.real→PA (.n k text num o b f0 f1 f2 f3) s→(0<k.arity→PA f0 (step (.n k text num o b f0 f1 f2 f3) s))∧(1<k.arity→PA f1 (f0.walk step (step (.n k text num o b f0 f1 f2 f3) s))) ∧
   (2<k.arity→PA f2 (f1.walk step (f0.walk step (step (.n k text num o b f0 f1 f2 f3) s))))∧(3<k.arity→PA f3 (f2.walk step (f1.walk step (f0.walk step (step (.n k text num o b f0 f1 f2 f3) s))))))
 (her_l:∀ text num o b f0 f1 f2 f3 s,PA (.n .list text num o b f0 f1 f2 f3) s→PA f0 s) :
 Vis σ T x F rcv M Inv (A.walk step) step PA (fun _=>true) where
 meth:=meth
 ent:=ent
 visit:=fun a w D v s h1 h2 _ h3 h4 h5=>visit a w D v s h1 h2 h3 h4 h5
 leave:=leave
 her_c:=her_c
 her_n:=fun k text num o b f0 f1 f2 f3 s h _=>her_n k text num o b f0 f1 f2 f3 s h
 her_l:=her_l
 sk:=fun _ _=>rfl
 sem_nil:=fun _=>rfl
 sem_cons:=fun _ _ _=>rfl
 sem_none:=fun _ _ _ _ _ _ _ _ _=>rfl
 sem_list:=fun _ _ _ _ _ _ _ _ _=>rfl
 sem_n:=fun k text num o b f0 f1 f2 f3 s hk _=>walk_semn k text num o b f0 f1 f2 f3 s hk
 own:=fun _ _ _ _ _ _ _ _ _ h=>by cases h
theorem Vis.any{σ:Type}{T:TypeId}{x:Value}{F:Nat}{rcv:Value}{M:Nat→Prop}{Inv:σ→World→Prop}{step:A→σ→σ}
 (meth : ∀ w, (method 502 T x "Visit").run Tryz.prog w = .ok (F, rcv) w) (ent : ∀ args w, (callFunc F args).run Tryz.prog w = .ok (.enter F args) w)
 (visit:∀ (a:A) (w:World) (D:Nat→Prop) (v:Value) (s:σ),VV a.N→Rep w D (a.g 1 .fin) [v]→(∀ b,D b→¬ M b)→Inv s w→Calls Tryz.prog F #[rcv,v] w (fun e w'=>e=.returned (.iface T x)∧Inv (step a s) w'∧Kept M w w'))
 (leave:∀ (w:World) (s:σ),Inv s w→Calls Tryz.prog F #[rcv,.nilIface] w (fun e w'=>e=.returned (.iface T x)∧Inv s w'∧Kept M w w')) :
 Vis σ T x F rcv M Inv (A.walk step) step (fun _ _=>True) (fun _=>true) :=
 Vis.self meth ent (fun a w D v s h1 _ h3 h4 h5=>visit a w D v s h1 h3 h4 h5) leave (fun _ _ _ _=>⟨trivial,trivial⟩) (fun _ _ _ _ _ _ _ _ _ _ _ _=>⟨fun _=>trivial,fun _=>trivial,fun _=>trivial,fun _=>trivial⟩) (fun _ _ _ _ _ _ _ _ _ _=>trivial)
theorem Vis.none{σ:Type}{T:TypeId}{x:Value}{F:Nat}{rcv:Value}{M:Nat→Prop}{Inv:σ→World→Prop}{sem step:A→σ→σ}{PA:A→σ→Prop}{SK:K→Bool}(V:Vis σ T x F rcv M Inv sem step PA SK){s:σ}(f:A)(h:f.K=.none)(hn:f.isn):sem f s=s:=by
 cases f with
 | nil=>exact hn.elim
 | cons=>exact hn.elim
 | n k=>cases h;exact V.sem_none _ _ _ _ _ _ _ _ _
theorem walk_ident{σ:Type}{T:TypeId}{x:Value}{F:Nat}{rcv:Value}{M:Nat→Prop}{Inv:σ→World→Prop}{sem step:A→σ→σ}{PA:A→σ→Prop}{SK:K→Bool}(V:Vis σ T x F rcv M Inv sem step PA SK)(text:Str)(num:Int)(o:Option Addr)(b:Nat)(f0 f1 f2 f3:A)(ok:VV (A.n .ident text num o b f0 f1 f2 f3).N∧SK .ident=true):WalkOk T x M Inv sem PA (.n .ident text num o b f0 f1 f2 f3):=by
 intro w D v s pa hR hD hI
 have pas:=V.her_n .ident text num o b f0 f1 f2 f3 s trivial ok.2 pa
 clear pas
 obtain⟨rfl,hb,ho⟩:=open_ident (m:=1) (.inr rfl)  hR
 have hbM:=hD b hb
 have HV:=Lib.hid (V.visit (.n .ident text num o b f0 f1 f2 f3) w D _ s ok.1 pa ok.2 hR hD hI)
 have HL:=Lib.hid V.leave
 have HD:=Lib.hid hD
 have Ho:=Lib.hid ho
 clear hR hI ho
 have hm:=V.meth
 have he:=V.ent
 obtain⟨a0,a1,a2,a3,a4,a5,a6,a7,a8,a9,a10,a11,a12,a13,a14,a15,a16,a17,a18,a19,a20,a21,a22,a23,a24,a25,a26,a27,a28,a29,a30,a31,a32,a33,a34,a35,a36,a37,a38,a39,a40,a41,a42,a43,a44,a45,a46,-⟩:=nobs 121 b 74 [83,196,120,208,211,216,220,190,224,227,230,233,172,236,238,242,245,248,251,122,257,260,262,266,272,278,280,283,286,289,293,295,298,123,305,308,311,314,317,320,323,326,142,329,151,134,54] (by decide)
 show Calls Tryz.prog 59 #[.iface T x,.iface 121 (.pointer (some ⟨b,0,none⟩))] w _
 go_enter Tryz.func59,Tryz.ntmps59
 go_wp2_with fail
 refine HV.out.mono ?_
 rintro e w1 ⟨rfl,I,K1⟩
 have HI:=Lib.hid I
 have o1:=K1.obj Ho.out hbM
 have z1:b<w1.heap.size:=lt_of_heap o1
 clear I
 go_wp2_with fail
 refine(HL.out _ _ HI.out).mono ?_
 rintro e wz ⟨rfl,I,Kz⟩
 have HI:=Lib.hid I
 clear I
 go_wp2_with fail
 go_end0
 have I:=HI.out
 refine⟨rfl,?_,(K1).trans Kz⟩
 rw[V.sem_n .ident _ _ _ _ _ _ _ _ _ trivial ok.2]
 show Inv (step (.n .ident text num o b f0 f1 f2 f3) s) wz
 exact I
theorem walk_lit{σ:Type}{T:TypeId}{x:Value}{F:Nat}{rcv:Value}{M:Nat→Prop}{Inv:σ→World→Prop}{sem step:A→σ→σ}{PA:A→σ→Prop}{SK:K→Bool}(V:Vis σ T x F rcv M Inv sem step PA SK)(text:Str)(num:Int)(o:Option Addr)(b:Nat)(f0 f1 f2 f3:A)(ok:VV (A.n .lit text num o b f0 f1 f2 f3).N∧SK .lit=true):WalkOk T x M Inv sem PA (.n .lit text num o b f0 f1 f2 f3):=by
 intro w D v s pa hR hD hI
 have pas:=V.her_n .lit text num o b f0 f1 f2 f3 s trivial ok.2 pa
 clear pas
 obtain⟨rfl,hb,ho⟩:=open_lit (m:=1) (.inr rfl)  hR
 have hbM:=hD b hb
 have HV:=Lib.hid (V.visit (.n .lit text num o b f0 f1 f2 f3) w D _ s ok.1 pa ok.2 hR hD hI)
 have HL:=Lib.hid V.leave
 have HD:=Lib.hid hD
 have Ho:=Lib.hid ho
 clear hR hI ho
 have hm:=V.meth
 have he:=V.ent
 obtain⟨a0,a1,a2,a3,a4,a5,a6,a7,a8,a9,a10,a11,a12,a13,a14,a15,a16,a17,a18,a19,a20,a21,a22,a23,a24,a25,a26,a27,a28,a29,a30,a31,a32,a33,a34,a35,a36,a37,a38,a39,a40,a41,a42,a43,a44,a45,a46,-⟩:=nobs 183 b 74 [83,196,120,208,211,216,220,190,224,227,230,233,172,236,238,242,245,248,251,122,257,260,262,266,272,278,280,283,286,289,293,295,298,123,305,308,311,314,317,320,323,326,142,329,151,134,54] (by decide)
 show Calls Tryz.prog 59 #[.iface T x,.iface 183 (.pointer (some ⟨b,0,none⟩))] w _
 go_enter Tryz.func59,Tryz.ntmps59
 go_wp2_with fail
 refine HV.out.mono ?_
 rintro e w1 ⟨rfl,I,K1⟩
 have HI:=Lib.hid I
 have o1:=K1.obj Ho.out hbM
 have z1:b<w1.heap.size:=lt_of_heap o1
 clear I
 go_wp2_with fail
 refine(HL.out _ _ HI.out).mono ?_
 rintro e wz ⟨rfl,I,Kz⟩
 have HI:=Lib.hid I
 clear I
 go_wp2_with fail
 go_end0
 have I:=HI.out
 refine⟨rfl,?_,(K1).trans Kz⟩
 rw[V.sem_n .lit _ _ _ _ _ _ _ _ _ trivial ok.2]
 show Inv (step (.n .lit text num o b f0 f1 f2 f3) s) wz
 exact I
theorem walk_paren{σ:Type}{T:TypeId}{x:Value}{F:Nat}{rcv:Value}{M:Nat→Prop}{Inv:σ→World→Prop}{sem step:A→σ→σ}{PA:A→σ→Prop}{SK:K→Bool}(V:Vis σ T x F rcv M Inv sem step PA SK)(text:Str)(num:Int)(o:Option Addr)(b:Nat)(f0 f1 f2 f3:A)(ok:VV (A.n .paren text num o b f0 f1 f2 f3).N∧SK .paren=true)(i0:f0.isn)(k0:K)(hk0:k0.real)(m0:f0.K=k0)(W0:WalkOk T x M Inv sem PA f0):WalkOk T x M Inv sem PA (.n .paren text num o b f0 f1 f2 f3):=by
 intro w D v s pa hR hD hI
 have pas:=V.her_n .paren text num o b f0 f1 f2 f3 s trivial ok.2 pa
 have pa0:=pas.1 (by decide)
 have PA0:=Lib.hid pa0
 clear pa0
 clear pas
 obtain⟨rfl,hb,v0,ho,r0⟩:=open_paren (m:=1) (.inr rfl) i0 hR
 obtain⟨b0,rfl,-⟩:=iface_of m0 hk0 r0
 have hbM:=hD b hb
 have HV:=Lib.hid (V.visit (.n .paren text num o b f0 f1 f2 f3) w D _ s ok.1 pa ok.2 hR hD hI)
 have HL:=Lib.hid V.leave
 have HD:=Lib.hid hD
 have Ho:=Lib.hid ho
 have HR0:=Lib.hid r0
 have HW0:=Lib.hid W0
 clear r0 W0 m0
 clear hR hI ho
 have hm:=V.meth
 have he:=V.ent
 obtain⟨a0,a1,a2,a3,a4,a5,-⟩:=nobs 220 b 74 [83,196,120,208,211,216] (by decide)
 have t_ParenExpr:∀ w,(Instr.typeAssert (.iface 220 (.pointer (some ⟨b,0,none⟩))) 74 220 true).run Tryz.prog w=.ok (.tuple #[.pointer (some ⟨b,0,none⟩),.bool true]) w:=fun w=>as_paren _ _ w
 show Calls Tryz.prog 59 #[.iface T x,.iface 220 (.pointer (some ⟨b,0,none⟩))] w _
 go_enter Tryz.func59,Tryz.ntmps59
 go_wp2_with fail
 refine HV.out.mono ?_
 rintro e w1 ⟨rfl,I,K1⟩
 have HI:=Lib.hid I
 have o1:=K1.obj Ho.out hbM
 have z1:b<w1.heap.size:=lt_of_heap o1
 clear I
 have p0:=cell_of_cells o1 0 rfl
 go_wp2_with fail
 refine(HW0.out _ D _ _ PA0.out (HR0.out.kept K1 HD.out) HD.out HI.out).mono ?_
 rintro e w2 ⟨rfl,I,K2⟩
 have HI:=Lib.hid I
 have o1:=K2.obj o1 hbM
 have z1:b<w2.heap.size:=lt_of_heap o1
 clear I
 have p0:=cell_of_cells o1 0 rfl
 go_wp2_with fail
 refine(HL.out _ _ HI.out).mono ?_
 rintro e wz ⟨rfl,I,Kz⟩
 have HI:=Lib.hid I
 clear I
 go_wp2_with fail
 go_end0
 have I:=HI.out
 refine⟨rfl,?_,((K1).trans K2).trans Kz⟩
 rw[V.sem_n .paren _ _ _ _ _ _ _ _ _ trivial ok.2]
 show Inv (sem f0 (step (.n .paren text num o b f0 f1 f2 f3) s)) wz
 exact I
theorem walk_un{σ:Type}{T:TypeId}{x:Value}{F:Nat}{rcv:Value}{M:Nat→Prop}{Inv:σ→World→Prop}{sem step:A→σ→σ}{PA:A→σ→Prop}{SK:K→Bool}(V:Vis σ T x F rcv M Inv sem step PA SK)(text:Str)(num:Int)(o:Option Addr)(b:Nat)(f0 f1 f2 f3:A)(ok:VV (A.n .un text num o b f0 f1 f2 f3).N∧SK .un=true)(i0:f0.isn)(k0:K)(hk0:k0.real)(m0:f0.K=k0)(W0:WalkOk T x M Inv sem PA f0):WalkOk T x M Inv sem PA (.n .un text num o b f0 f1 f2 f3):=by
 intro w D v s pa hR hD hI
 have pas:=V.her_n .un text num o b f0 f1 f2 f3 s trivial ok.2 pa
 have pa0:=pas.1 (by decide)
 have PA0:=Lib.hid pa0
 clear pa0
 clear pas
 obtain⟨rfl,hb,v0,ho,r0⟩:=open_un (m:=1) (.inr rfl) i0 hR
 obtain⟨b0,rfl,-⟩:=iface_of m0 hk0 r0
 have hbM:=hD b hb
 have HV:=Lib.hid (V.visit (.n .un text num o b f0 f1 f2 f3) w D _ s ok.1 pa ok.2 hR hD hI)
 have HL:=Lib.hid V.leave
 have HD:=Lib.hid hD
 have Ho:=Lib.hid ho
 have HR0:=Lib.hid r0
 have HW0:=Lib.hid W0
 clear r0 W0 m0
 clear hR hI ho
 have hm:=V.meth
 have he:=V.ent
 obtain⟨a0,a1,a2,a3,a4,a5,a6,a7,a8,a9,a10,a11,a12,a13,-⟩:=nobs 238 b 74 [83,196,120,208,211,216,220,190,224,227,230,233,172,236] (by decide)
 have t_UnaryExpr:∀ w,(Instr.typeAssert (.iface 238 (.pointer (some ⟨b,0,none⟩))) 74 238 true).run Tryz.prog w=.ok (.tuple #[.pointer (some ⟨b,0,none⟩),.bool true]) w:=fun w=>as_un _ _ w
 show Calls Tryz.prog 59 #[.iface T x,.iface 238 (.pointer (some ⟨b,0,none⟩))] w _
 go_enter Tryz.func59,Tryz.ntmps59
 go_wp2_with fail
 refine HV.out.mono ?_
 rintro e w1 ⟨rfl,I,K1⟩
 have HI:=Lib.hid I
 have o1:=K1.obj Ho.out hbM
 have z1:b<w1.heap.size:=lt_of_heap o1
 clear I
 have p1:=cell_of_cells o1 1 rfl
 go_wp2_with fail
 refine(HW0.out _ D _ _ PA0.out (HR0.out.kept K1 HD.out) HD.out HI.out).mono ?_
 rintro e w2 ⟨rfl,I,K2⟩
 have HI:=Lib.hid I
 have o1:=K2.obj o1 hbM
 have z1:b<w2.heap.size:=lt_of_heap o1
 clear I
 have p1:=cell_of_cells o1 1 rfl
 go_wp2_with fail
 refine(HL.out _ _ HI.out).mono ?_
 rintro e wz ⟨rfl,I,Kz⟩
 have HI:=Lib.hid I
 clear I
 go_wp2_with fail
 go_end0
 have I:=HI.out
 refine⟨rfl,?_,((K1).trans K2).trans Kz⟩
 rw[V.sem_n .un _ _ _ _ _ _ _ _ _ trivial ok.2]
 show Inv (sem f0 (step (.n .un text num o b f0 f1 f2 f3) s)) wz
 exact I
theorem walk_bin{σ:Type}{T:TypeId}{x:Value}{F:Nat}{rcv:Value}{M:Nat→Prop}{Inv:σ→World→Prop}{sem step:A→σ→σ}{PA:A→σ→Prop}{SK:K→Bool}(V:Vis σ T x F rcv M Inv sem step PA SK)(text:Str)(num:Int)(o:Option Addr)(b:Nat)(f0 f1 f2 f3:A)(ok:VV (A.n .bin text num o b f0 f1 f2 f3).N∧SK .bin=true)(i0:f0.isn)(k0:K)(hk0:k0.real)(m0:f0.K=k0)(W0:WalkOk T x M Inv sem PA f0)(i1:f1.isn)(k1:K)(hk1:k1.real)(m1:f1.K=k1)(W1:WalkOk T x M Inv sem PA f1):WalkOk T x M Inv sem PA (.n .bin text num o b f0 f1 f2 f3):=by
 intro w D v s pa hR hD hI
 have pas:=V.her_n .bin text num o b f0 f1 f2 f3 s trivial ok.2 pa
 have pa0:=pas.1 (by decide)
 have PA0:=Lib.hid pa0
 clear pa0
 have pa1:=pas.2.1 (by decide)
 have PA1:=Lib.hid pa1
 clear pa1
 clear pas
 obtain⟨rfl,hb,v0,v1,ho,r0,r1⟩:=open_bin (m:=1) (.inr rfl) i0 i1 hR
 obtain⟨b0,rfl,-⟩:=iface_of m0 hk0 r0
 obtain⟨b1,rfl,-⟩:=iface_of m1 hk1 r1
 have hbM:=hD b hb
 have HV:=Lib.hid (V.visit (.n .bin text num o b f0 f1 f2 f3) w D _ s ok.1 pa ok.2 hR hD hI)
 have HL:=Lib.hid V.leave
 have HD:=Lib.hid hD
 have Ho:=Lib.hid ho
 have HR0:=Lib.hid r0
 have HW0:=Lib.hid W0
 clear r0 W0 m0
 have HR1:=Lib.hid r1
 have HW1:=Lib.hid W1
 clear r1 W1 m1
 clear hR hI ho
 have hm:=V.meth
 have he:=V.ent
 obtain⟨a0,a1,a2,a3,a4,a5,a6,a7,a8,a9,a10,a11,a12,a13,a14,-⟩:=nobs 242 b 74 [83,196,120,208,211,216,220,190,224,227,230,233,172,236,238] (by decide)
 have t_BinaryExpr:∀ w,(Instr.typeAssert (.iface 242 (.pointer (some ⟨b,0,none⟩))) 74 242 true).run Tryz.prog w=.ok (.tuple #[.pointer (some ⟨b,0,none⟩),.bool true]) w:=fun w=>as_bin _ _ w
 show Calls Tryz.prog 59 #[.iface T x,.iface 242 (.pointer (some ⟨b,0,none⟩))] w _
 go_enter Tryz.func59,Tryz.ntmps59
 go_wp2_with fail
 refine HV.out.mono ?_
 rintro e w1 ⟨rfl,I,K1⟩
 have HI:=Lib.hid I
 have o1:=K1.obj Ho.out hbM
 have z1:b<w1.heap.size:=lt_of_heap o1
 clear I
 have p0:=cell_of_cells o1 0 rfl
 have p2:=cell_of_cells o1 2 rfl
 go_wp2_with fail
 refine(HW0.out _ D _ _ PA0.out (HR0.out.kept K1 HD.out) HD.out HI.out).mono ?_
 rintro e w2 ⟨rfl,I,K2⟩
 have HI:=Lib.hid I
 have o1:=K2.obj o1 hbM
 have z1:b<w2.heap.size:=lt_of_heap o1
 clear I
 have p0:=cell_of_cells o1 0 rfl
 have p2:=cell_of_cells o1 2 rfl
 go_wp2_with fail
 refine(HW1.out _ D _ _ PA1.out ((HR1.out.kept K1 HD.out).kept K2 HD.out) HD.out HI.out).mono ?_
 rintro e w3 ⟨rfl,I,K3⟩
 have HI:=Lib.hid I
 have o1:=K3.obj o1 hbM
 have z1:b<w3.heap.size:=lt_of_heap o1
 clear I
 have p0:=cell_of_cells o1 0 rfl
 have p2:=cell_of_cells o1 2 rfl
 go_wp2_with fail
 refine(HL.out _ _ HI.out).mono ?_
 rintro e wz ⟨rfl,I,Kz⟩
 have HI:=Lib.hid I
 clear I
 go_wp2_with fail
 go_end0
 have I:=HI.out
 refine⟨rfl,?_,(((K1).trans K2).trans K3).trans Kz⟩
 rw[V.sem_n .bin _ _ _ _ _ _ _ _ _ trivial ok.2]
 show Inv (sem f1 (sem f0 (step (.n .bin text num o b f0 f1 f2 f3) s))) wz
 exact I
end Go.Proofs.YtleolbpibjnedaaGreat
