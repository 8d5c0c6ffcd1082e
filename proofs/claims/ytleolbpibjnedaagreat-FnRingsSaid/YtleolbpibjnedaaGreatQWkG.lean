/- xast.Walk over every good part of syntax. -/
import Derived.Test.YtleolbpibjnedaaGreatQWkA
import Derived.Test.YtleolbpibjnedaaGreatQWkB
import Derived.Test.YtleolbpibjnedaaGreatQWkC
import Derived.Test.YtleolbpibjnedaaGreatQWkD
import Derived.Test.YtleolbpibjnedaaGreatQWkE
import Derived.Test.YtleolbpibjnedaaGreatQWkF
import Derived.Test.YtleolbpibjnedaaGreatQVn
import Derived.LaidEql
import Derived.Deep.DeepMust
import Derived.Test.YtleolbpibjnedaaGreatQBdD
import Derived.Carry
set_option linter.unusedSimpArgs false
set_option linter.unusedVariables false
set_option maxRecDepth 100000
set_option maxHeartbeats 4000000
namespace Gc
open Go
def A.wpre{σ:Type}(sem:A→σ→σ):A→Nat→σ→σ
 | .cons h t,k+1,s=>t.wpre sem k (sem h s)
 | _,_,s=>s
theorem wpre_zero{σ:Type}{sem:A→σ→σ}(t:A)(s:σ):t.wpre sem 0 s=s:=by cases t<;>rfl
theorem wpre_succ{σ:Type}{sem:A→σ→σ}:∀ (t:A) (k:Nat) (s:σ),k<t.len→t.wpre sem (k+1) s=sem (t.get k) (t.wpre sem k s)
 | .cons h t,0,s,_=>by simp only[A.wpre,A.get,wpre_zero]
 | .cons h t,k+1,s,hk=>by
   have:=wpre_succ (sem:=sem) t k (sem h s) (by simp only[A.len]at hk;omega)
   simp only[A.get]
   rw[A.wpre,this]
   rfl
 | .nil,_,_,h | .n ..,_,_,h=>by simp[A.len]at h
end Gc
namespace Go.Proofs.YtleolbpibjnedaaGreat
open Go Go.RowKit Gc
theorem wpre_all{σ:Type}{T:TypeId}{x:Value}{F:Nat}{rcv:Value}{M:Nat→Prop}{Inv:σ→World→Prop}{sem step:A→σ→σ}{PA:A→σ→Prop}{SK:K→Bool}(V:Vis σ T x F rcv M Inv sem step PA SK):∀ (t:A) (s:σ),t.isList→t.wpre sem t.len s=sem t s
 | .cons h t,s,hl=>by
   simp only[A.len,A.wpre]
   rw[V.sem_cons]
   exact wpre_all V t _ hl
 | .nil,s,_=>(V.sem_nil s).symm
 | .n ..,_,h=>h.elim
theorem pa_get{σ:Type}{T:TypeId}{x:Value}{F:Nat}{rcv:Value}{M:Nat→Prop}{Inv:σ→World→Prop}{sem step:A→σ→σ}{PA:A→σ→Prop}{SK:K→Bool}(V:Vis σ T x F rcv M Inv sem step PA SK):∀ {t:A} {s:σ},PA t s→∀ k,k<t.len→PA (t.get k) (t.wpre sem k s)
 | .cons h t,s,q,0,_=>by rw[wpre_zero];exact(V.her_c _ _ _ q).1
 | .cons h t,s,q,k+1,hk=>by
   have:=pa_get V (V.her_c _ _ _ q).2 k (by simp only[A.len]at hk;omega)
   simp only[A.get,A.wpre]
   exact this
 | .nil,_,_,_,h | .n ..,_,_,_,h=>by simp[A.len]at h
theorem walkList_E{σ:Type}{T:TypeId}{x:Value}{F:Nat}{rcv:Value}{M:Nat→Prop}{Inv:σ→World→Prop}{sem step:A→σ→σ}{PA:A→σ→Prop}{SK:K→Bool}(V:Vis σ T x F rcv M Inv sem step PA SK)(text:Str)(num:Int)(o:Option Addr)(b:Nat)(l f1 f2 f3:A)(hl:l.isList)(hk:∀ j,j<l.len→(l.get j).isn∧WalkOk T x M Inv sem PA (l.get j))(hmax:l.len≤100000):WalkLOk T x M Inv sem PA 103 (.n .list text num o b l f1 f2 f3):=by
 intro w D v s pa hR hD hI
 obtain⟨u,rs,e,r,-⟩:=hR
 simp only[List.cons.injEq]at e
 obtain⟨rfl,-⟩:=e
 obtain⟨a,c,rfl,hs⟩:=list_valA hl r
 obtain⟨n,hn⟩:∃ n,n=l.len:=⟨_,rfl⟩
 rw[← hn]at hs hmax ⊢
 have Hn:=Lib.hid hn
 have Hs:=Lib.hid hs
 have HR:=Lib.hid r
 have HK:=Lib.hid hk
 have HQ:=Lib.hid (pa_get V (V.her_l _ _ _ _ _ _ _ _ _ pa))
 have HD:=Lib.hid hD
 have HI:=Lib.hid hI
 clear hn hs r hk hD hI
 go_enter Tryz.func103,Tryz.ntmps103
 go_wp2_with fail
 go_loopw [8] (fun t wr=>∃ k:Nat,t=.int .i64 k∧k≤n∧RowKit.Hid (Inv (l.wpre sem k s) wr)∧Kept M w wr) (fun t _=>((n:Int)-intOf t).toNat)
 case atStart=>exact⟨0,rfl,by omega,Lib.hid (by rw[wpre_zero];exact HI.out),Kept.refl _ _⟩
 case round =>
  obtain⟨k,rfl,hk,I,K⟩:=hrel
  by_cases hlt:(k:Int)<n
  · obtain⟨g,o',rfl⟩:=Hs.out (by omega)
    have hkl:k<l.len:=by have:=Hn.out;omega
    obtain⟨v,r,hc,hg⟩:=A_at (k:=k) (HR.out.kept K HD.out) hl (fun j hj=>(HK.out j hj).1) hkl
    have HW:=Lib.hid (HK.out k hkl).2
    have Hr:=Lib.hid r
    clear r
    go_wp2_with fail
    refine(HW.out _ D v _ (HQ.out _ hkl) Hr.out HD.out I.out).mono ?_
    rintro e w2 ⟨rfl,I2,K2⟩
    have HI2:=Lib.hid I2
    clear I2
    go_wp2_with fail
    go_roundw
    · exact⟨k+1,by go_num,by omega,Lib.hid (by rw[wpre_succ _ _ _ hkl];exact HI2.out),K.trans K2⟩
    · simp[intOf];omega
  · go_wp2_with fail
    go_end0
    refine⟨rfl,?_,K⟩
    have e:k=l.len:=by have:=Hn.out;omega
    have:=I.out
    rw[e,wpre_all V _ _ hl]at this
    rw[V.sem_list]
    exact this
theorem walkList_E_no{σ:Type}{T:TypeId}{x:Value}{F:Nat}{rcv:Value}{M:Nat→Prop}{Inv:σ→World→Prop}{sem step:A→σ→σ}{PA:A→σ→Prop}{SK:K→Bool}(V:Vis σ T x F rcv M Inv sem step PA SK)(text:Str)(num:Int)(o:Option Addr)(b:Nat)(f0 f1 f2 f3:A):WalkLOk T x M Inv sem PA 103 (.n .none text num o b f0 f1 f2 f3):=by
 intro w D v s pa hR hD hI
 obtain⟨u,rs,e,⟨a,c,e2⟩,-⟩:=hR
 simp only[List.cons.injEq,and_true]at e e2
 obtain⟨rfl,-⟩:=e
 subst e2
 have HI:=Lib.hid hI
 clear hD hI
 go_enter Tryz.func103,Tryz.ntmps103
 go_wp2_with fail
 go_loop [8] (fun t=>t=.int .i64 0) (fun t=>(intOf t).toNat)
 case atStart=>rfl
 case round =>
  subst hrel
  go_wp2_with fail
  go_end0
  exact⟨rfl,by rw[V.sem_none];exact HI.out,Kept.refl _ _⟩
theorem walkList_S{σ:Type}{T:TypeId}{x:Value}{F:Nat}{rcv:Value}{M:Nat→Prop}{Inv:σ→World→Prop}{sem step:A→σ→σ}{PA:A→σ→Prop}{SK:K→Bool}(V:Vis σ T x F rcv M Inv sem step PA SK)(text:Str)(num:Int)(o:Option Addr)(b:Nat)(l f1 f2 f3:A)(hl:l.isList)(hk:∀ j,j<l.len→(l.get j).isn∧WalkOk T x M Inv sem PA (l.get j))(hmax:l.len≤100000):WalkLOk T x M Inv sem PA 104 (.n .list text num o b l f1 f2 f3):=by
 intro w D v s pa hR hD hI
 obtain⟨u,rs,e,r,-⟩:=hR
 simp only[List.cons.injEq]at e
 obtain⟨rfl,-⟩:=e
 obtain⟨a,c,rfl,hs⟩:=list_valA hl r
 obtain⟨n,hn⟩:∃ n,n=l.len:=⟨_,rfl⟩
 rw[← hn]at hs hmax ⊢
 have Hn:=Lib.hid hn
 have Hs:=Lib.hid hs
 have HR:=Lib.hid r
 have HK:=Lib.hid hk
 have HQ:=Lib.hid (pa_get V (V.her_l _ _ _ _ _ _ _ _ _ pa))
 have HD:=Lib.hid hD
 have HI:=Lib.hid hI
 clear hn hs r hk hD hI
 go_enter Tryz.func104,Tryz.ntmps104
 go_wp2_with fail
 go_loopw [8] (fun t wr=>∃ k:Nat,t=.int .i64 k∧k≤n∧RowKit.Hid (Inv (l.wpre sem k s) wr)∧Kept M w wr) (fun t _=>((n:Int)-intOf t).toNat)
 case atStart=>exact⟨0,rfl,by omega,Lib.hid (by rw[wpre_zero];exact HI.out),Kept.refl _ _⟩
 case round =>
  obtain⟨k,rfl,hk,I,K⟩:=hrel
  by_cases hlt:(k:Int)<n
  · obtain⟨g,o',rfl⟩:=Hs.out (by omega)
    have hkl:k<l.len:=by have:=Hn.out;omega
    obtain⟨v,r,hc,hg⟩:=A_at (k:=k) (HR.out.kept K HD.out) hl (fun j hj=>(HK.out j hj).1) hkl
    have HW:=Lib.hid (HK.out k hkl).2
    have Hr:=Lib.hid r
    clear r
    go_wp2_with fail
    refine(HW.out _ D v _ (HQ.out _ hkl) Hr.out HD.out I.out).mono ?_
    rintro e w2 ⟨rfl,I2,K2⟩
    have HI2:=Lib.hid I2
    clear I2
    go_wp2_with fail
    go_roundw
    · exact⟨k+1,by go_num,by omega,Lib.hid (by rw[wpre_succ _ _ _ hkl];exact HI2.out),K.trans K2⟩
    · simp[intOf];omega
  · go_wp2_with fail
    go_end0
    refine⟨rfl,?_,K⟩
    have e:k=l.len:=by have:=Hn.out;omega
    have:=I.out
    rw[e,wpre_all V _ _ hl]at this
    rw[V.sem_list]
    exact this
theorem walkList_F_no{σ:Type}{T:TypeId}{x:Value}{F:Nat}{rcv:Value}{M:Nat→Prop}{Inv:σ→World→Prop}{sem step:A→σ→σ}{PA:A→σ→Prop}{SK:K→Bool}(V:Vis σ T x F rcv M Inv sem step PA SK)(text:Str)(num:Int)(o:Option Addr)(b:Nat)(f0 f1 f2 f3:A):WalkLOk T x M Inv sem PA 102 (.n .none text num o b f0 f1 f2 f3):=by
 intro w D v s pa hR hD hI
 obtain⟨u,rs,e,⟨a,c,e2⟩,-⟩:=hR
 simp only[List.cons.injEq,and_true]at e e2
 obtain⟨rfl,-⟩:=e
 subst e2
 have HI:=Lib.hid hI
 clear hD hI
 go_enter Tryz.func102,Tryz.ntmps102
 go_wp2_with fail
 go_loop [8] (fun t=>t=.int .i64 0) (fun t=>(intOf t).toNat)
 case atStart=>rfl
 case round =>
  subst hrel
  go_wp2_with fail
  go_end0
  exact⟨rfl,by rw[V.sem_none];exact HI.out,Kept.refl _ _⟩
theorem W_none{f:A}(h:f.N=Gc.N.none):f.isn∧f.K=.none:=by
 obtain⟨_,_,_,_,_,_,rfl,-⟩:=A_of_N (k:=.none) h
 exact⟨trivial,rfl⟩
section
variable {σ:Type} {T:TypeId} {x:Value} {F:Nat} {rcv:Value} {M:Nat→Prop} {Inv:σ→World→Prop} {sem step:A→σ→σ} {PA:A→σ→Prop} {SK:K→Bool} (V:Vis σ T x F rcv M Inv sem step PA SK)
def GoodWL(T:TypeId)(x:Value)(M:Nat→Prop)(Inv:σ→World→Prop)(sem:A→σ→σ)(PA:A→σ→Prop)(l:A):Prop:=l.isList∧l.len≤100000∧∀ j,j<l.len→(l.get j).isn∧WalkOk T x M Inv sem PA (l.get j)
def Shp(f:A):Prop:=∃ l:A,l.isList∧∀ (w:World) (D:Nat→Prop) (v:Value),Rep w D (f.g 2 .fin) [v]→∃ g c,v=.slice g l.len c
include V
theorem W_listE{f:A}{l:N}(h:f.N=.list l)(hl:∀ l0:A,l0.N=l→GoodWL T x M Inv sem PA l0):f.isn∧WalkLOk T x M Inv sem PA 103 f∧Shp f:=by
 obtain⟨o,b,l0,_,_,_,rfl,e⟩:=A_of_N (k:=.list) h
 have e1:l0.N=l:=congrArg (fun x=>match x with | Gc.N.n _ _ _ y=>y | _=>.nil) e
 obtain⟨g1,g2,g3⟩:=hl l0 e1
 refine⟨trivial,walkList_E V _ _ _ _ _ _ _ _ g1 g3 g2,l0,g1,fun w D v hR=>?_⟩
 obtain⟨u,rs,e,r,-⟩:=hR
 simp only[List.cons.injEq]at e
 obtain⟨a,c,e2,-⟩:=list_valA g1 r
 exact⟨a,c,e.1.trans e2⟩
theorem W_listE_no{f:A}(h:f.N=Gc.N.none):f.isn∧f.K=.none∧WalkLOk T x M Inv sem PA 103 f∧Shp f:=by
 obtain⟨o,b,l0,_,_,_,rfl,e⟩:=A_of_N (k:=.none) h
 refine⟨trivial,rfl,walkList_E_no V _ _ _ _ _ _ _ _,.nil,trivial,fun w D v hR=>?_⟩
 obtain⟨u,rs,e,⟨a,c,e2⟩,-⟩:=hR
 simp only[List.cons.injEq,and_true]at e e2
 exact⟨a,c,e.1.trans e2⟩
theorem W_listS{f:A}{l:N}(h:f.N=.list l)(hl:∀ l0:A,l0.N=l→GoodWL T x M Inv sem PA l0):f.isn∧WalkLOk T x M Inv sem PA 104 f∧Shp f:=by
 obtain⟨o,b,l0,_,_,_,rfl,e⟩:=A_of_N (k:=.list) h
 have e1:l0.N=l:=congrArg (fun x=>match x with | Gc.N.n _ _ _ y=>y | _=>.nil) e
 obtain⟨g1,g2,g3⟩:=hl l0 e1
 refine⟨trivial,walkList_S V _ _ _ _ _ _ _ _ g1 g3 g2,l0,g1,fun w D v hR=>?_⟩
 obtain⟨u,rs,e,r,-⟩:=hR
 simp only[List.cons.injEq]at e
 obtain⟨a,c,e2,-⟩:=list_valA g1 r
 exact⟨a,c,e.1.trans e2⟩
theorem W_listF_no{f:A}(h:f.N=Gc.N.none):f.isn∧f.K=.none∧WalkLOk T x M Inv sem PA 102 f∧Shp f:=by
 obtain⟨o,b,l0,_,_,_,rfl,e⟩:=A_of_N (k:=.none) h
 refine⟨trivial,rfl,walkList_F_no V _ _ _ _ _ _ _ _,.nil,trivial,fun w D v hR=>?_⟩
 obtain⟨u,rs,e,⟨a,c,e2⟩,-⟩:=hR
 simp only[List.cons.injEq,and_true]at e e2
 exact⟨a,c,e.1.trans e2⟩
theorem W_block{a:A}{l:N}(hV:VV (.block l))(h:a.N=.block l)(hl:∀ l0:A,l0.N=l→GoodWL T x M Inv sem PA l0):a.isn∧a.K=.block∧WalkOk T x M Inv sem PA a:=by
 obtain⟨o,b,f0,f1,f2,f3,rfl,e⟩:=A_of_N (k:=.block) h
 have e0:f0.N=.list l:=congrArg (fun x=>match x with | Gc.N.n _ _ _ (.cons y _)=>y | _=>.nil) e
 obtain⟨i0,W0,c0⟩:=W_listS V e0 hl
 exact⟨trivial,rfl,walk_block V _ _ _ _ _ _ _ _ ⟨by rw[e];exact hV,V.sk _ rfl⟩ i0 W0 c0⟩
theorem W_flist{a:A}(h:a.N=.part kFieldList (.one Gc.N.none)):a.isn∧a.K=.flist∧WalkOk T x M Inv sem PA a:=by
 obtain⟨o,b,f0,f1,f2,f3,rfl,e⟩:=A_of_N (k:=.flist) h
 have e0:f0.N=Gc.N.none:=congrArg (fun x=>match x with | Gc.N.n _ _ _ (.cons y _)=>y | _=>.nil) e
 obtain⟨i0,m0,W0,c0⟩:=W_listF_no V e0
 exact⟨trivial,rfl,walk_flist V _ _ _ _ _ _ _ _ ⟨by rw[e];exact .flist,V.sk _ rfl⟩ i0 m0 W0 c0⟩
theorem W_ftype{a:A}(h:a.N=Gc.N.ftype):a.isn∧a.K=.ftype∧WalkOk T x M Inv sem PA a:=by
 obtain⟨o,b,f0,f1,f2,f3,rfl,e⟩:=A_of_N (k:=.ftype) h
 have e0:f0.N=Gc.N.none:=congrArg (fun x=>match x with | Gc.N.n _ _ _ (.cons y _)=>y | _=>.nil) e
 obtain⟨i0,m0⟩:=W_none e0
 have e1:f1.N=.part kFieldList (.one Gc.N.none):=congrArg (fun x=>match x with | Gc.N.n _ _ _ (.cons _ (.cons y _))=>y | _=>.nil) e
 obtain⟨i1,m1,W1⟩:=W_flist V e1
 have e2:f2.N=Gc.N.none:=congrArg (fun x=>match x with | Gc.N.n _ _ _ (.cons _ (.cons _ (.cons y _)))=>y | _=>.nil) e
 obtain⟨i2,m2⟩:=W_none e2
 exact⟨trivial,rfl,walk_ftype V _ _ _ _ _ _ _ _ ⟨by rw[e];exact .ftype,V.sk _ rfl⟩ i0 m0 i1 m1 W1 i2 m2⟩
theorem W_ident{a:A}{s:Str}{i:Int}(h0:0≤i)(h1:i≤1000000)(h:a.N=.n kIdent s i .nil):a.isn∧a.K=.ident∧WalkOk T x M Inv sem PA a:=by
 obtain⟨o,b,f0,f1,f2,f3,rfl,e⟩:=A_of_N (k:=.ident) h
 exact⟨trivial,rfl,walk_ident V _ _ _ _ _ _ _ _ ⟨by rw[e];exact .v .ident _ (.ident s i h0 h1),V.sk _ rfl⟩⟩
def GoodW(T:TypeId)(x:Value)(M:Nat→Prop)(Inv:σ→World→Prop)(sem:A→σ→σ)(PA:A→σ→Prop)(s:VS)(n:N):Prop :=
 match s with
 | .k k=>∀ a:A,a.N=n→a.isn∧a.K=k∧WalkOk T x M Inv sem PA a
 | _=>∀ l:A,l.N=n→l.isList∧∀ j,j<l.len→(l.get j).isn∧WalkOk T x M Inv sem PA (l.get j)
omit V in
theorem GoodWL_of{s:VS}{n:N}(hs:s=.Es∨s=.Ss∨s=.Cs∨s=.Ms)(hV:Gc.V s n)(hc:n.cost≤100000)(h:GoodW T x M Inv sem PA s n):∀ l0:A,l0.N=n→GoodWL T x M Inv sem PA l0:=by
 intro l0 e
 have hg:=good_N hV hc
 rcases hs with rfl|rfl|rfl|rfl
 all_goals
  obtain⟨h1,h2⟩:=h l0 e
  refine⟨h1,?_,h2⟩
  have h3:=hg.2.1
  have h4:=A.N_len l0 h1
  rw[e]at h4
  omega
omit V in
theorem GoodW_nil{n:N}(hn:n=.nil):∀ l:A,l.N=n→l.isList∧∀ j,j<l.len→(l.get j).isn∧WalkOk T x M Inv sem PA (l.get j):=by
 subst hn
 intro l e
 cases l with
 | nil=>exact⟨trivial,fun j hj=>by simp[A.len]at hj⟩
 | cons=>simp[A.N]at e
 | n=>simp[A.N]at e
omit V in
theorem GoodW_cons{h t:N}{k:K}(hh:∀ a:A,a.N=h→a.isn∧a.K=k∧WalkOk T x M Inv sem PA a)(ht:∀ l:A,l.N=t→l.isList∧∀ j,j<l.len→(l.get j).isn∧WalkOk T x M Inv sem PA (l.get j)) :
 ∀ l:A,l.N=.cons h t→l.isList∧∀ j,j<l.len→(l.get j).isn∧WalkOk T x M Inv sem PA (l.get j):=by
 intro l e
 cases l with
 | nil=>simp[A.N]at e
 | cons a l =>
   simp only[A.N,Gc.N.cons.injEq]at e
   obtain⟨h1,-,h2⟩:=hh a e.1
   obtain⟨h3,h4⟩:=ht l e.2
   refine⟨h3,fun j hj=>?_⟩
   cases j with
   | zero=>exact⟨h1,h2⟩
   | succ j=>exact h4 j (by simp only[A.len]at hj;omega)
 | n=>simp[A.N]at e
theorem good_W{s:VS}{n:N}(hv:Gc.V s n):n.cost≤100000→GoodW T x M Inv sem PA s n:=by
 induction hv with
 | ident s i h0 h1 =>
   intro hc a h
   exact W_ident V h0 h1 h
 | lit s =>
   intro hc a h
   obtain⟨o,b,f0,f1,f2,f3,rfl,e⟩:=A_of_N (k:=.lit) h
   exact⟨trivial,rfl,walk_lit V _ _ _ _ _ _ _ _ ⟨by rw[e];exact .v .lit _ (.lit s),V.sk _ rfl⟩⟩
 | flit l hl ih =>
   intro hc a h
   simp[nU,co_nil,co_cons,co_]at hc
   have Gl:=GoodWL_of (s:=.Ss) (by simp) hl (by omega) (ih (by omega))
   obtain⟨o,b,f0,f1,f2,f3,rfl,e⟩:=A_of_N (k:=.flit) h
   have e0:f0.N=Gc.N.ftype:=congrArg (fun x=>match x with | Gc.N.n _ _ _ (.cons y _)=>y | _=>.nil) e
   obtain⟨i0,m0,W0⟩:=W_ftype V e0
   have e1:f1.N=.block l:=congrArg (fun x=>match x with | Gc.N.n _ _ _ (.cons _ (.cons y _))=>y | _=>.nil) e
   obtain⟨i1,m1,W1⟩:=W_block V (.v .block _ (.block l hl)) e1 Gl
   cases hsk:SK .flit with
   | true=>exact⟨trivial,rfl,walk_flit V _ _ _ _ _ _ _ _ ⟨by rw[e];exact(.v .flit _ (.flit l hl)),hsk⟩ i0 m0 W0 i1 m1 W1⟩
   | false =>
     refine⟨trivial,rfl,V.own _ _ _ _ _ _ _ _ _ hsk (by rw[e];exact(.v .flit _ (.flit l hl))) ?_⟩
     rintro f (⟨rfl,hz⟩|⟨rfl,hz⟩|⟨rfl,hz⟩|⟨rfl,hz⟩)
     · exact⟨i0,.inr W0⟩
     · exact⟨i1,.inr W1⟩
     · exact absurd hz (by decide)
     · exact absurd hz (by decide)
 | paren k y hk hx ih =>
   intro hc a h
   simp[nU,co_nil,co_cons,co_]at hc
   obtain⟨o,b,f0,f1,f2,f3,rfl,e⟩:=A_of_N (k:=.paren) h
   have e0:f0.N=y:=congrArg (fun x=>match x with | Gc.N.n _ _ _ (.cons y _)=>y | _=>.nil) e
   obtain⟨i0,m0,W0⟩:=ih (by omega) _ e0
   exact⟨trivial,rfl,walk_paren V _ _ _ _ _ _ _ _ ⟨by rw[e];exact(.v .paren _ (.paren k y hk hx)),V.sk _ rfl⟩ i0 k (realE hk) m0 W0⟩
 | call f args hf hargs ih =>
   intro hc a h
   simp[nU,co_nil,co_cons,co_]at hc
   have Gargs:=GoodWL_of (s:=.Es) (by simp) hargs (by omega) (ih (by omega))
   obtain⟨o,b,f0,f1,f2,f3,rfl,e⟩:=A_of_N (k:=.call) h
   have e0:f0.N=.name f 0:=congrArg (fun x=>match x with | Gc.N.n _ _ _ (.cons y _)=>y | _=>.nil) e
   obtain⟨i0,m0,W0⟩:=W_ident V (by decide) (by decide) e0
   have e1:f1.N=.list args:=congrArg (fun x=>match x with | Gc.N.n _ _ _ (.cons _ (.cons y _))=>y | _=>.nil) e
   obtain⟨i1,W1,c1⟩:=W_listE V e1 Gargs
   exact⟨trivial,rfl,walk_call V _ _ _ _ _ _ _ _ ⟨by rw[e];exact(.v .call _ (.call f args hf hargs)),V.sk _ rfl⟩ i0 .ident trivial m0 W0 i1 W1 c1⟩
 | un op hop k y hk hx ih =>
   intro hc a h
   simp[nU,co_nil,co_cons,co_]at hc
   obtain⟨o,b,f0,f1,f2,f3,rfl,e⟩:=A_of_N (k:=.un) h
   have e0:f0.N=y:=congrArg (fun x=>match x with | Gc.N.n _ _ _ (.cons y _)=>y | _=>.nil) e
   obtain⟨i0,m0,W0⟩:=ih (by omega) _ e0
   exact⟨trivial,rfl,walk_un V _ _ _ _ _ _ _ _ ⟨by rw[e];exact(.v .un _ (.un op hop k y hk hx)),V.sk _ rfl⟩ i0 k (realE hk) m0 W0⟩
 | bin op hop ka kb p pq hka hkb ha hb ih1 ih2 =>
   intro hc a h
   simp[nU,co_nil,co_cons,co_]at hc
   obtain⟨o,b,f0,f1,f2,f3,rfl,e⟩:=A_of_N (k:=.bin) h
   have e0:f0.N=p:=congrArg (fun x=>match x with | Gc.N.n _ _ _ (.cons y _)=>y | _=>.nil) e
   obtain⟨i0,m0,W0⟩:=ih1 (by omega) _ e0
   have e1:f1.N=pq:=congrArg (fun x=>match x with | Gc.N.n _ _ _ (.cons _ (.cons y _))=>y | _=>.nil) e
   obtain⟨i1,m1,W1⟩:=ih2 (by omega) _ e1
   exact⟨trivial,rfl,walk_bin V _ _ _ _ _ _ _ _ ⟨by rw[e];exact(.v .bin _ (.bin op hop ka kb p pq hka hkb ha hb)),V.sk _ rfl⟩ i0 ka (realE hka) m0 W0 i1 kb (realE hkb) m1 W1⟩
 | exprS k y hk hx ih =>
   intro hc a h
   simp[nU,co_nil,co_cons,co_]at hc
   obtain⟨o,b,f0,f1,f2,f3,rfl,e⟩:=A_of_N (k:=.exprS) h
   have e0:f0.N=y:=congrArg (fun x=>match x with | Gc.N.n _ _ _ (.cons y _)=>y | _=>.nil) e
   obtain⟨i0,m0,W0⟩:=ih (by omega) _ e0
   exact⟨trivial,rfl,walk_exprS V _ _ _ _ _ _ _ _ ⟨by rw[e];exact(.v .exprS _ (.exprS k y hk hx)),V.sk _ rfl⟩ i0 k (realE hk) m0 W0⟩
 | assign op hop p pq ha hb ih1 ih2 =>
   intro hc a h
   simp[nU,co_nil,co_cons,co_]at hc
   have Gp:=GoodWL_of (s:=.Es) (by simp) ha (by omega) (ih1 (by omega))
   have Gpq:=GoodWL_of (s:=.Es) (by simp) hb (by omega) (ih2 (by omega))
   obtain⟨o,b,f0,f1,f2,f3,rfl,e⟩:=A_of_N (k:=.assign) h
   have e0:f0.N=.list p:=congrArg (fun x=>match x with | Gc.N.n _ _ _ (.cons y _)=>y | _=>.nil) e
   obtain⟨i0,W0,c0⟩:=W_listE V e0 Gp
   have e1:f1.N=.list pq:=congrArg (fun x=>match x with | Gc.N.n _ _ _ (.cons _ (.cons y _))=>y | _=>.nil) e
   obtain⟨i1,W1,c1⟩:=W_listE V e1 Gpq
   exact⟨trivial,rfl,walk_assign V _ _ _ _ _ _ _ _ ⟨by rw[e];exact(.v .assign _ (.assign op hop p pq ha hb)),V.sk _ rfl⟩ i0 W0 c0 i1 W1 c1⟩
 | inc op hop k y hk hx ih =>
   intro hc a h
   simp[nU,co_nil,co_cons,co_]at hc
   obtain⟨o,b,f0,f1,f2,f3,rfl,e⟩:=A_of_N (k:=.inc) h
   have e0:f0.N=y:=congrArg (fun x=>match x with | Gc.N.n _ _ _ (.cons y _)=>y | _=>.nil) e
   obtain⟨i0,m0,W0⟩:=ih (by omega) _ e0
   exact⟨trivial,rfl,walk_inc V _ _ _ _ _ _ _ _ ⟨by rw[e];exact(.v .inc _ (.inc op hop k y hk hx)),V.sk _ rfl⟩ i0 k (realE hk) m0 W0⟩
 | ifNo k y l hk hx hl ih ihl =>
   intro hc a h
   simp[nU,co_nil,co_cons,co_]at hc
   have Gl:=GoodWL_of (s:=.Ss) (by simp) hl (by omega) (ihl (by omega))
   obtain⟨o,b,f0,f1,f2,f3,rfl,e⟩:=A_of_N (k:=.if_) h
   have e0:f0.N=Gc.N.none:=congrArg (fun x=>match x with | Gc.N.n _ _ _ (.cons y _)=>y | _=>.nil) e
   obtain⟨i0,m0⟩:=W_none e0
   have e1:f1.N=y:=congrArg (fun x=>match x with | Gc.N.n _ _ _ (.cons _ (.cons y _))=>y | _=>.nil) e
   obtain⟨i1,m1,W1⟩:=ih (by omega) _ e1
   have e2:f2.N=.block l:=congrArg (fun x=>match x with | Gc.N.n _ _ _ (.cons _ (.cons _ (.cons y _)))=>y | _=>.nil) e
   obtain⟨i2,m2,W2⟩:=W_block V (.v .block _ (.block l hl)) e2 Gl
   have e3:f3.N=Gc.N.none:=congrArg (fun x=>match x with | Gc.N.n _ _ _ (.cons _ (.cons _ (.cons _ (.cons y _))))=>y | _=>.nil) e
   obtain⟨i3,m3⟩:=W_none e3
   cases hsk:SK .if_ with
   | true=>exact⟨trivial,rfl,walk_if_ V _ _ _ _ _ _ _ _ ⟨by rw[e];exact(.v .if_ _ (.ifNo k y l hk hx hl)),hsk⟩ i0 m0 i1 k (realE hk) m1 W1 i2 m2 W2 i3 m3⟩
   | false =>
     refine⟨trivial,rfl,V.own _ _ _ _ _ _ _ _ _ hsk (by rw[e];exact(.v .if_ _ (.ifNo k y l hk hx hl))) ?_⟩
     rintro f (⟨rfl,hz⟩|⟨rfl,hz⟩|⟨rfl,hz⟩|⟨rfl,hz⟩)
     · exact⟨i0,.inl m0⟩
     · exact⟨i1,.inr W1⟩
     · exact⟨i2,.inr W2⟩
     · exact⟨i3,.inl m3⟩
 | ifElse k ks y l z hk hks hx hl hy ih ihl ihy =>
   intro hc a h
   simp[nU,co_nil,co_cons,co_]at hc
   have Gl:=GoodWL_of (s:=.Ss) (by simp) hl (by omega) (ihl (by omega))
   obtain⟨o,b,f0,f1,f2,f3,rfl,e⟩:=A_of_N (k:=.if_) h
   have e0:f0.N=Gc.N.none:=congrArg (fun x=>match x with | Gc.N.n _ _ _ (.cons y _)=>y | _=>.nil) e
   obtain⟨i0,m0⟩:=W_none e0
   have e1:f1.N=y:=congrArg (fun x=>match x with | Gc.N.n _ _ _ (.cons _ (.cons y _))=>y | _=>.nil) e
   obtain⟨i1,m1,W1⟩:=ih (by omega) _ e1
   have e2:f2.N=.block l:=congrArg (fun x=>match x with | Gc.N.n _ _ _ (.cons _ (.cons _ (.cons y _)))=>y | _=>.nil) e
   obtain⟨i2,m2,W2⟩:=W_block V (.v .block _ (.block l hl)) e2 Gl
   have e3:f3.N=z:=congrArg (fun x=>match x with | Gc.N.n _ _ _ (.cons _ (.cons _ (.cons _ (.cons y _))))=>y | _=>.nil) e
   obtain⟨i3,m3,W3⟩:=ihy (by omega) _ e3
   cases hsk:SK .if_ with
   | true=>exact⟨trivial,rfl,walk_if__else V _ _ _ _ _ _ _ _ ⟨by rw[e];exact(.v .if_ _ (.ifElse k ks y l z hk hks hx hl hy)),hsk⟩ i0 m0 i1 k (realE hk) m1 W1 i2 m2 W2 i3 ks (realS hks) m3 W3⟩
   | false =>
     refine⟨trivial,rfl,V.own _ _ _ _ _ _ _ _ _ hsk (by rw[e];exact(.v .if_ _ (.ifElse k ks y l z hk hks hx hl hy))) ?_⟩
     rintro f (⟨rfl,hz⟩|⟨rfl,hz⟩|⟨rfl,hz⟩|⟨rfl,hz⟩)
     · exact⟨i0,.inl m0⟩
     · exact⟨i1,.inr W1⟩
     · exact⟨i2,.inr W2⟩
     · exact⟨i3,.inr W3⟩
 | for_ k y l hk hx hl ih ihl =>
   intro hc a h
   simp[nU,co_nil,co_cons,co_]at hc
   have Gl:=GoodWL_of (s:=.Ss) (by simp) hl (by omega) (ihl (by omega))
   obtain⟨o,b,f0,f1,f2,f3,rfl,e⟩:=A_of_N (k:=.for_) h
   have e0:f0.N=Gc.N.none:=congrArg (fun x=>match x with | Gc.N.n _ _ _ (.cons y _)=>y | _=>.nil) e
   obtain⟨i0,m0⟩:=W_none e0
   have e1:f1.N=y:=congrArg (fun x=>match x with | Gc.N.n _ _ _ (.cons _ (.cons y _))=>y | _=>.nil) e
   obtain⟨i1,m1,W1⟩:=ih (by omega) _ e1
   have e2:f2.N=Gc.N.none:=congrArg (fun x=>match x with | Gc.N.n _ _ _ (.cons _ (.cons _ (.cons y _)))=>y | _=>.nil) e
   obtain⟨i2,m2⟩:=W_none e2
   have e3:f3.N=.block l:=congrArg (fun x=>match x with | Gc.N.n _ _ _ (.cons _ (.cons _ (.cons _ (.cons y _))))=>y | _=>.nil) e
   obtain⟨i3,m3,W3⟩:=W_block V (.v .block _ (.block l hl)) e3 Gl
   cases hsk:SK .for_ with
   | true=>exact⟨trivial,rfl,walk_for_ V _ _ _ _ _ _ _ _ ⟨by rw[e];exact(.v .for_ _ (.for_ k y l hk hx hl)),hsk⟩ i0 m0 i1 k (realE hk) m1 W1 i2 m2 i3 m3 W3⟩
   | false =>
     refine⟨trivial,rfl,V.own _ _ _ _ _ _ _ _ _ hsk (by rw[e];exact(.v .for_ _ (.for_ k y l hk hx hl))) ?_⟩
     rintro f (⟨rfl,hz⟩|⟨rfl,hz⟩|⟨rfl,hz⟩|⟨rfl,hz⟩)
     · exact⟨i0,.inl m0⟩
     · exact⟨i1,.inr W1⟩
     · exact⟨i2,.inl m2⟩
     · exact⟨i3,.inr W3⟩
 | range k y l hk hx hl ih ihl =>
   intro hc a h
   simp[nU,co_nil,co_cons,co_]at hc
   have Gl:=GoodWL_of (s:=.Ss) (by simp) hl (by omega) (ihl (by omega))
   obtain⟨o,b,f0,f1,f2,f3,rfl,e⟩:=A_of_N (k:=.range) h
   have e0:f0.N=Gc.N.none:=congrArg (fun x=>match x with | Gc.N.n _ _ _ (.cons y _)=>y | _=>.nil) e
   obtain⟨i0,m0⟩:=W_none e0
   have e1:f1.N=Gc.N.none:=congrArg (fun x=>match x with | Gc.N.n _ _ _ (.cons _ (.cons y _))=>y | _=>.nil) e
   obtain⟨i1,m1⟩:=W_none e1
   have e2:f2.N=y:=congrArg (fun x=>match x with | Gc.N.n _ _ _ (.cons _ (.cons _ (.cons y _)))=>y | _=>.nil) e
   obtain⟨i2,m2,W2⟩:=ih (by omega) _ e2
   have e3:f3.N=.block l:=congrArg (fun x=>match x with | Gc.N.n _ _ _ (.cons _ (.cons _ (.cons _ (.cons y _))))=>y | _=>.nil) e
   obtain⟨i3,m3,W3⟩:=W_block V (.v .block _ (.block l hl)) e3 Gl
   cases hsk:SK .range with
   | true=>exact⟨trivial,rfl,walk_range V _ _ _ _ _ _ _ _ ⟨by rw[e];exact(.v .range _ (.range k y l hk hx hl)),hsk⟩ i0 m0 i1 m1 i2 k (realE hk) m2 W2 i3 m3 W3⟩
   | false =>
     refine⟨trivial,rfl,V.own _ _ _ _ _ _ _ _ _ hsk (by rw[e];exact(.v .range _ (.range k y l hk hx hl))) ?_⟩
     rintro f (⟨rfl,hz⟩|⟨rfl,hz⟩|⟨rfl,hz⟩|⟨rfl,hz⟩)
     · exact⟨i0,.inl m0⟩
     · exact⟨i1,.inl m1⟩
     · exact⟨i2,.inr W2⟩
     · exact⟨i3,.inr W3⟩
 | switch k y l hk hx hl ih ihl =>
   intro hc a h
   simp[nU,co_nil,co_cons,co_]at hc
   have Gl:=GoodWL_of (s:=.Cs) (by simp) hl (by omega) (ihl (by omega))
   obtain⟨o,b,f0,f1,f2,f3,rfl,e⟩:=A_of_N (k:=.switch) h
   have e0:f0.N=Gc.N.none:=congrArg (fun x=>match x with | Gc.N.n _ _ _ (.cons y _)=>y | _=>.nil) e
   obtain⟨i0,m0⟩:=W_none e0
   have e1:f1.N=y:=congrArg (fun x=>match x with | Gc.N.n _ _ _ (.cons _ (.cons y _))=>y | _=>.nil) e
   obtain⟨i1,m1,W1⟩:=ih (by omega) _ e1
   have e2:f2.N=.block l:=congrArg (fun x=>match x with | Gc.N.n _ _ _ (.cons _ (.cons _ (.cons y _)))=>y | _=>.nil) e
   obtain⟨i2,m2,W2⟩:=W_block V (.blockC l hl) e2 Gl
   cases hsk:SK .switch with
   | true=>exact⟨trivial,rfl,walk_switch V _ _ _ _ _ _ _ _ ⟨by rw[e];exact(.v .switch _ (.switch k y l hk hx hl)),hsk⟩ i0 m0 i1 k (realE hk) m1 W1 i2 m2 W2⟩
   | false =>
     refine⟨trivial,rfl,V.own _ _ _ _ _ _ _ _ _ hsk (by rw[e];exact(.v .switch _ (.switch k y l hk hx hl))) ?_⟩
     rintro f (⟨rfl,hz⟩|⟨rfl,hz⟩|⟨rfl,hz⟩|⟨rfl,hz⟩)
     · exact⟨i0,.inl m0⟩
     · exact⟨i1,.inr W1⟩
     · exact⟨i2,.inr W2⟩
     · exact absurd hz (by decide)
 | select l hl ihl =>
   intro hc a h
   simp[nU,co_nil,co_cons,co_]at hc
   have Gl:=GoodWL_of (s:=.Ms) (by simp) hl (by omega) (ihl (by omega))
   obtain⟨o,b,f0,f1,f2,f3,rfl,e⟩:=A_of_N (k:=.select) h
   have e0:f0.N=.block l:=congrArg (fun x=>match x with | Gc.N.n _ _ _ (.cons y _)=>y | _=>.nil) e
   obtain⟨i0,m0,W0⟩:=W_block V (.blockM l hl) e0 Gl
   cases hsk:SK .select with
   | true=>exact⟨trivial,rfl,walk_select V _ _ _ _ _ _ _ _ ⟨by rw[e];exact(.v .select _ (.select l hl)),hsk⟩ i0 m0 W0⟩
   | false =>
     refine⟨trivial,rfl,V.own _ _ _ _ _ _ _ _ _ hsk (by rw[e];exact(.v .select _ (.select l hl))) ?_⟩
     rintro f (⟨rfl,hz⟩|⟨rfl,hz⟩|⟨rfl,hz⟩|⟨rfl,hz⟩)
     · exact⟨i0,.inr W0⟩
     · exact absurd hz (by decide)
     · exact absurd hz (by decide)
     · exact absurd hz (by decide)
 | branch op hop =>
   intro hc a h
   simp[nU,co_nil,co_cons,co_]at hc
   obtain⟨o,b,f0,f1,f2,f3,rfl,e⟩:=A_of_N (k:=.branch) h
   have e0:f0.N=Gc.N.none:=congrArg (fun x=>match x with | Gc.N.n _ _ _ (.cons y _)=>y | _=>.nil) e
   obtain⟨i0,m0⟩:=W_none e0
   exact⟨trivial,rfl,walk_branch V _ _ _ _ _ _ _ _ ⟨by rw[e];exact(.v .branch _ (.branch op hop)),V.sk _ rfl⟩ i0 m0⟩
 | branchTo op hop y hx ih =>
   intro hc a h
   simp[nU,co_nil,co_cons,co_]at hc
   obtain⟨o,b,f0,f1,f2,f3,rfl,e⟩:=A_of_N (k:=.branch) h
   have e0:f0.N=y:=congrArg (fun x=>match x with | Gc.N.n _ _ _ (.cons y _)=>y | _=>.nil) e
   obtain⟨i0,m0,W0⟩:=ih (by omega) _ e0
   exact⟨trivial,rfl,walk_branch_to V _ _ _ _ _ _ _ _ ⟨by rw[e];exact(.v .branch _ (.branchTo op hop y hx)),V.sk _ rfl⟩ i0 m0 W0⟩
 | ret p ha ih =>
   intro hc a h
   simp[nU,co_nil,co_cons,co_]at hc
   have Gp:=GoodWL_of (s:=.Es) (by simp) ha (by omega) (ih (by omega))
   obtain⟨o,b,f0,f1,f2,f3,rfl,e⟩:=A_of_N (k:=.ret) h
   have e0:f0.N=.list p:=congrArg (fun x=>match x with | Gc.N.n _ _ _ (.cons y _)=>y | _=>.nil) e
   obtain⟨i0,W0,c0⟩:=W_listE V e0 Gp
   exact⟨trivial,rfl,walk_ret V _ _ _ _ _ _ _ _ ⟨by rw[e];exact(.v .ret _ (.ret p ha)),V.sk _ rfl⟩ i0 W0 c0⟩
 | block l hl ihl =>
   intro hc a h
   simp[nU,co_nil,co_cons,co_]at hc
   have Gl:=GoodWL_of (s:=.Ss) (by simp) hl (by omega) (ihl (by omega))
   exact W_block V (.v .block _ (.block l hl)) h Gl
 | labeled y ks z hks hx hy ihx ihy =>
   intro hc a h
   simp[nU,co_nil,co_cons,co_]at hc
   obtain⟨o,b,f0,f1,f2,f3,rfl,e⟩:=A_of_N (k:=.labeled) h
   have e0:f0.N=y:=congrArg (fun x=>match x with | Gc.N.n _ _ _ (.cons y _)=>y | _=>.nil) e
   obtain⟨i0,m0,W0⟩:=ihx (by omega) _ e0
   have e1:f1.N=z:=congrArg (fun x=>match x with | Gc.N.n _ _ _ (.cons _ (.cons y _))=>y | _=>.nil) e
   obtain⟨i1,m1,W1⟩:=ihy (by omega) _ e1
   exact⟨trivial,rfl,walk_labeled V _ _ _ _ _ _ _ _ ⟨by rw[e];exact(.v .labeled _ (.labeled y ks z hks hx hy)),V.sk _ rfl⟩ i0 m0 W0 i1 ks (realS hks) m1 W1⟩
 | caseNo l hl ihl =>
   intro hc a h
   simp[nU,co_nil,co_cons,co_]at hc
   have Gl:=GoodWL_of (s:=.Ss) (by simp) hl (by omega) (ihl (by omega))
   obtain⟨o,b,f0,f1,f2,f3,rfl,e⟩:=A_of_N (k:=.case_) h
   have e0:f0.N=Gc.N.none:=congrArg (fun x=>match x with | Gc.N.n _ _ _ (.cons y _)=>y | _=>.nil) e
   obtain⟨i0,m0,W0,c0⟩:=W_listE_no V e0
   have e1:f1.N=.list l:=congrArg (fun x=>match x with | Gc.N.n _ _ _ (.cons _ (.cons y _))=>y | _=>.nil) e
   obtain⟨i1,W1,c1⟩:=W_listS V e1 Gl
   exact⟨trivial,rfl,walk_case__no V _ _ _ _ _ _ _ _ ⟨by rw[e];exact(.v .case_ _ (.caseNo l hl)),V.sk _ rfl⟩ i0 m0 W0 c0 i1 W1 c1⟩
 | case_ p l ha hl ih ihl =>
   intro hc a h
   simp[nU,co_nil,co_cons,co_]at hc
   have Gp:=GoodWL_of (s:=.Es) (by simp) ha (by omega) (ih (by omega))
   have Gl:=GoodWL_of (s:=.Ss) (by simp) hl (by omega) (ihl (by omega))
   obtain⟨o,b,f0,f1,f2,f3,rfl,e⟩:=A_of_N (k:=.case_) h
   have e0:f0.N=.list p:=congrArg (fun x=>match x with | Gc.N.n _ _ _ (.cons y _)=>y | _=>.nil) e
   obtain⟨i0,W0,c0⟩:=W_listE V e0 Gp
   have e1:f1.N=.list l:=congrArg (fun x=>match x with | Gc.N.n _ _ _ (.cons _ (.cons y _))=>y | _=>.nil) e
   obtain⟨i1,W1,c1⟩:=W_listS V e1 Gl
   exact⟨trivial,rfl,walk_case_ V _ _ _ _ _ _ _ _ ⟨by rw[e];exact(.v .case_ _ (.case_ p l ha hl)),V.sk _ rfl⟩ i0 W0 c0 i1 W1 c1⟩
 | commNo l hl ihl =>
   intro hc a h
   simp[nU,co_nil,co_cons,co_]at hc
   have Gl:=GoodWL_of (s:=.Ss) (by simp) hl (by omega) (ihl (by omega))
   obtain⟨o,b,f0,f1,f2,f3,rfl,e⟩:=A_of_N (k:=.comm) h
   have e0:f0.N=Gc.N.none:=congrArg (fun x=>match x with | Gc.N.n _ _ _ (.cons y _)=>y | _=>.nil) e
   obtain⟨i0,m0⟩:=W_none e0
   have e1:f1.N=.list l:=congrArg (fun x=>match x with | Gc.N.n _ _ _ (.cons _ (.cons y _))=>y | _=>.nil) e
   obtain⟨i1,W1,c1⟩:=W_listS V e1 Gl
   exact⟨trivial,rfl,walk_comm_no V _ _ _ _ _ _ _ _ ⟨by rw[e];exact(.v .comm _ (.commNo l hl)),V.sk _ rfl⟩ i0 m0 i1 W1 c1⟩
 | comm y l hx hl ih ihl =>
   intro hc a h
   simp[nU,co_nil,co_cons,co_]at hc
   have Gl:=GoodWL_of (s:=.Ss) (by simp) hl (by omega) (ihl (by omega))
   obtain⟨o,b,f0,f1,f2,f3,rfl,e⟩:=A_of_N (k:=.comm) h
   have e0:f0.N=y:=congrArg (fun x=>match x with | Gc.N.n _ _ _ (.cons y _)=>y | _=>.nil) e
   obtain⟨i0,m0,W0⟩:=ih (by omega) _ e0
   have e1:f1.N=.list l:=congrArg (fun x=>match x with | Gc.N.n _ _ _ (.cons _ (.cons y _))=>y | _=>.nil) e
   obtain⟨i1,W1,c1⟩:=W_listS V e1 Gl
   exact⟨trivial,rfl,walk_comm V _ _ _ _ _ _ _ _ ⟨by rw[e];exact(.v .comm _ (.comm y l hx hl)),V.sk _ rfl⟩ i0 .exprS trivial m0 W0 i1 W1 c1⟩
 | enil=>exact fun _=>GoodW_nil rfl
 | snil=>exact fun _=>GoodW_nil rfl
 | cnil=>exact fun _=>GoodW_nil rfl
 | mnil=>exact fun _=>GoodW_nil rfl
 | econs k y t hk hx ht ih1 ih2 =>
   intro hc
   simp[nU,co_nil,co_cons,co_]at hc
   exact GoodW_cons (ih1 (by omega)) (ih2 (by omega))
 | scons k y t hk hx ht ih1 ih2 =>
   intro hc
   simp[nU,co_nil,co_cons,co_]at hc
   exact GoodW_cons (ih1 (by omega)) (ih2 (by omega))
 | ccons y t hx ht ih1 ih2 =>
   intro hc
   simp[nU,co_nil,co_cons,co_]at hc
   exact GoodW_cons (ih1 (by omega)) (ih2 (by omega))
 | mcons y t hx ht ih1 ih2 =>
   intro hc
   simp[nU,co_nil,co_cons,co_]at hc
   exact GoodW_cons (ih1 (by omega)) (ih2 (by omega))
theorem W_func{a:A}{called:Str}{l:N}(hl:Gc.V .Ss l)(hc:l.cost≤100000)(h:a.N=Gc.N.func called l):a.isn∧a.K=.func∧WalkOk T x M Inv sem PA a:=by
 have Gl:=GoodWL_of (s:=.Ss) (by simp) hl hc (good_W V hl hc)
 obtain⟨o,b,f0,f1,f2,f3,rfl,e⟩:=A_of_N (k:=.func) h
 have e0:f0.N=Gc.N.none:=congrArg (fun x=>match x with | Gc.N.n _ _ _ (.cons y _)=>y | _=>.nil) e
 obtain⟨i0,m0⟩:=W_none e0
 have e1:f1.N=.name called 0:=congrArg (fun x=>match x with | Gc.N.n _ _ _ (.cons _ (.cons y _))=>y | _=>.nil) e
 obtain⟨i1,m1,W1⟩:=W_ident V (by decide) (by decide) e1
 have e2:f2.N=Gc.N.ftype:=congrArg (fun x=>match x with | Gc.N.n _ _ _ (.cons _ (.cons _ (.cons y _)))=>y | _=>.nil) e
 obtain⟨i2,m2,W2⟩:=W_ftype V e2
 have e3:f3.N=.block l:=congrArg (fun x=>match x with | Gc.N.n _ _ _ (.cons _ (.cons _ (.cons _ (.cons y _))))=>y | _=>.nil) e
 obtain⟨i3,m3,W3⟩:=W_block V (.v .block _ (.block l hl)) e3 Gl
 exact⟨trivial,rfl,walk_func V _ _ _ _ _ _ _ _ ⟨by rw[e];exact(.func called l hl),V.sk _ rfl⟩ i0 m0 i1 m1 W1 i2 m2 W2 i3 m3 W3⟩
theorem W_body{a:A}{l:N}(hl:Gc.V .Ss l)(hc:l.cost≤100000)(h:a.N=.block l):a.isn∧a.K=.block∧WalkOk T x M Inv sem PA a :=
 W_block V (.v .block _ (.block l hl)) h (GoodWL_of (s:=.Ss) (by simp) hl hc (good_W V hl hc))
end
theorem ul_Node0:(match Tryz.prog.underlying 74 with | some (.interface _)=>true | _=>false)=true:=by kernel_rfl
theorem ul_Node:∃ ms,Tryz.prog.underlying 74=some (.interface ms):=by
 have h:=ul_Node0
 revert h
 generalize Tryz.prog.underlying 74=d
 intro h
 match d,h with
 | some (.interface ms),_=>exact⟨ms,rfl⟩
theorem ul_mapN:Tryz.prog.underlying 55=some (.map 74 3):=by kernel_rfl
theorem k_un(k:K)(h:k.real):Tryz.prog.underlying k.pty=some (.pointer k.ty):=by
 cases k<;>first | exact h.elim | kernel_rfl
theorem k_comp(k:K)(h:k.real):(Tryz.prog.info? k.pty).map (·.comparable)=some true:=by
 cases k<;>first | exact h.elim | kernel_rfl
theorem k_size(k:K)(h:k.real):(Tryz.prog.info? k.ty).map (fun i=>decide (i.size≠0))=some true:=by
 cases k<;>first | exact h.elim | kernel_rfl
def KeyB(w:World)(B:Nat)(v:Value):Prop:=∃ (k:K) (b:Nat) (cs:Array Value) (t:TypeId),k.real∧v=.iface k.pty (.pointer (some ⟨b,0,none⟩))∧w.heap[b]?=some (.cells cs t (0,0))∧b<B
theorem place_nil(c:Nat)(w:World):Calls Tryz.prog 57 #[.nilIface,.pointer (some ⟨c,0,none⟩)] w (fun e w'=>e=.returned (.bool true)∧w=w'):=by
 go_enter Tryz.func57,Tryz.ntmps57
 go_wp2_with fail
 go_ret
 exact⟨rfl,rfl⟩
theorem meth_insp (fn : Fn) (a b : Array Value) (w : World) : (method 502 337 (.func fn a b) "Visit").run Tryz.prog w = .ok (238, .func fn a b) w := by kernel_rfl
theorem ent_insp(args:Array Value)(w:World):(callFunc 238 args).run Tryz.prog w=.ok (.enter 238 args) w:=by kernel_rfl
theorem V_isN:∀ {s:VS} {n:N},Gc.V s n→(match s with | .k _=>n.isN | _=>n.isList):=by
 intro s n h
 induction h with
 | flit | paren | un | exprS | inc | ifNo | ifElse | for_ | range | switch | select | branch | branchTo | block | labeled | caseNo | case_ | commNo | comm | call | bin | assign | ret | ident | lit | enil | snil | cnil | mnil=>trivial
 | econs k x t hk hx ht ih1 ih2=>exact ih2
 | scons k x t hk hx ht ih1 ih2=>exact ih2
 | ccons x t hx ht ih1 ih2=>exact ih2
 | mcons x t hx ht ih1 ih2=>exact ih2
theorem VV_form{n:N}(h:VV n):∃ (k:K) (t:Str) (i:Int) (ks:N),k.real∧n=.n k.str t i ks∧(k=.bin→isOp2 t∧∃ a b,ks=.two a b∧a.isN∧b.isN):=by
 cases h with
 | v k n h =>
   cases h with
   | ident=>exact⟨.ident,_,_,_,trivial,rfl,by intro h;cases h⟩
   | lit=>exact⟨.lit,_,_,_,trivial,rfl,by intro h;cases h⟩
   | flit=>exact⟨.flit,_,_,_,trivial,rfl,by intro h;cases h⟩
   | paren=>exact⟨.paren,_,_,_,trivial,rfl,by intro h;cases h⟩
   | call=>exact⟨.call,_,_,_,trivial,rfl,by intro h;cases h⟩
   | un=>exact⟨.un,_,_,_,trivial,rfl,by intro h;cases h⟩
   | bin op h ka kb a b hka hkb ha hb=>exact⟨.bin,_,_,_,trivial,rfl,fun _=>⟨h,a,b,rfl,(V_isN ha:a.isN),(V_isN hb:b.isN)⟩⟩
   | exprS=>exact⟨.exprS,_,_,_,trivial,rfl,by intro h;cases h⟩
   | assign=>exact⟨.assign,_,_,_,trivial,rfl,by intro h;cases h⟩
   | inc=>exact⟨.inc,_,_,_,trivial,rfl,by intro h;cases h⟩
   | ifNo=>exact⟨.if_,_,_,_,trivial,rfl,by intro h;cases h⟩
   | ifElse=>exact⟨.if_,_,_,_,trivial,rfl,by intro h;cases h⟩
   | for_=>exact⟨.for_,_,_,_,trivial,rfl,by intro h;cases h⟩
   | range=>exact⟨.range,_,_,_,trivial,rfl,by intro h;cases h⟩
   | switch=>exact⟨.switch,_,_,_,trivial,rfl,by intro h;cases h⟩
   | select=>exact⟨.select,_,_,_,trivial,rfl,by intro h;cases h⟩
   | branch=>exact⟨.branch,_,_,_,trivial,rfl,by intro h;cases h⟩
   | branchTo=>exact⟨.branch,_,_,_,trivial,rfl,by intro h;cases h⟩
   | ret=>exact⟨.ret,_,_,_,trivial,rfl,by intro h;cases h⟩
   | block=>exact⟨.block,_,_,_,trivial,rfl,by intro h;cases h⟩
   | labeled=>exact⟨.labeled,_,_,_,trivial,rfl,by intro h;cases h⟩
   | caseNo=>exact⟨.case_,_,_,_,trivial,rfl,by intro h;cases h⟩
   | case_=>exact⟨.case_,_,_,_,trivial,rfl,by intro h;cases h⟩
   | commNo=>exact⟨.comm,_,_,_,trivial,rfl,by intro h;cases h⟩
   | comm=>exact⟨.comm,_,_,_,trivial,rfl,by intro h;cases h⟩
 | ftype=>exact⟨.ftype,_,_,_,trivial,rfl,by intro h;cases h⟩
 | blockC l h=>exact⟨.block,_,_,_,trivial,rfl,by intro h;cases h⟩
 | blockM l h=>exact⟨.block,_,_,_,trivial,rfl,by intro h;cases h⟩
 | flist=>exact⟨.flist,_,_,_,trivial,rfl,by intro h;cases h⟩
 | func called l h=>exact⟨.func,_,_,_,trivial,rfl,by intro h;cases h⟩
theorem iface_obj{a:A}{k:K}(hk:a.K=k)(hr:k.real){w:World}{D:Nat→Prop}{v:Value}(h:Rep w D (a.g 1 .fin) [v]):∃ b cs t,v=.iface k.pty (.pointer (some ⟨b,0,none⟩))∧w.heap[b]?=some (.cells cs t (0,0)):=by
 subst hk
 cases a with
 | nil=>exact hr.elim
 | cons=>exact hr.elim
 | n k text num o b f0 f1 f2 f3 =>
   cases k<;>first
    | exact hr.elim
    | (simp only[A.g,if_true]at h;obtain⟨cs,rs,e,hb,ho,_⟩:=h;simp only[ptrVal,List.cons.injEq]at e;exact⟨b,_,_,e.1,ho⟩)
theorem key_of{a:A}{w:World}{D:Nat→Prop}{B:Nat}{v:Value}(hv:VV a.N)(hR:Rep w D (a.g 1 .fin) [v])(hD:∀ b,D b→¬ B≤b):KeyB w B v:=by
 obtain⟨k,t,i,ks,hk,hN,hb⟩:=VV_form hv
 obtain⟨o,b,f0,f1,f2,f3,rfl,hN'⟩:=A_of_N hN
 obtain⟨b,cs,t,e,ho⟩:=iface_obj (k:=k) rfl hk hR
 obtain⟨b2,e2,hb2⟩:=iface_of (k:=k) rfl hk hR
 rw[e]at e2
 simp only[Value.iface.injEq,Value.pointer.injEq,Option.some.injEq,Addr.mk.injEq,and_true,true_and]at e2
 subst e2
 have:=hD b hb2
 exact⟨k,b,cs,t,hk,e,ho,by omega⟩
theorem node_func(called:Str)(X0 X2 X3:N)(n0:X0.isN)(n2:X2.isN)(n3:X3.isN)(n:N)(hnf:n=.n (K.str .func) sE 0 (.four X0 (.name called 0) X2 X3))(hM:MadeB n .func)(hA:AllowedB n .func)(hc:1≤n.cost)(hd:1≤n.deep):NodeB n .func:=by
 intro kd tx i kids hn w D bb mb left depth f a c c' hR hD hB hcost hdeep
 obtain⟨x0,x1,x2,x3,y0,y1,y2,y3⟩:=slot4 hB.obj
 have zb:bb<w.heap.size:=lt_of_heap hB.obj
 have l0:=hB.l0
 have l1:=hB.l1
 have d0:=hB.d0
 have d1:=hB.d1
 have hMn:=Lib.hid hM
 have Hnf:=Lib.hid hnf
 have hAn:=Lib.hid hA
 have Hn:=Lib.hid hn
 have HR:=Lib.hid hR
 have HD:=Lib.hid hD
 have HB:=Lib.hid hB
 have hmf:∀ (fn:Fn) (first cap:Array Value) (w:World),(Instr.makeFunc fn first cap).run Tryz.prog w=.ok (.func fn first cap) w:=fun _ _ _ _=>rfl
 have hleft:1≤left:=by omega
 have hdep:depth+1≤60:=by omega
 clear hM hA hn hR hD hB hnf
 go_enter_defers Tryz.func33,Tryz.ntmps33
 go_wp2_with fail
 obtain⟨W1,hW1⟩:∃ W1,W1=(((w.setCell ⟨bb,1,none⟩ (.int .i64 (left-1))).setCell ⟨bb,2,none⟩ (.int .i64 (depth+1))).alloc (.cells #[.pointer (some ⟨bb,0,none⟩)] 96)).alloc (.cells #[.string kd,.string tx,.int .i64 i,.slice a c c'] 30):=⟨_,rfl⟩
 have kB:Kept (fun b=>b=bb) w W1:=by rw[hW1];exact((Kept.set1e (b:=bb)).trans (Kept.set1e (b:=bb))).trans (keptA.trans keptA)
 have hs:((w.setCell ⟨bb,1,none⟩ (.int .i64 (left-1))).setCell ⟨bb,2,none⟩ (.int .i64 (depth+1))).heap.size=w.heap.size:=by simp[World.setCell]
 have ob:W1.heap[bb]?=some (.cells #[.bool false,.int .i64 (left-1),.int .i64 (depth+1),.map (some mb)] 99 (0,0)):=by
  rw[hW1]
  exact(keptA.trans (M:=fun _=>False) keptA).obj (set_of_cells (cs:=[_,.int .i64 (left-1),_,_]) (set_of_cells (cs:=[_,_,_,_]) HB.out.obj 1 _) 2 _) (fun f=>f)
 have oa:W1.heap[w.heap.size]?=some (.cells #[.pointer (some ⟨bb,0,none⟩)] 96 (0,0)):=by rw[hW1,← hs];exact heap2_0 _ _ _
 have ox:W1.heap[w.heap.size+1]?=some (.cells #[.string kd,.string tx,.int .i64 i,.slice a c c'] 30 (0,0)):=by rw[hW1,← hs];exact heap2_1 _ _ _
 have zm:mb<w.heap.size:=by obtain⟨_,_,e,_⟩:=HB.out.map;exact lt_of_heap e
 have hne:=HB.out.ne
 have zx:w.heap.size+1<W1.heap.size:=lt_of_heap ox
 rw[← hW1]
 clear hW1 hs
 refine(hMn.out kd tx i kids Hn.out W1 D bb mb (left-1) (depth+1) f a c c' (HR.out.kept kB (fun b hb e=>HD.out b hb (.inl e))) HD.out ⟨ob,HB.out.map.kept kB (fun e=>hne e.symm),hne,by omega,by omega,by omega,by omega⟩ (by omega) (by omega)).mono ?_
 rintro e w1 ⟨x,v,f',rfl,hxN,hxK,R1,B1,E1,O1,L1,K1⟩
 obtain⟨b,rfl,hbD⟩:=iface_of hxK trivial R1
 have oa1:=K1.obj oa (by intro h;rcases h with h | h<;>omega)
 have ox1:=K1.obj ox (by intro h;rcases h with h | h<;>omega)
 have p0:=cell_of_cells (cs:=[_]) oa1 0 rfl
 obtain⟨q0,q1,q2,q3,-⟩:=slot4 ox1
 obtain⟨r0,r1,r2,r3,s0,s1,s2,s3⟩:=slot4 B1.obj
 have t1:∀ w,(Instr.typeAssert (.iface (K.pty .func) (.pointer (some ⟨b,0,none⟩))) 74 54 true).run Tryz.prog w=.ok (.tuple #[.pointer (some ⟨b,0,none⟩),.bool true]) w:=fun w=>as_func _ _ w
 obtain⟨pn,hpb,hpo,hpz,hpz2⟩:∃ pn,w1.cell? ⟨b,1,none⟩=some (.pointer (some ⟨pn,0,none⟩))∧w1.cell? ⟨pn,1,none⟩=some (.pointer none)∧b<w1.heap.size∧pn<w1.heap.size:=by
  have hxN2:=hxN
  rw[Hnf.out]at hxN2
  obtain⟨o',b',f0,f1,f2,f3,rfl,e⟩:=A_of_N (k:=.func) hxN2
  have e0:f0.N=X0:=congrArg (fun x=>match x with | Gc.N.n _ _ _ (.cons y _)=>y | _=>.nil) e
  have e1:f1.N=.n (K.str .ident) called 0 .nil:=congrArg (fun x=>match x with | Gc.N.n _ _ _ (.cons _ (.cons y _))=>y | _=>.nil) e
  have e2:f2.N=X2:=congrArg (fun x=>match x with | Gc.N.n _ _ _ (.cons _ (.cons _ (.cons y _)))=>y | _=>.nil) e
  have e3:f3.N=X3:=congrArg (fun x=>match x with | Gc.N.n _ _ _ (.cons _ (.cons _ (.cons _ (.cons y _))))=>y | _=>.nil) e
  obtain⟨o1,b1,g0,g1,g2,g3,rfl,-⟩:=A_of_N (k:=.ident) e1
  obtain⟨ev,-,v0,v1,v2,v3,ho,-,r1,-,-⟩:=open_func (m:=1) (.inr rfl) (isn_of_N (by rw[e0];exact n0)) (show A.isn (.n .ident called 0 o1 b1 g0 g1 g2 g3) from trivial) (isn_of_N (by rw[e2];exact n2)) (isn_of_N (by rw[e3];exact n3)) R1
  have eb:b=b':=by simp only[if_true,ptrVal]at ev;cases ev;rfl
  subst eb
  obtain⟨ev1,-,ho1⟩:=open_ident (m:=0) (.inl rfl) r1
  simp only[Nat.zero_ne_one,if_false,ptrVal]at ev1
  subst ev1
  have hob:o1=none:=by
   have:=O1.2.2.2.1.1
   simpa using this
  subst hob
  exact⟨b1,cell_of_cells (cs:=[_,_,_,_]) ho 1 rfl,cell_of_cells (cs:=[_,_]) ho1 1 rfl,lt_of_heap ho,lt_of_heap ho1⟩
 have HxN:=Lib.hid hxN
 have HxK:=Lib.hid hxK
 have HR1:=Lib.hid R1
 have HB1:=Lib.hid B1
 have HE1:=Lib.hid E1
 have HO1:=Lib.hid O1
 clear hxN hxK R1 B1 E1 O1
 go_wp2_with fail
 refine(hAn.out kd tx i kids Hn.out w1 _ a c c' x b HxN.out HxK.out HR1.out).mono ?_
 rintro e w2 ⟨rfl,K2⟩
 have p0':=K2.cell p0 (fun f=>f)
 have hpb':=K2.cell hpb (fun f=>f)
 have hpo':=K2.cell hpo (fun f=>f)
 have hpz':b<w2.heap.size:=Nat.lt_of_lt_of_le hpz K2.size
 have hpz2':pn<w2.heap.size:=Nat.lt_of_lt_of_le hpz2 K2.size
 have r0':=K2.cell r0 (fun f=>f)
 have r2':=K2.cell r2 (fun f=>f)
 have s2':w2.frozen? ⟨bb,2,none⟩=false:=free_of_cells (K2.obj HB1.out.obj (fun f=>f)) 2
 go_wp2_with fail
 refine leaves_cons (f:=53) (args:=#[.pointer (some ⟨w.heap.size,0,none⟩)]) (by simp) (by simp[go_sem]) ?_
 refine(dec_deferred w.heap.size bb (depth+1) .returning _ p0' r2' s2' (by omega) (by omega)).mono ?_
 rintro e u' w3 ⟨rfl,rfl,rfl⟩
 refine⟨_,results_tmp rfl _ _ _,?_⟩
 have hcn:(left-1+1-(n.cost:Int))=left-n.cost:=by omega
 have kF:Kept (fun b=>b=bb) w2 (w2.setCell ⟨bb,2,none⟩ (.int .i64 (depth+1-1))):=Kept.set1e (b:=bb)
 have s1:=kB.size
 have s2:=K1.size
 have s3:=K2.size
 have s4:=kF.size
 refine⟨x,_,f',rfl,HxN.out,HxK.out,(((HR1.out.kept K2 (fun _ _ f=>f)).kept kF (fun b hb=>by omega)).imp fun b _ hb=>by omega),⟨?_,((HB1.out.map.kept K2 (fun f=>f)).kept kF (fun e=>hne e.symm)),hne,by omega,by omega,d0,d1⟩,HE1.out,HO1.out,⟨L1.1,fun b hb=>by have:=L1.2 b hb;omega⟩,?_⟩
 · have:=set_of_cells (cs:=[.bool false,.int .i64 (left-1+1-n.cost),.int .i64 (depth+1),.map (some mb)]) (K2.obj HB1.out.obj (fun f=>f)) 2 (.int .i64 (depth+1-1))
   rw[hcn,show depth+1-1=depth by omega]at this
   rw[show depth+1-1=depth by omega]
   exact this
 · exact(((kB.mono (M':=Two bb mb) fun b _ h=>.inl h).trans (K1.mono fun b _ h=>h)).trans (K2.mono fun _ _ f=>f.elim)).trans (kF.mono fun b _ h=>.inl h)
theorem func_ok(called:Str)(l:N)(hV:V .Ss l)(hc:l.cost≤100000):NodeB (Gc.N.func called l) .func:=by
 have HL:=good_N hV hc
 have h2:=HL.2.1
 have BB:=block_ok HL.1 (by omega) HL.2.2
 have BI:BN .ident (Gc.N.name called 0):=BN.mk' (k:=.ident) trivial (by intro h;cases h) trivial (made_ident called 0 (by decide) (by decide)) (allowed_ident _)
 exact node_func called Gc.N.none Gc.N.ftype (Gc.N.block l) noN ftype_ok.isn BB.isn _ rfl (made_func sE Gc.N.none (Gc.N.name called 0) Gc.N.ftype (Gc.N.block l) noN BI.isn ftype_ok.isn BB.isn (cb_noFL (kids:=(Gc.N.four Gc.N.none (Gc.N.name called 0) Gc.N.ftype (Gc.N.block l))) (j:=0) (show 0<4 by decide) trivial ⟨noN,BI.isn,ftype_ok.isn,BB.isn,trivial⟩ (show 4≤100000 by decide) rfl) (cb_mustI (kids:=(Gc.N.four Gc.N.none (Gc.N.name called 0) Gc.N.ftype (Gc.N.block l))) (j:=1) (show 1<4 by decide) trivial ⟨noN,BI.isn,ftype_ok.isn,BB.isn,trivial⟩ (show 4≤100000 by decide) BI.nb) (cb_mustFT (kids:=(Gc.N.four Gc.N.none (Gc.N.name called 0) Gc.N.ftype (Gc.N.block l))) (j:=2) (show 2<4 by decide) trivial ⟨noN,BI.isn,ftype_ok.isn,BB.isn,trivial⟩ (show 4≤100000 by decide) ftype_ok.nb) (cb_maybeB (kids:=(Gc.N.four Gc.N.none (Gc.N.name called 0) Gc.N.ftype (Gc.N.block l))) (j:=3) (show 3<4 by decide) trivial ⟨noN,BI.isn,ftype_ok.isn,BB.isn,trivial⟩ (show 4≤100000 by decide) BB.nb (BN.ne (k:=.block) trivial BB))) (allowed_func _) (by show 1≤(Gc.N.n (K.str .func) _ _ _).cost;rw[cost_real (k:=.func) trivial];omega) (by show 1≤(Gc.N.n (K.str .func) _ _ _).deep;rw[deep_real (k:=.func) trivial];omega)
theorem MapI.new(w:World):MapI (w.alloc (.map #[] 0)) w.heap.size (fun _=>none) :=
 by
 refine⟨#[],0,heap_alloc_new w _,by simp,?_,?_,?_⟩
 · intro i a h;cases h
 · intro i a h;cases h
 · intro i j a b h;cases h
end Go.Proofs.YtleolbpibjnedaaGreat
