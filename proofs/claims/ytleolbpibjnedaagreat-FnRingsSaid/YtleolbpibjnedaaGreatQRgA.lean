/- Rings by indices and lowlinks: the walk's state, and why its word is right; no program is named here. -/
import Derived.Test.YtleolbpibjnedaaGreatQBase
import Derived.Test.YtleolbpibjnedaaGreatQRc
import Derived.Test.YtleolbpibjnedaaGreatQLsI
import Derived.Test.YtleolbpibjnedaaGreatQBdA
import Derived.Deep.AppendSrc
import Derived.Test.YtleolbpibjnedaaGreatQCsA
set_option linter.unusedSimpArgs false
set_option linter.unusedVariables false
set_option maxRecDepth 100000
set_option maxHeartbeats 4000000
namespace Gc
inductive Way (adj:Nat→List Nat):Nat→Nat→Prop
 | refl (u:Nat):Way adj u u
 | step {u w v:Nat} (h:w∈adj u) (t:Way adj w v):Way adj u v
theorem Way.trans{adj:Nat→List Nat}{u v w:Nat}(h:Way adj u v)(g:Way adj v w):Way adj u w:=by
 induction h with
 | refl=>exact g
 | step h _ ih=>exact .step h (ih g)
theorem Way.one{adj:Nat→List Nat}{u w:Nat}(h:w∈adj u):Way adj u w:=.step h (.refl _)
theorem Way.stays{adj:Nat→List Nat}{P:Nat→Prop}(hP:∀ u,P u→∀ w∈adj u,P w){u v:Nat}(h:Way adj u v):P u→P v:=by
 induction h with
 | refl=>exact id
 | step h _ ih=>exact fun hu=>ih (hP _ hu _ h)
def Round(adj:Nat→List Nat)(u:Nat):Prop:=∃ v,v≠u∧Way adj u v∧Way adj v u
structure Fr where
 p:Nat
 k:Nat
 fin:List Nat
def stk:List Fr→List Nat
 | []=>[]
 | f :: fs=>f.fin++f.p :: stk fs
structure TS where
 fr:List Fr
 done:List Nat
 ind:Nat→Nat
 low:Nat→Nat
 rc:Nat→Bool
 n:Nat
def Ch(adj:Nat→List Nat)(ind low:Nat→Nat)(S D:List Nat):List Fr→Prop
 | []=>True
 | f :: fs=>(∀ u∈f.fin,Way adj f.p u∧Way adj u f.p∧ind f.p<ind u) ∧
   (∀ u∈f.fin,∀ w∈adj u,(w∈S∨w∈D)∧(w∈S→low f.p≤ind w)) ∧
   (∀ w∈(adj f.p).take f.k,(w∈S∨w∈D)∧(w∈S→low f.p≤ind w)) ∧
   low f.p≤ind f.p∧(∃ x∈f.p :: stk fs,ind x=low f.p∧Way adj f.p x) ∧
   (∀ x∈stk fs,ind x<ind f.p)∧(∀ g∈fs.head?,Way adj g.p f.p)∧Ch adj ind low S D fs
structure TInv (adj:Nat→List Nat) (s:TS):Prop where
 ch:Ch adj s.ind s.low (stk s.fr) s.done s.fr
 nd:(stk s.fr).Nodup
 dis:∀ u∈stk s.fr,u ∉ s.done
 lt:∀ u∈stk s.fr,s.ind u<s.n
 cl:∀ u∈s.done,∀ w∈adj u,w∈s.done
 yes:∀ u∈s.done,s.rc u=true↔Round adj u
 no:∀ u,u ∉ s.done→s.rc u=false
def upd{α:Type}(f:Nat→α)(u:Nat)(x:α):Nat→α:=fun v=>if v=u then x else f v
theorem upd_same{α:Type}(f:Nat→α)(u:Nat)(x:α):upd f u x u=x:=by simp[upd]
theorem upd_ne{α:Type}(f:Nat→α){u v:Nat}(x:α)(h:v≠u):upd f u x v=f v:=by simp[upd,h]
theorem Ch.turn{adj:Nat→List Nat}{ind low ind' low':Nat→Nat}{S D S' D':List Nat}:∀ {fr:List Fr},Ch adj ind low S D fr →
 (∀ u∈stk fr,ind' u=ind u)→(∀ f∈fr,low' f.p=low f.p)→(∀ w,w∈S∨w∈D→w∈S'∨w∈D')→(∀ f∈fr,∀ w,(w∈S→low f.p≤ind w)→(w∈S∨w∈D)→w∈S'→low f.p≤ind' w)→Ch adj ind' low' S' D' fr
 | [],_,_,_,_,_=>trivial
 | f :: fs,⟨h1,h2,h3,h4,⟨x,hx,ex,wx⟩,h6,h7,h8⟩,hi,hl,hS,hd=>by
   have ip:ind' f.p=ind f.p:=hi _ (by simp[stk])
   have lp:low' f.p=low f.p:=hl f (by simp)
   have is:∀ u∈stk fs,ind' u=ind u:=fun u hu=>hi u (by simp[stk,hu])
   have ifn:∀ u∈f.fin,ind' u=ind u:=fun u hu=>hi u (by simp[stk,hu])
   refine⟨fun u hu=>?_,fun u hu w hw=>?_,fun w hw=>?_,by rw[ip,lp];exact h4,⟨x,hx,?_,wx⟩,fun x hx=>by rw[is x hx,ip];exact h6 x hx,h7,Ch.turn h8 is (fun g hg=>hl g (by simp[hg])) hS fun g hg=>hd g (by simp[hg])⟩
   · rw[ip,ifn u hu];exact h1 u hu
   · obtain⟨q1,q2⟩:=h2 u hu w hw
     exact⟨hS w q1,fun h=>by rw[lp];exact hd f (by simp) w q2 q1 h⟩
   · obtain⟨q1,q2⟩:=h3 w hw
     exact⟨hS w q1,fun h=>by rw[lp];exact hd f (by simp) w q2 q1 h⟩
   · rw[lp,← ex]
     rcases List.mem_cons.1 hx with rfl|hx
     · exact ip
     · exact is x hx
theorem Ch.up{adj:Nat→List Nat}{ind low:Nat→Nat}{S D:List Nat}:∀ {fr:List Fr},Ch adj ind low S D fr→∀ x∈stk fr,∀ g∈fr.head?,Way adj x g.p
 | f :: fs,h,x,hx,g,hg=>by
   simp only[List.head?_cons,Option.mem_some_iff]at hg
   subst hg
   obtain⟨h1,-,-,-,-,-,h7,h8⟩:=h
   simp only[stk,List.mem_append,List.mem_cons]at hx
   rcases hx with hx|rfl|hx
   · exact(h1 x hx).2.1
   · exact .refl _
   · cases fs with
     | nil=>simp[stk]at hx
     | cons q qs=>exact(Ch.up h8 x hx q rfl).trans (h7 q rfl)
 | [],_,x,hx,_,_=>by simp[stk]at hx
theorem Ch.mem{adj:Nat→List Nat}{ind low:Nat→Nat}{S D:List Nat}:∀ {fr:List Fr},Ch adj ind low S D fr→∀ f∈fr,f.p∈stk fr
 | f :: fs,h,g,hg=>by
   rcases List.mem_cons.1 hg with rfl|hg
   · simp[stk]
   · have:=Ch.mem h.2.2.2.2.2.2.2 g hg
     simp[stk,this]
theorem TInv.start{adj:Nat→List Nat}{s:TS}(I:TInv adj s)(hf:s.fr=[])(r:Nat)(hr:r ∉ s.done):TInv adj { s with fr:=[⟨r,0,[]⟩],ind:=upd s.ind r s.n,low:=upd s.low r s.n,n:=s.n+1 } where
 ch:=by simp[Ch,stk,upd_same,Way.refl]
 nd:=by simp[stk]
 dis:=by simp[stk,hr]
 lt:=by simp[stk,upd_same]
 cl:=I.cl
 yes:=I.yes
 no:=I.no
theorem TInv.tree{adj:Nat→List Nat}{s:TS}(I:TInv adj s){v k:Nat}{fin:List Nat}{fs:List Fr}(hf:s.fr=⟨v,k,fin⟩ :: fs)(hk:k<(adj v).length)(h1:(adj v)[k] ∉ stk s.fr)(h2:(adj v)[k] ∉ s.done) :
 TInv adj { s with fr:=⟨(adj v)[k],0,[]⟩ :: ⟨v,k+1,fin⟩ :: fs,ind:=upd s.ind (adj v)[k] s.n,low:=upd s.low (adj v)[k] s.n,n:=s.n+1 }:=by
 obtain⟨w,hw⟩:∃ w,w=(adj v)[k]:=⟨_,rfl⟩
 have hwm:w∈adj v:=by rw[hw];exact List.getElem_mem hk
 rw[← hw]at h1 h2 ⊢
 have hS:stk (⟨v,k+1,fin⟩ :: fs)=stk s.fr:=by rw[hf];rfl
 have hne:∀ u∈stk s.fr,u≠w:=fun u hu e=>h1 (e▸hu)
 have c:=I.ch
 rw[hf]at c
 have hv:v∈stk s.fr:=by rw[hf];simp[stk]
 have c':Ch adj (upd s.ind w s.n) (upd s.low w s.n) (w :: stk s.fr) s.done (⟨v,k,fin⟩ :: fs):=by
  have c0:=I.ch
  rw[hf]at c0
  rw[hf]at hne ⊢
  refine Ch.turn c0 (fun u hu=>upd_ne _ _ (hne u hu)) (fun f hf'=>upd_ne _ _ (hne f.p (Ch.mem c0 f hf'))) (fun u hu=>hu.imp (fun h=>by simp[h]) id) fun f hf' u g q hu=>?_
  rcases q with q|q
  · rw[upd_ne _ _ (hne u q)]
    exact g q
  · rcases List.mem_cons.1 hu with rfl|hu
    · exact absurd q h2
    · rw[upd_ne _ _ (hne u hu)]
      exact g hu
 have hlow:s.low v≤s.ind v:=c.2.2.2.1
 have hvw:v≠w:=hne v hv
 refine⟨?_,?_,?_,?_,I.cl,I.yes,I.no⟩
 · show Ch adj _ _ (w :: stk (⟨v,k+1,fin⟩ :: fs)) _ _
   rw[hS]
   refine⟨by simp,by simp,by simp,by simp only[upd_same];exact Nat.le_refl _,⟨w,by simp,by simp only[upd_same],.refl _⟩,fun x hx=>?_,fun g hg=>?_,?_⟩
   · rw[hS]at hx
     simp only[upd_same]
     rw[upd_ne _ _ (hne x hx)]
     exact I.lt x hx
   · simp only[List.head?_cons,Option.mem_some_iff]at hg
     subst hg
     exact .one hwm
   · obtain⟨g1,g2,g3,g4,g5,g6,g7,g8⟩:=c'
     refine⟨g1,g2,fun u hu=>?_,g4,g5,g6,g7,g8⟩
     simp only[]at hu
     rw[List.take_succ_eq_append_getElem hk,← hw]at hu
     rcases List.mem_append.1 hu with hu|hu
     · exact g3 u hu
     · rw[List.mem_singleton]at hu
       subst hu
       refine⟨.inl (by simp),fun _=>?_⟩
       simp only[]
       rw[upd_same,upd_ne _ _ hvw]
       exact Nat.le_of_lt (Nat.lt_of_le_of_lt hlow (I.lt v hv))
 · show(w :: stk (⟨v,k+1,fin⟩ :: fs)).Nodup
   rw[hS]
   exact List.nodup_cons.2 ⟨h1,I.nd⟩
 · intro u hu
   change u∈w :: stk (⟨v,k+1,fin⟩ :: fs) at hu
   rw[hS]at hu
   rcases List.mem_cons.1 hu with rfl|hu
   · exact h2
   · exact I.dis u hu
 · intro u hu
   change u∈w :: stk (⟨v,k+1,fin⟩ :: fs) at hu
   rw[hS]at hu
   rcases List.mem_cons.1 hu with rfl|hu
   · simp[upd_same]
   · show upd s.ind w s.n u<s.n+1
     rw[upd_ne _ _ (hne u hu)]
     have:=I.lt u hu
     omega
theorem TInv.seen{adj:Nat→List Nat}{s:TS}(I:TInv adj s){v k:Nat}{fin:List Nat}{fs:List Fr}(hf:s.fr=⟨v,k,fin⟩ :: fs)(hk:k<(adj v).length)(hs:(adj v)[k]∈stk s.fr∨(adj v)[k]∈s.done) :
 TInv adj { s with fr:=⟨v,k+1,fin⟩ :: fs,low:=if (adj v)[k]∈stk s.fr∧s.ind (adj v)[k]<s.low v then upd s.low v (s.ind (adj v)[k]) else s.low }:=by
 obtain⟨w,hw⟩:∃ w,w=(adj v)[k]:=⟨_,rfl⟩
 have hwm:w∈adj v:=by rw[hw];exact List.getElem_mem hk
 rw[← hw]at hs ⊢
 have hS:stk (⟨v,k+1,fin⟩ :: fs)=stk s.fr:=by rw[hf];rfl
 have nd:=I.nd
 have c:=I.ch
 obtain⟨low',hl⟩:∃ low',low'=(if w∈stk s.fr∧s.ind w<s.low v then upd s.low v (s.ind w) else s.low):=⟨_,rfl⟩
 rw[← hl]
 have hle:low' v≤s.low v:=by
  rw[hl];split
  · rename_i h;rw[upd_same];exact Nat.le_of_lt h.2
  · exact Nat.le_refl _
 have hwl:w∈stk s.fr→low' v≤s.ind w:=fun h=>by
  rw[hl];split
  · rw[upd_same];exact Nat.le_refl _
  · rename_i hn
    exact Nat.le_of_not_lt fun q=>hn ⟨h,q⟩
 have hoth:∀ u,u≠v→low' u=s.low u:=fun u hu=>by
  rw[hl];split
  · exact upd_ne _ _ hu
  · rfl
 rw[hf]at c
 have c0:=c
 obtain⟨g1,g2,g3,g4,⟨x,hx,ex,wx⟩,g6,g7,g8⟩:=c
 simp only[]at g1 g2 g3 g4 hx ex wx g6 g7
 have hvs:v ∉ stk fs:=by
  rw[hf]at nd
  simp only[stk,List.nodup_append,List.nodup_cons]at nd
  exact nd.2.1.1
 refine⟨?_,by rw[hS];exact I.nd,by rw[hS];exact I.dis,by rw[hS];exact I.lt,I.cl,I.yes,I.no⟩
 show Ch adj s.ind low' (stk (⟨v,k+1,fin⟩ :: fs)) s.done _
 rw[hS]
 rw[← hf]at g2 g3 g8
 refine⟨g1,fun u hu z hz=>⟨(g2 u hu z hz).1,fun h=>Nat.le_trans hle ((g2 u hu z hz).2 h)⟩,fun u hu=>?_,Nat.le_trans hle g4,?_,g6,g7,?_⟩
 · simp only[]at hu
   rw[List.take_succ_eq_append_getElem hk,← hw]at hu
   rcases List.mem_append.1 hu with hu|hu
   · exact⟨(g3 u hu).1,fun h=>Nat.le_trans hle ((g3 u hu).2 h)⟩
   · rw[List.mem_singleton]at hu
     subst hu
     exact⟨hs,hwl⟩
 · simp only[]
   by_cases h:w∈stk s.fr∧s.ind w<s.low v
   · have e:low' v=s.ind w:=by rw[hl,if_pos h,upd_same]
     have hm:=h.1
     rw[hf]at hm
     simp only[stk,List.mem_append]at hm
     rcases hm with hm|hm
     · have:=(g1 w hm).2.2
       have:=h.2
       omega
     · exact⟨w,hm,e.symm,.one hwm⟩
   · have e:low' v=s.low v:=by rw[hl,if_neg h]
     exact⟨x,hx,by rw[e];exact ex,wx⟩
 · refine Ch.turn g8 (fun _ _=>rfl) (fun f hf'=>hoth f.p fun e=>hvs (e▸Ch.mem g8 f hf')) (fun _ h=>h) fun f _ u q _ hu=>q hu
theorem TInv.merge{adj:Nat→List Nat}{s:TS}(I:TInv adj s){v k:Nat}{fin:List Nat}{fs:List Fr}(hf:s.fr=⟨v,k,fin⟩ :: fs)(hk:(adj v).length≤k)(hne:s.low v≠s.ind v) :
 ∃ g gs,fs=g :: gs∧TInv adj { s with fr:=⟨g.p,g.k,fin++v :: g.fin⟩ :: gs,low:=if s.low v<s.low g.p then upd s.low g.p (s.low v) else s.low }:=by
 have c:=I.ch
 rw[hf]at c
 obtain⟨h1,h2,h3,h4,⟨x,hx,ex,wx⟩,h6,h7,h8⟩:=c
 simp only[]at h1 h2 h3 h4 hx ex wx h6 h7
 have hx':x∈stk fs:=by
  rcases List.mem_cons.1 hx with rfl|hx
  · exact absurd ex.symm hne
  · exact hx
 cases fs with
 | nil=>simp[stk]at hx'
 | cons g gs =>
   refine⟨g,gs,rfl,?_⟩
   have hgs:g.p∈stk (g :: gs):=by simp[stk]
   have wvg:Way adj v g.p:=wx.trans (Ch.up h8 x hx' g rfl)
   have wgv:Way adj g.p v:=h7 g rfl
   have igv:s.ind g.p<s.ind v:=h6 _ hgs
   have c8:=h8
   obtain⟨k1,k2,k3,k4,⟨y,hy,ey,wy⟩,k6,k7,k8⟩:=h8
   obtain⟨low',hl⟩:∃ low',low'=(if s.low v<s.low g.p then upd s.low g.p (s.low v) else s.low):=⟨_,rfl⟩
   rw[← hl]
   have l1:low' g.p≤s.low g.p:=by
    rw[hl];split
    · rename_i h;rw[upd_same];exact Nat.le_of_lt h
    · exact Nat.le_refl _
   have l2:low' g.p≤s.low v:=by
    rw[hl];split
    · rw[upd_same];exact Nat.le_refl _
    · rename_i h;exact Nat.le_of_not_lt h
   have nd:=I.nd
   rw[hf]at nd
   have hg0:g.p ∉ stk gs:=by
    simp only[stk,List.nodup_append,List.nodup_cons]at nd
    exact nd.2.1.2.2.1.1
   have lo:∀ u,u≠g.p→low' u=s.low u:=fun u hu=>by
    rw[hl];split
    · exact upd_ne _ _ hu
    · rfl
   have hS:stk (⟨g.p,g.k,fin++v :: g.fin⟩ :: gs)=stk s.fr:=by rw[hf];simp[stk]
   refine⟨?_,by rw[hS];exact I.nd,by rw[hS];exact I.dis,by rw[hS];exact I.lt,I.cl,I.yes,I.no⟩
   show Ch adj s.ind low' (stk (⟨g.p,g.k,fin++v :: g.fin⟩ :: gs)) s.done _
   rw[hS]
   rw[← hf]at h2 h3 k2 k3 k8
   refine⟨fun u hu=>?_,fun u hu w hw=>?_,fun w hw=>⟨(k3 w hw).1,fun h=>Nat.le_trans l1 ((k3 w hw).2 h)⟩,Nat.le_trans l1 k4,?_,k6,k7,?_⟩
   · simp only[]at hu ⊢
     rcases List.mem_append.1 hu with hu|hu
     · obtain⟨q1,q2,q3⟩:=h1 u hu
       exact⟨wgv.trans q1,q2.trans wvg,by omega⟩
     · rcases List.mem_cons.1 hu with rfl|hu
       · exact⟨wgv,wvg,igv⟩
       · exact k1 u hu
   · simp only[]at hu ⊢
     rcases List.mem_append.1 hu with hu|hu
     · exact⟨(h2 u hu w hw).1,fun h=>Nat.le_trans l2 ((h2 u hu w hw).2 h)⟩
     · rcases List.mem_cons.1 hu with rfl|hu
       · rw[List.take_of_length_le hk]at h3
         exact⟨(h3 w hw).1,fun h=>Nat.le_trans l2 ((h3 w hw).2 h)⟩
       · exact⟨(k2 u hu w hw).1,fun h=>Nat.le_trans l1 ((k2 u hu w hw).2 h)⟩
   · simp only[]
     by_cases h:s.low v<s.low g.p
     · refine⟨x,?_,by rw[hl,if_pos h,upd_same];exact ex,wgv.trans wx⟩
       simp only[stk,List.mem_append]at hx'
       rcases hx' with hx'|hx'
       · have:=(k1 x hx').2.2
         omega
       · exact hx'
     · exact⟨y,hy,by rw[hl,if_neg h];exact ey,wy⟩
   · exact Ch.turn k8 (fun _ _=>rfl) (fun f hf'=>lo f.p fun e=>hg0 (e▸Ch.mem k8 f hf')) (fun _ h=>h) fun f _ u q _ hu=>q hu
theorem TInv.part{adj:Nat→List Nat}{s:TS}(I:TInv adj s){v k:Nat}{fin:List Nat}{fs:List Fr}(hf:s.fr=⟨v,k,fin⟩ :: fs)(hk:(adj v).length≤k)(he:s.low v=s.ind v) :
 TInv adj { s with fr:=fs,done:=fin++v :: s.done,rc:=fun u=>if fin≠[]∧u∈fin++[v] then true else s.rc u }∧∀ g∈fs.head?,¬ s.low v<s.low g.p:=by
 have c:=I.ch
 rw[hf]at c
 obtain⟨h1,h2,h3,h4,⟨x,hx,ex,wx⟩,h6,h7,h8⟩:=c
 simp only[]at h1 h2 h3 h4 hx ex wx h6 h7
 have nd:=I.nd
 rw[hf]at nd
 simp only[stk,List.nodup_append,List.nodup_cons]at nd
 obtain⟨n1,⟨n2,n3⟩,n4⟩:=nd
 have hS:stk s.fr=fin++v :: stk fs:=by rw[hf];rfl
 have dis:=I.dis
 rw[hS]at dis
 rw[List.take_of_length_le hk]at h3
 have close:∀ w,(w∈stk s.fr∨w∈s.done)→(w∈stk s.fr→s.low v≤s.ind w)→w∈fin++v :: s.done:=fun w q1 q2=>by
  rcases q1 with q|q
  · have q3:=q2 q
    rw[hS]at q
    rcases List.mem_append.1 q with q|q
    · simp[q]
    · rcases List.mem_cons.1 q with rfl|q
      · simp
      · have:=h6 w q
        omega
  · simp[q]
 rw[← hf]at h2 h3
 have hcl:∀ u∈fin++v :: s.done,∀ w∈adj u,w∈fin++v :: s.done:=fun u hu w hw=>by
  rcases List.mem_append.1 hu with hu|hu
  · exact close w (h2 u hu w hw).1 (h2 u hu w hw).2
  · rcases List.mem_cons.1 hu with rfl|hu
    · exact close w (h3 w hw).1 (h3 w hw).2
    · have:=I.cl u hu w hw
      simp[this]
 refine⟨⟨?_,n3,fun u hu=>?_,fun u hu=>I.lt u (by rw[hS];simp[hu]),hcl,fun u hu=>?_,fun u hu=>?_⟩,fun g hg=>?_⟩
 · refine Ch.turn h8 (fun _ _=>rfl) (fun _ _=>rfl) (fun w h=>?_) fun f _ w q _ hw=>q (by rw[← hf,hS];simp[hw])
   rw[← hf,hS]at h
   simp only[List.mem_append,List.mem_cons]at h ⊢
   rcases h with (h|rfl|h)|h<;>simp[*]
 · simp only[List.mem_append,List.mem_cons,not_or]
   exact⟨fun q=>n4 u q u (by simp[hu]) rfl,fun q=>n2 (q▸hu),dis u (by simp[hu])⟩
 · by_cases hd:u∈s.done
   · have hn:u ∉ fin++[v]:=fun q=>by
      refine dis u ?_ hd
      rcases List.mem_append.1 q with q|q
      · simp[q]
      · simp at q;simp[q]
     show(if fin≠[]∧u∈fin++[v] then true else s.rc u)=true↔_
     rw[if_neg fun q=>hn q.2]
     exact I.yes u hd
   · have hc:u∈fin++[v]:=by
      simp only[List.mem_append,List.mem_cons,List.not_mem_nil,or_false]at hu ⊢
      rcases hu with hu|hu|hu
      · exact .inl hu
      · exact .inr hu
      · exact absurd hu hd
     show(if fin≠[]∧u∈fin++[v] then true else s.rc u)=true↔_
     by_cases hfin:fin=[]
     · subst hfin
       obtain rfl:u=v:=by simpa using hc
       rw[if_neg fun q=>q.1 rfl,I.no u hd]
       refine⟨fun h=>(by cases h),fun ⟨z,hz,w1,w2⟩=>?_⟩
       have hzd:z∈u :: s.done:=w1.stays (P:=fun y=>y∈u :: s.done) (fun y hy w hw=>hcl y hy w hw) (by simp)
       have hzd':z∈s.done:=(List.mem_cons.1 hzd).resolve_left hz
       exact absurd (w2.stays (P:=fun y=>y∈s.done) (fun y hy w hw=>I.cl y hy w hw) hzd') hd
     · rw[if_pos ⟨hfin,hc⟩]
       refine⟨fun _=>?_,fun _=>rfl⟩
       rcases List.mem_append.1 hc with hc|hc
       · exact⟨v,fun e=>n4 u hc v (by simp) e.symm,(h1 u hc).2.1,(h1 u hc).1⟩
       · obtain rfl:u=v:=by simpa using hc
         obtain⟨y,hy⟩:∃ y,y∈fin:=by
          cases fin with
          | nil=>exact absurd rfl hfin
          | cons y l=>exact⟨y,by simp⟩
         exact⟨y,fun e=>n4 y hy u (by simp) e,(h1 y hy).1,(h1 y hy).2.1⟩
 · have hd:u ∉ s.done:=fun q=>hu (by simp[q])
   have hn:u ∉ fin++[v]:=fun q=>hu (by
    rcases List.mem_append.1 q with q|q
    · simp[q]
    · simp at q;simp[q])
   show(if fin≠[]∧u∈fin++[v] then true else s.rc u)=false
   rw[if_neg fun q=>hn q.2]
   exact I.no u hd
 · cases fs with
   | nil=>cases hg
   | cons g' gs =>
     obtain rfl:g'=g:=by simpa using hg
     have:=h6 g'.p (by simp[stk])
     have:=h8.2.2.2.1
     omega
theorem TInv.told{adj:Nat→List Nat}{s:TS}(I:TInv adj s){u:Nat}(hu:u∈s.done):(s.rc u=true∨u∈adj u)↔∃ w∈adj u,Way adj w u:=by
 rw[I.yes u hu]
 constructor
 · rintro (⟨v,hv,w1,w2⟩|h)
   · cases w1 with
     | refl=>exact absurd rfl hv
     | step h t=>exact⟨_,h,t.trans w2⟩
   · exact⟨u,h,.refl _⟩
 · rintro ⟨w,h,t⟩
   by_cases e:w=u
   · subst e;exact .inr h
   · exact .inl ⟨w,e,.one h,t⟩
theorem TInv.empty(adj:Nat→List Nat)(ind low:Nat→Nat):TInv adj ⟨[],[],ind,low,fun _=>false,0⟩ :=
 ⟨trivial,List.nodup_nil,by simp[stk],by simp[stk],by simp,by simp,fun _ _=>rfl⟩
structure SInv (adj:Nat→List Nat) (k:Nat) (seen:Nat→Bool) (todo:List Nat):Prop where
 way:∀ x,seen x=true∨x∈todo→∃ w∈adj k,Way adj w x
 all:∀ x∈adj k,seen x=true∨x∈todo
 cl:∀ y,seen y=true→∀ z∈adj y,seen z=true∨z∈todo
theorem Way.snoc{adj:Nat→List Nat}{u v w:Nat}(h:Way adj u v)(g:w∈adj v):Way adj u w:=h.trans (.one g)
theorem SInv.start(adj:Nat→List Nat)(k:Nat):SInv adj k (fun _=>false) (adj k) :=
 ⟨fun x hx=>⟨x,by simpa using hx,.refl _⟩,fun x hx=>.inr hx,fun y hy=>by cases hy⟩
theorem SInv.skip{adj:Nat→List Nat}{k:Nat}{seen:Nat→Bool}{x:Nat}{todo:List Nat}(I:SInv adj k seen (x :: todo))(hx:seen x=true):SInv adj k seen todo:=by
 have h:∀ z,(seen z=true∨z∈x :: todo)→seen z=true∨z∈todo:=fun z hz=>by
  rcases hz with hz|hz
  · exact .inl hz
  · rcases List.mem_cons.1 hz with rfl|hz
    · exact .inl hx
    · exact .inr hz
 exact⟨fun z hz=>I.way z (hz.imp id (List.mem_cons_of_mem _)),fun z hz=>h z (I.all z hz),fun y hy z hz=>h z (I.cl y hy z hz)⟩
theorem SInv.take{adj:Nat→List Nat}{k:Nat}{seen:Nat→Bool}{x:Nat}{todo:List Nat}(I:SInv adj k seen (x :: todo)):SInv adj k (upd seen x true) (todo++adj x):=by
 have hs:∀ z,seen z=true→upd seen x true z=true:=fun z hz=>by unfold upd;split<;>simp[*]
 have hxx:upd seen x true x=true:=upd_same _ _ _
 have h:∀ z,(seen z=true∨z∈x :: todo)→upd seen x true z=true∨z∈todo++adj x:=fun z hz=>by
  rcases hz with hz|hz
  · exact .inl (hs z hz)
  · rcases List.mem_cons.1 hz with rfl|hz
    · exact .inl hxx
    · exact .inr (List.mem_append.2 (.inl hz))
 refine⟨fun z hz=>?_,fun z hz=>h z (I.all z hz),fun y hy z hz=>?_⟩
 · obtain⟨w,hw,g⟩:=I.way x (.inr (by simp))
   rcases hz with hz|hz
   · by_cases e:z=x
     · subst e;exact⟨w,hw,g⟩
     · rw[upd_ne _ _ e]at hz;exact I.way z (.inl hz)
   · rcases List.mem_append.1 hz with hz|hz
     · exact I.way z (.inr (by simp[hz]))
     · exact⟨w,hw,g.snoc hz⟩
 · by_cases e:y=x
   · subst e;exact .inr (List.mem_append.2 (.inr hz))
   · rw[upd_ne _ _ e]at hy
     exact h z (I.cl y hy z hz)
theorem SInv.told{adj:Nat→List Nat}{k:Nat}{seen:Nat→Bool}(I:SInv adj k seen [])(x:Nat):seen x=true↔∃ w∈adj k,Way adj w x:=by
 constructor
 · exact fun h=>I.way x (.inl h)
 · rintro ⟨w,hw,g⟩
   have h0:seen w=true:=(I.all w hw).resolve_right (by simp)
   exact g.stays (P:=fun y=>seen y=true) (fun y hy z hz=>(I.cl y hy z hz).resolve_right (by simp)) h0
def todoM(adj:Nat→List Nat)(m:Nat)(seen:Nat→Bool)(todo:List Nat):Nat:=todo.length+((List.range m).map fun y=>if seen y=true then 0 else (adj y).length).sum
theorem sum_upd(g:Nat→Nat)(seen:Nat→Bool)(x:Nat)(hx:seen x=false):∀ (m:Nat),((List.range m).map fun y=>if seen y=true then 0 else g y).sum=((List.range m).map fun y=>if upd seen x true y=true then 0 else g y).sum+if x<m then g x else 0
 | 0=>by simp
 | m+1=>by
   have ih:=sum_upd g seen x hx m
   simp only[List.range_succ,List.map_append,List.map_cons,List.map_nil,List.sum_append,List.sum_cons,List.sum_nil]
   by_cases e:x=m
   · subst e
     simp only[hx,upd_same,if_true,show ¬ x<x by omega,if_false,show x<x+1 by omega,Bool.false_eq_true]at ih ⊢
     omega
   · rw[upd_ne _ _ (fun q=>e q.symm)]
     have:(x<m+1)↔x<m:=by omega
     simp only[this]
     omega
theorem todoM_skip(adj:Nat→List Nat)(m:Nat)(seen:Nat→Bool)(x:Nat)(todo:List Nat):todoM adj m seen todo<todoM adj m seen (x :: todo):=by
 simp only[todoM,List.length_cons];omega
theorem todoM_take(adj:Nat→List Nat)(m:Nat)(seen:Nat→Bool)(x:Nat)(todo:List Nat)(hx:seen x=false)(hm:x<m):todoM adj m (upd seen x true) (todo++adj x)<todoM adj m seen (x :: todo):=by
 have:=sum_upd (fun y=>(adj y).length) seen x hx m
 simp only[hm,if_true]at this
 simp only[todoM,List.length_cons,List.length_append]
 omega
end Gc
namespace Go.Proofs.YtleolbpibjnedaaGreat
open Go Go.RowKit Gc
def FBlk(w:World)(B b:Nat):Prop:=b<B∧∃ cs t,w.heap[b]?=some (.cells cs t (0,0))
abbrev fp (b:Nat):Value:=.pointer (some ⟨b,0,none⟩)
theorem FBlk.kept{w w':World}{B b:Nat}(h:FBlk w B b){M:Nat→Prop}(hk:Kept M w w')(hM:∀ b,b<B→¬ M b):FBlk w' B b:=by
 obtain⟨h1,cs,t,h2⟩:=h
 exact⟨h1,cs,t,hk.obj h2 (hM b h1)⟩
theorem eq_F{w:World}{B b b':Nat}(h:FBlk w B b)(h':FBlk w B b'):(Op.equal 54 (fp b) (fp b')).run Tryz.prog w=.ok (decide (b=b')) w:=by
 obtain⟨-,cs,t,h⟩:=h
 obtain⟨-,cs',t',h'⟩:=h'
 by_cases e:b=b'
 · subst e
   have:=eqIn_same (⟨b,0,none⟩:Addr) 9999 w
   simp only[Op.equal,Op.maxDepth]
   simpa using this
 · have:=eqIn_other (a:=⟨b,0,none⟩) (b:=⟨b',0,none⟩) 9999 (w:=w) (by intro h;cases h;exact e rfl) h h'
   simp only[Op.equal,Op.maxDepth]
   simpa [e]using this
theorem find_F{w:World}{B b:Nat}(hv:FBlk w B b):∀ (es:List MapEntry) (i:Nat),(∀ e∈es,∃ c,e.key=fp c∧FBlk w B c) →
 ((Instr.findAsking 54 (fp b) es i).run Tryz.prog w=.ok none w∧∀ e∈es,e.key≠fp b)∨∃ j e,(Instr.findAsking 54 (fp b) es i).run Tryz.prog w=.ok (some (i+j,e.val)) w∧es[j]?=some e∧e.key=fp b∧∀ i'<j,∀ e',es[i']?=some e'→e'.key≠fp b
 | [],i,_=>.inl ⟨rfl,fun e he=>by cases he⟩
 | e :: es,i,h=>by
   obtain⟨c,he,hc⟩:=h e (by simp)
   have hq:=eq_F hv hc
   by_cases ebc:b=c
   · refine .inr ⟨0,e,?_,rfl,by rw[he,ebc],fun i' hi=>by omega⟩
     have hq':(Op.equal 54 (fp b) e.key).run Tryz.prog w=.ok true w:=by rw[he,hq,decide_eq_true ebc]
     simp[Instr.findAsking,hq',Result.andThen]
   · have hq':(Op.equal 54 (fp b) e.key).run Tryz.prog w=.ok false w:=by rw[he,hq];simp[ebc]
     have hne:e.key≠fp b:=by
      rw[he];intro q
      simp only[Value.pointer.injEq,Option.some.injEq,Addr.mk.injEq,and_true]at q
      exact ebc q.symm
     rcases find_F hv es (i+1) (fun x hx=>h x (by simp[hx])) with ⟨hr,hn⟩|⟨j,x,hr,hj,hx,hlt⟩
     · left
       refine⟨by simp[Instr.findAsking,hq',Result.andThen,hr],fun x hx=>?_⟩
       rcases List.mem_cons.1 hx with rfl|hx
       · exact hne
       · exact hn x hx
     · refine .inr ⟨j+1,x,?_,by simpa using hj,hx,fun i' hi e' he'=>?_⟩
       · simp[Instr.findAsking,hq',Result.andThen,hr]
         omega
       · cases i' with
         | zero=>simp at he';subst he';exact hne
         | succ i'=>exact hlt i' (by omega) e' (by simpa using he')
theorem find_keyF{w:World}{B b:Nat}(hv:FBlk w B b)(es:List MapEntry)(h:∀ e∈es,∃ c,e.key=fp c∧FBlk w B c) :
 ((Instr.findKey 54 (fp b) es).run Tryz.prog w=.ok none w∧∀ e∈es,e.key≠fp b)∨∃ j e,(Instr.findKey 54 (fp b) es).run Tryz.prog w=.ok (some (j,e.val)) w∧es[j]?=some e∧e.key=fp b:=by
 cases es with
 | nil=>left;exact⟨by simp[Instr.findKey,run_underlying un_pF,Instr.findNow,Result.andThen],fun e he=>by cases he⟩
 | cons e es =>
   have hn:Instr.findNow (.pointer 125) (fp b) (e :: es) 0=none:=rfl
   rcases find_F hv (e :: es) 0 h with ⟨hr,hne⟩|⟨j,x,hr,hj,hx,-⟩
   · left
     exact⟨by simp[Instr.findKey,run_underlying un_pF,hn,Result.andThen,hr],hne⟩
   · refine .inr ⟨j,x,?_,hj,hx⟩
     simpa [Instr.findKey,run_underlying un_pF,hn,Result.andThen]using hr
theorem check_F(b:Nat)(em:Bool)(w:World):(Instr.checkKey em 10000 54 (fp b)).run Tryz.prog w=.ok () w:=by
 have h:∀ n,(Instr.checkKey em (n+1) 54 (fp b)).run Tryz.prog w=.ok () w:=fun n=>by simp[Instr.checkKey,run_underlying un_pF]
 exact h 9999
def MapF(w:World)(B mb:Nat)(f:Nat→Option Value):Prop :=
 ∃ es clock,w.heap[mb]?=some (.map es clock)∧(∀ e∈es.toList,∃ c,e.key=fp c∧FBlk w B c∧f c=some e.val)∧(∀ c v,f c=some v→∃ e∈es.toList,e.key=fp c)∧(es.toList.map MapEntry.key).Nodup
theorem MapF.kept{w w':World}{B mb:Nat}{f:Nat→Option Value}(h:MapF w B mb f){M:Nat→Prop}(hk:Kept M w w')(h0:¬ M mb)(hM:∀ b,b<B→¬ M b):MapF w' B mb f:=by
 obtain⟨es,clock,h1,h2,h3,h4⟩:=h
 refine⟨es,clock,hk.obj h1 h0,fun e he=>?_,h3,h4⟩
 obtain⟨c,g1,g2,g3⟩:=h2 e he
 exact⟨c,g1,g2.kept hk hM,g3⟩
theorem MapF.new(w:World)(B:Nat):MapF (w.alloc (.map #[] 0)) B w.heap.size (fun _=>none):=⟨#[],0,heap_alloc_new w _,by simp,(fun c v h=>by cases h),by simp⟩
section
variable {TM TE:TypeId} (hM:Tryz.prog.underlying TM=some (.map 54 TE))
include hM
theorem MapF.ask{w:World}{B mb:Nat}{f:Nat→Option Value}(h:MapF w B mb f){b:Nat}(hv:FBlk w B b){z:Value}(hz:(zeroValue TE).run Tryz.prog w=.ok z w) :
 (Instr.lookup TM (.map (some mb)) (fp b) true).run Tryz.prog w=.ok (.tuple #[(f b).getD z,.bool (f b).isSome]) w:=by
 obtain⟨es,clock,hb,h2,h3,-⟩:=h
 rcases find_keyF hv es.toList (fun e he=>let ⟨c,g1,g2,_⟩:=h2 e he;⟨c,g1,g2⟩) with ⟨hr,hn⟩|⟨j,e,hr,hj,he⟩
 · have hf:f b=none:=by
    cases hf:f b with
    | none=>rfl
    | some v=>obtain⟨e,he,hk⟩:=h3 _ _ hf;exact absurd hk (hn e he)
   simp[Instr.lookup,run_underlying hM,MapKept.run_getObj_map hb,check_F b,hr,hz,Result.andThen,hf]
 · obtain⟨c,g1,-,g3⟩:=h2 e (List.mem_of_getElem? hj)
   obtain rfl:c=b:=by
    rw[he]at g1
    simp only[Value.pointer.injEq,Option.some.injEq,Addr.mk.injEq,and_true]at g1
    exact g1.symm
   simp[Instr.lookup,run_underlying hM,MapKept.run_getObj_map hb,check_F c,hr,Result.andThen,g3]
theorem MapF.look{w:World}{B mb:Nat}{f:Nat→Option Value}(h:MapF w B mb f){b:Nat}(hv:FBlk w B b){z:Value}(hz:(zeroValue TE).run Tryz.prog w=.ok z w) :
 (Instr.lookup TM (.map (some mb)) (fp b) false).run Tryz.prog w=.ok ((f b).getD z) w:=by
 obtain⟨es,clock,hb,h2,h3,-⟩:=h
 rcases find_keyF hv es.toList (fun e he=>let ⟨c,g1,g2,_⟩:=h2 e he;⟨c,g1,g2⟩) with ⟨hr,hn⟩|⟨j,e,hr,hj,he⟩
 · have hf:f b=none:=by
    cases hf:f b with
    | none=>rfl
    | some v=>obtain⟨e,he,hk⟩:=h3 _ _ hf;exact absurd hk (hn e he)
   simp[Instr.lookup,run_underlying hM,MapKept.run_getObj_map hb,check_F b,hr,hz,Result.andThen,hf]
 · obtain⟨c,g1,-,g3⟩:=h2 e (List.mem_of_getElem? hj)
   obtain rfl:c=b:=by
    rw[he]at g1
    simp only[Value.pointer.injEq,Option.some.injEq,Addr.mk.injEq,and_true]at g1
    exact g1.symm
   simp[Instr.lookup,run_underlying hM,MapKept.run_getObj_map hb,check_F c,hr,Result.andThen,g3]
theorem MapF.store{w:World}{B mb:Nat}{f:Nat→Option Value}(h:MapF w B mb f)(hB:B≤mb){b:Nat}(hv:FBlk w B b)(v:Value) :
 ∃ w',(Instr.mapUpdate TM (.map (some mb)) (fp b) v).run Tryz.prog w=.ok () w'∧MapF w' B mb (upd f b (some v))∧Kept (fun b=>b=mb) w w':=by
 obtain⟨es,clock,hb,h2,h3,h4⟩:=h
 have hkept:∀ o,Kept (fun b=>b=mb) w (ChangeMaps.setBlock w mb o):=fun o=>⟨rfl,rfl,rfl,by simp[ChangeMaps.setBlock],fun k _ hk=>ChangeMaps.heap_setBlock_other hb _ hk⟩
 have hnm:∀ b,b<B→¬ b=mb:=fun b hb=>by omega
 have inj:∀ {c d:Nat},fp c=fp d→c=d:=fun {c d} q=>by
  simp only[Value.pointer.injEq,Option.some.injEq,Addr.mk.injEq,and_true]at q
  exact q
 rcases find_keyF hv es.toList (fun e he=>let ⟨c,g1,g2,_⟩:=h2 e he;⟨c,g1,g2⟩) with ⟨hr,hn⟩|⟨j,e,hr,hj,he⟩
 · refine⟨ChangeMaps.setBlock w mb (.map (es.push ⟨fp b,v,clock⟩) (clock+1)),?_,⟨_,_,ChangeMaps.heap_setBlock_same hb _,?_,?_,?_⟩,hkept _⟩
   · simp[Instr.mapUpdate,run_underlying hM,MapKept.run_getObj_map hb,check_F b,hr,MapKept.run_setObj_map _ hb,Result.andThen,ChangeMaps.setBlock]
   · intro x hx
     simp only[Array.toList_push,List.mem_append,List.mem_singleton]at hx
     rcases hx with hx|rfl
     · obtain⟨c,g1,g2,g3⟩:=h2 x hx
       refine⟨c,g1,g2.kept (hkept _) hnm,?_⟩
       rw[upd_ne _ _ fun q=>hn x hx (by rw[g1,q])]
       exact g3
     · exact⟨b,rfl,hv.kept (hkept _) hnm,upd_same _ _ _⟩
   · intro c u hf
     by_cases hc:c=b
     · subst hc;exact⟨⟨fp c,v,clock⟩,by simp,rfl⟩
     · rw[upd_ne _ _ hc]at hf
       obtain⟨x,hx,hk⟩:=h3 c u hf
       exact⟨x,by simp[hx],hk⟩
   · simp only[Array.toList_push,List.map_append,List.map_cons,List.map_nil]
     rw[List.nodup_append]
     refine⟨h4,by simp,fun x hx y hy e=>?_⟩
     obtain⟨z,hz,rfl⟩:=List.mem_map.1 hx
     rw[List.mem_singleton]at hy
     exact hn z hz (e.trans hy)
 · have hj':es[j]?=some e:=by simpa using hj
   have hst:(Instr.keyThatStays (fp b) (fp b)).run Tryz.prog w=.ok (fp b) w:=by
    simp[Instr.keyThatStays,Instr.sameBits]
   obtain⟨es2,hes2⟩:∃ es2,es2=(es.modify j fun e=>{ e with key:=fp b,val:=v }):=⟨_,rfl⟩
   have hget:∀ i (hi:i<es.toList.length),∃ hi':i<es2.toList.length,es2.toList[i]=if j=i then { es.toList[i] with key:=fp b,val:=v } else es.toList[i]:=fun i hi=>by
    subst hes2
    refine⟨by simpa using hi,?_⟩
    simp only[Array.toList_modify,List.getElem_modify]
   have hlen:es2.toList.length=es.toList.length:=by subst hes2;simp
   have hej:∀ (hj2:j<es.toList.length),es.toList[j]=e:=fun hj2=>by
    have:=List.getElem?_eq_getElem (l:=es.toList) hj2
    rw[hj]at this
    exact(Option.some.inj this).symm
   refine⟨ChangeMaps.setBlock w mb (.map es2 clock),?_,⟨_,_,ChangeMaps.heap_setBlock_same hb _,fun x hx=>?_,fun c u hf=>?_,?_⟩,hkept _⟩
   · subst hes2
     simp[Instr.mapUpdate,run_underlying hM,MapKept.run_getObj_map hb,check_F b,hr,hj',he,hst,MapKept.run_setObj_map _ hb,Result.andThen,ChangeMaps.setBlock]
   · obtain⟨i,hi,rfl⟩:=List.getElem_of_mem hx
     obtain⟨hi',hg⟩:=hget i (by omega)
     rw[hg]
     split
     · exact⟨b,rfl,hv.kept (hkept _) hnm,upd_same _ _ _⟩
     · rename_i hij
       obtain⟨c,g1,g2,g3⟩:=h2 _ (List.getElem_mem (l:=es.toList) (n:=i) (by omega))
       refine⟨c,g1,g2.kept (hkept _) hnm,?_⟩
       by_cases hc:c=b
       · subst hc
         exfalso
         have hjl:j<es.toList.length:=(List.getElem?_eq_some_iff.1 hj).1
         have e1:(es.toList.map MapEntry.key)[j]'(by simpa using hjl)=(es.toList.map MapEntry.key)[i]'(by simpa using (show i<es.toList.length by omega)):=by
          rw[List.getElem_map,List.getElem_map,hej hjl,he];exact g1.symm
         exact hij ((List.getElem_inj h4).1 e1)
       · rw[upd_ne _ _ hc];exact g3
   · have key:∀ c,(∃ e∈es.toList,e.key=fp c)→∃ e'∈es2.toList,e'.key=fp c:=by
      rintro c ⟨x,hx,hk⟩
      obtain⟨i,hi,rfl⟩:=List.getElem_of_mem hx
      obtain⟨hi',hg⟩:=hget i hi
      refine⟨es2.toList[i],List.getElem_mem _,?_⟩
      rw[hg]
      split
      · rename_i hij
        subst hij
        rw[hej hi,he]at hk
        exact hk
      · exact hk
     by_cases hc:c=b
     · subst hc;exact key c ⟨e,List.mem_of_getElem? hj,he⟩
     · rw[upd_ne _ _ hc]at hf
       exact key c (h3 c u hf)
   · have:es2.toList.map MapEntry.key=es.toList.map MapEntry.key:=by
      refine List.ext_getElem (by simp[hlen]) fun i h1 h2'=>?_
      rw[List.getElem_map,List.getElem_map]
      obtain⟨hi',hg⟩:=hget i (by simpa using h2')
      rw[hg]
      split
      · rename_i hij
        subst hij
        rw[hej (by simpa using h2'),he]
      · rfl
     rw[this]
     exact h4
end
end Go.Proofs.YtleolbpibjnedaaGreat
namespace Gc
open Go
def gInts:List Nat→G
 | []=>.nil
 | n :: l=>.cons (.at (.int .i64 n) .fin) (gInts l)
def gRows:List (List Nat)→G
 | []=>.nil
 | r :: l=>.cons (.sl (gInts r) .fin) (gRows l)
theorem gInts_len:∀ l,(gInts l).len=l.length
 | []=>rfl
 | _ :: l=>by simp[gInts,G.len,gInts_len l]
theorem gInts_isList:∀ l,(gInts l).isList
 | []=>trivial
 | _ :: l=>gInts_isList l
theorem gRows_len:∀ l,(gRows l).len=l.length
 | []=>rfl
 | _ :: l=>by simp[gRows,G.len,gRows_len l]
theorem ints_cells{w:World}{D:Nat→Prop}:∀ {l:List Nat} {g o n c:Nat},Rep w D (gInts l) [.slice (some ⟨g,o,none⟩) n c]→n=l.length∧∀ j u,(l.map fun (n:Nat)=>Value.int .i64 n)[j]?=some u→w.cell? ⟨g,o+j,none⟩=some u
 | [],g,o,n,c,h=>by
   obtain⟨_,_,e⟩:=h
   simp only[List.cons.injEq,Value.slice.injEq,and_true]at e
   exact⟨e.2.1,fun j u hu=>by simp at hu⟩
 | x :: l,g,o,n,c,h=>by
   obtain⟨g',o',n',c',hs,e,⟨hD,hg⟩,hx,hc,ht⟩:=h
   simp only[List.cons.injEq,Value.slice.injEq,and_true,Option.some.injEq,Addr.mk.injEq]at e
   obtain⟨⟨rfl,rfl⟩,rfl,rfl⟩:=e
   obtain⟨_,rfl,rfl⟩:=hx
   obtain⟨e1,h1⟩:=ints_cells ht
   refine⟨by rw[List.length_cons,← e1],fun j u hu=>?_⟩
   cases j with
   | zero=>simp only[List.map_cons,List.getElem?_cons_zero,Option.some.injEq]at hu;subst hu;exact hc 0 _ rfl
   | succ j =>
     have:=h1 j u (by simpa using hu)
     simp only[List.length_cons,List.length_nil]at this
     rw[show o+(j+1)=o+(0+1)+j by omega]
     exact this
end Gc
namespace Go.Proofs.YtleolbpibjnedaaGreat
open Go Go.RowKit Gc
theorem rows_at{w:World}{D:Nat→Prop}:∀ {L:List (List Nat)} {a:Option Addr} {n c k:Nat},Rep w D (gRows L) [.slice a n c]→(h:k<L.length) →
 ∃ g o,a=some ⟨g,o,none⟩∧D g∧g<w.heap.size∧∃ a' c',w.cell? ⟨g,o+k,none⟩=some (.slice a' L[k].length c')∧Rep w D (gInts L[k]) [.slice a' L[k].length c']
 | r :: L,a,n,c,k,hr,h=>by
   obtain⟨g,o,n',c',hs,e,⟨hD,hg⟩,hx,hc,ht⟩:=hr
   obtain⟨v,_,rfl,hv,rfl⟩:=hx
   simp only[List.cons.injEq,Value.slice.injEq,and_true]at e
   obtain⟨rfl,rfl,rfl⟩:=e
   cases k with
   | zero =>
     obtain⟨a',n2,c2,rfl,hl⟩:=list_val (gInts_isList r) hv
     rw[gInts_len]at hl
     subst hl
     exact⟨g,o,rfl,hD,hg,a',c2,by simpa using hc 0 _ rfl,hv⟩
   | succ k =>
     obtain⟨g',o',e,hD',hg',a',c2,h1,h2⟩:=rows_at (k:=k) ht (by simp at h;omega)
     simp only[Option.some.injEq,Addr.mk.injEq,and_true]at e
     obtain⟨rfl,rfl⟩:=e
     refine⟨g,o,rfl,hD,hg,a',c2,?_,h2⟩
     simp only[List.length_cons,List.length_nil]at h1
     rw[show o+(k+1)=o+(0+1)+k by omega]
     exact h1
 | [],_,_,_,_,_,h=>by simp at h
theorem ul_mapIB:Tryz.prog.underlying 82=some (.map 3 4):=by kernel_rfl
theorem zero_boolS(w:World):(zeroValue 4).run Tryz.prog w=.ok (.bool false) w:=by kernel_rfl
theorem ul_sI:Tryz.prog.underlying 48=some (.slice 3):=by kernel_rfl
theorem info_I:(Tryz.prog.info? 3).map (fun i=>(i.zero,i.size,i.bytes))=some (some (.int .i64 0),1,8):=by kernel_rfl
def MapZ(w:World)(mb:Nat)(f:Nat→Bool):Prop :=
 ∃ es clock,w.heap[mb]?=some (.map es clock)∧(∀ e∈es.toList,∃ n:Nat,e.key=.int .i64 n∧n≤1000000∧e.val=.bool true∧f n=true)∧∀ n,f n=true→∃ e∈es.toList,e.key=.int .i64 (n:Int)
theorem MapZ.kept{w w':World}{mb:Nat}{f:Nat→Bool}(h:MapZ w mb f){M:Nat→Prop}(hk:Kept M w w')(hM:¬ M mb):MapZ w' mb f:=by
 obtain⟨es,clock,h1,h2,h3⟩:=h
 exact⟨es,clock,hk.obj h1 hM,h2,h3⟩
theorem MapZ.new(w:World):MapZ (w.alloc (.map #[] 0)) w.heap.size (fun _=>false):=⟨#[],0,heap_alloc_new w _,by simp,fun n h=>by cases h⟩
theorem MapZ.lt{w:World}{mb:Nat}{f:Nat→Bool}(h:MapZ w mb f):mb<w.heap.size:=by obtain⟨_,_,h,_⟩:=h;exact lt_of_heap h
theorem MapZ.find{w:World}{f:Nat→Bool}{es:Array MapEntry}(h2:∀ e∈es.toList,∃ n:Nat,e.key=.int .i64 n∧n≤1000000∧e.val=.bool true∧f n=true)(h3:∀ n,f n=true→∃ e∈es.toList,e.key=.int .i64 (n:Int)){n:Nat}(hn:n≤1000000) :
 ((Instr.findKey 3 (.int .i64 n) es.toList).run Tryz.prog w=.ok none w∧f n=false)∨∃ j,(Instr.findKey 3 (.int .i64 n) es.toList).run Tryz.prog w=.ok (some (j,.bool true)) w∧f n=true:=by
 obtain⟨l,hl⟩:=keyI (i:=n) (by omega) (by omega)
 rcases(Maps.int_keyed (P:=Tryz.prog) ul_int).find w hl es.toList (fun e he=>by obtain⟨m,hm,p,_⟩:=h2 e he;rw[hm];exact keyI (by omega) (by omega)) with ⟨hr,hn⟩ | ⟨j,e,hr,hj,he⟩
 · refine .inl ⟨hr,?_⟩
   cases hf:f n with
   | false=>rfl
   | true=>obtain⟨e,he,hk⟩:=h3 n hf;exact absurd hk (hn e he)
 · obtain⟨m,hk,_,hv,hf⟩:=h2 e (List.mem_of_getElem? hj)
   rw[he]at hk
   simp only[Value.int.injEq,true_and]at hk
   obtain rfl:n=m:=by omega
   rw[hv]at hr
   exact .inr ⟨j,hr,hf⟩
theorem MapZ.look{w:World}{mb:Nat}{f:Nat→Bool}(h:MapZ w mb f){n:Nat}(hn:n≤1000000):(Instr.lookup 82 (.map (some mb)) (.int .i64 n) false).run Tryz.prog w=.ok (.bool (f n)) w:=by
 obtain⟨es,clock,hb,h2,h3⟩:=h
 have hc:=MapI.check w (i:=n) (by omega) (by omega) es.isEmpty
 rcases MapZ.find (w:=w) h2 h3 hn with ⟨hr,hf⟩|⟨j,hr,hf⟩
 · simp[Instr.lookup,run_underlying ul_mapIB,MapKept.run_getObj_map hb,MapI.check w (i:=n) (by omega) (by omega),hr,zero_boolS,Result.andThen,hf]
 · simp[Instr.lookup,run_underlying ul_mapIB,MapKept.run_getObj_map hb,MapI.check w (i:=n) (by omega) (by omega),hr,Result.andThen,hf]
theorem MapZ.store{w:World}{mb:Nat}{f:Nat→Bool}(h:MapZ w mb f){n:Nat}(hn:n≤1000000)(hf:f n=false) :
 ∃ w',(Instr.mapUpdate 82 (.map (some mb)) (.int .i64 n) (.bool true)).run Tryz.prog w=.ok () w'∧MapZ w' mb (upd f n true)∧Kept (fun b=>b=mb) w w':=by
 obtain⟨es,clock,hb,h2,h3⟩:=h
 rcases MapZ.find (w:=w) h2 h3 hn with ⟨hr,_⟩|⟨j,hr,hf'⟩
 · refine⟨ChangeMaps.setBlock w mb (.map (es.push ⟨.int .i64 n,.bool true,clock⟩) (clock+1)),?_,⟨_,_,ChangeMaps.heap_setBlock_same hb _,?_,?_⟩,⟨rfl,rfl,rfl,by simp[ChangeMaps.setBlock],fun k _ hk=>ChangeMaps.heap_setBlock_other hb _ hk⟩⟩
   · simp[Instr.mapUpdate,run_underlying ul_mapIB,MapKept.run_getObj_map hb,MapI.check w (i:=n) (by omega) (by omega),hr,MapKept.run_setObj_map _ hb,Result.andThen,ChangeMaps.setBlock]
   · intro e he
     simp only[Array.toList_push,List.mem_append,List.mem_singleton]at he
     rcases he with he|rfl
     · obtain⟨m,p1,p2,p3,p4⟩:=h2 e he
       refine⟨m,p1,p2,p3,?_⟩
       unfold upd
       split
       · rfl
       · exact p4
     · exact⟨n,rfl,hn,rfl,upd_same _ _ _⟩
   · intro m hm
     by_cases e:m=n
     · subst e;exact⟨⟨.int .i64 m,.bool true,clock⟩,by simp,rfl⟩
     · rw[upd_ne _ _ e]at hm
       obtain⟨x,hx,hk⟩:=h3 m hm
       exact⟨x,by simp[hx],hk⟩
 · rw[hf]at hf';cases hf'
def Win(w:World)(base:Nat)(v:Value)(l:List Nat):Prop :=
 ∃ (g off cap:Nat) (cur:List Value),v=.slice (some ⟨g,off,none⟩) l.length cap∧base≤g∧w.heap[g]?=some (.cells cur.toArray 3 (0,0))∧l.length≤cap∧off+cap≤cur.length∧∀ j u,(l.map fun (n:Nat)=>Value.int .i64 n)[j]?=some u→cur[off+j]?=some u
theorem Win.kept{w w':World}{base:Nat}{v:Value}{l:List Nat}(h:Win w base v l){M:Nat→Prop}(hk:Kept M w w')(hM:∀ g,v.ownBlock=some g→¬ M g):Win w' base v l:=by
 obtain⟨g,off,cap,cur,rfl,hb,hg,h1,h2,h3⟩:=h
 exact⟨g,off,cap,cur,rfl,hb,hk.obj hg (hM g rfl),h1,h2,h3⟩
theorem Win.tail{w:World}{base:Nat}{x:Nat}{l:List Nat}{g off cap:Nat}(h:Win w base (.slice (some ⟨g,off,none⟩) (l.length+1) cap) (x :: l)):Win w base (.slice (if cap=1 then some ⟨g,off,none⟩ else some ⟨g,off+1,none⟩) l.length (cap-1)) l:=by
 obtain⟨g',off',cap',cur,e,hb,hg,h1,h2,h3⟩:=h
 simp only[Value.slice.injEq,Option.some.injEq,Addr.mk.injEq,and_true,true_and]at e
 obtain⟨⟨rfl,rfl⟩,-,rfl⟩:=e
 simp only[List.length_cons]at h1
 by_cases hc:cap=1
 · subst hc
   rw[if_pos rfl]
   have:l=[]:=List.eq_nil_of_length_eq_zero (by omega)
   subst this
   exact⟨g,off,0,cur,rfl,hb,hg,Nat.le_refl _,by omega,fun j u hu=>by simp at hu⟩
 rw[if_neg hc]
 refine⟨g,off+1,cap-1,cur,rfl,hb,hg,by omega,by omega,fun j u hu=>?_⟩
 have:=h3 (j+1) u (by simpa using hu)
 rw[show off+1+j=off+(j+1) by omega]
 exact this
theorem setCells_row{b:Nat}{t:TypeId}:∀ (vs:List Value) (o:Nat) (w:World) (cur:List Value),w.heap[b]?=some (.cells cur.toArray t (0,0))→o+vs.length≤cur.length →
 ∃ cur':List Value,(w.setCells b o vs).heap[b]?=some (.cells cur'.toArray t (0,0))∧cur'.length=cur.length∧(∀ j u,vs[j]?=some u→cur'[o+j]?=some u)∧(∀ i,i<o∨o+vs.length≤i→cur'[i]?=cur[i]?)∧Kept (fun k=>k=b) w (w.setCells b o vs)
 | [],o,w,cur,h,_=>⟨cur,h,rfl,fun j u hu=>by simp at hu,fun _ _=>rfl,Kept.refl _ _⟩
 | v :: vs,o,w,cur,h,hl=>by
   simp only[List.length_cons]at hl
   obtain⟨cur',h1,h2,h3,h4,h5⟩:=setCells_row vs (o+1) (w.setCell ⟨b,o,none⟩ v) (cur.set o v) (set_of_cells h o v) (by rw[List.length_set];omega)
   refine⟨cur',h1,by rw[h2,List.length_set],fun j u hu=>?_,fun i hi=>?_,Kept.set1e.trans h5⟩
   · cases j with
     | zero =>
       simp only[List.getElem?_cons_zero,Option.some.injEq]at hu
       subst hu
       rw[Nat.add_zero,h4 o (.inl (by omega)),List.getElem?_set_self (by omega)]
     | succ j =>
       rw[show o+(j+1)=o+1+j by omega]
       exact h3 j u (by simpa using hu)
   · simp only[List.length_cons]at hi
     rw[h4 i (by omega),List.getElem?_set_ne (by omega)]
theorem Win.append{w:World}{base:Nat}{v:Value}{l m:List Nat}(h:Win w base v l){D:Nat→Prop}{a:Option Addr}{c:Nat}(hR:Rep w D (gInts m) [.slice a m.length c])(hlen:l.length+m.length≤100000)(hb:base≤w.heap.size)(ty:TypeId) :
 ∃ v' w',(Builtin.append_ #[48,48] ty #[v,.slice a m.length c]).run Tryz.prog w=.ok v' w'∧Win w' base v' (l++m)∧Kept (fun k=>v.ownBlock=some k) w w':=by
 obtain⟨g,off,cap,cur,rfl,hbg,hg,h1,h2,h3⟩:=h
 obtain⟨i0,hi,hz0,hz1,hz2⟩:=info_parts info_I
 have hz1':i0.size=1:=hz1
 have one:∀ u∈(m.map fun (n:Nat)=>Value.int .i64 n),u.oneCell'=true:=fun u hu=>by
  obtain⟨_,_,rfl⟩:=List.mem_map.1 hu
  rfl
 have hs:Src Tryz.prog 1 48 (.slice a m.length c) m.length (m.map fun (n:Nat)=>Value.int .i64 n) w:=by
  cases m with
  | nil =>
    cases a with
    | none=>exact Src.ofNil w ul_sI c
    | some ad=>exact Src.ofSlice w ul_sI ad 0 c [] rfl (fun j u hu=>by simp at hu) (fun u hu=>by cases hu)
  | cons x m =>
    have hR':=hR
    obtain⟨g',o',n',c',hs,e,_⟩:=hR'
    simp only[List.cons.injEq,Value.slice.injEq,and_true]at e
    obtain⟨rfl,-,-⟩:=e
    obtain⟨-,hc⟩:=ints_cells hR
    exact Src.ofSlice w ul_sI ⟨g',o',none⟩ (x :: m).length c _ (by simp) (fun j u hu=>by rw[show(⟨g',o',none⟩:Addr).add j=⟨g',o'+j,none⟩ from addr_add _ _ _];exact hc j u hu) one
 rw[← hz1']at hs
 by_cases hroom:l.length+m.length≤cap
 · have hr:=run_append_room_src w 48 48 ty 3 i0 ul_sI hi g off l.length cap _ m.length _ hs hroom
    (fun j hj=>by
      rw[hz1',Nat.mul_one]
      have:off+l.length+j<cur.length:=by simp at hj;omega
      rw[cell_of_cells hg (off+l.length+j) (List.getElem?_eq_getElem this)];rfl)
    (fun j hj=>free_of_cells hg _)
   rw[hz1',Nat.mul_one]at hr
   obtain⟨cur',q1,q2,q3,q4,q5⟩:=setCells_row (m.map fun (n:Nat)=>Value.int .i64 n) (off+l.length) w cur hg (by simp;omega)
   refine⟨_,_,hr,⟨g,off,cap,cur',by rw[List.length_append],hbg,q1,by rw[List.length_append];omega,by omega,fun j u hu=>?_⟩,q5.mono fun k _ e=>by rw[e];rfl⟩
   rw[List.map_append]at hu
   by_cases hj:j<l.length
   · rw[List.getElem?_append_left (by simpa using hj)]at hu
     rw[q4 (off+j) (.inl (by omega))]
     exact h3 j u hu
   · rw[List.getElem?_append_right (by simp;omega)]at hu
     have:=q3 _ u hu
     simp only[List.length_map]at this
     rw[show off+j=off+l.length+(j-l.length) by omega]
     exact this
 · have hg':cap<l.length+m.length:=by omega
   have hr:=run_append_grow_src w 48 48 ty 3 i0 _ ul_sI hi hz0 (some ⟨g,off,none⟩) l.length cap (l.map fun (n:Nat)=>Value.int .i64 n)
    (run_firstCells_some w.drew i0.size l.length ⟨g,off,none⟩ l.length cap _ (by simp[hz1']) (fun j u hu=>by
      rw[show(⟨g,off,none⟩:Addr).add j=⟨g,off+j,none⟩ from addr_add _ _ _,World.cell?_drew]
      exact cell_of_cells hg _ (h3 j u hu))) _ m.length _ hs hg' (by omega) (growslice_fits hg' (by rw[hz2];omega))
   have hge:=grownCap_ge w (l.length+m.length) cap 3
   obtain⟨gc,hgc⟩:∃ gc,gc=grownCap w (l.length+m.length) cap 3:=⟨_,rfl⟩
   rw[← hgc]at hr hge
   refine⟨_,_,hr,⟨w.heap.size,0,gc,(l.map fun (n:Nat)=>Value.int .i64 n)++(m.map fun (n:Nat)=>Value.int .i64 n)++(Builtin.zeroCells (Value.int .i64 0).cells (gc-(l.length+m.length))).toList,by rw[List.length_append],hb,?_,by rw[List.length_append];exact hge,?_,fun j u hu=>?_⟩,?_⟩
   · have eA:((l.map fun (n:Nat)=>Value.int .i64 n)++(m.map fun (n:Nat)=>Value.int .i64 n)++(Builtin.zeroCells (Value.int .i64 0).cells (gc-(l.length+m.length))).toList).toArray=((l.map fun (n:Nat)=>Value.int .i64 n)++(m.map fun (n:Nat)=>Value.int .i64 n)).toArray++Builtin.zeroCells (Value.int .i64 0).cells (gc-(l.length+m.length)):=by apply Array.ext';simp
     rw[eA]
     have:=heap_alloc_new w.drew (.cells (((l.map fun (n:Nat)=>Value.int .i64 n)++(m.map fun (n:Nat)=>Value.int .i64 n)).toArray++Builtin.zeroCells (Value.int .i64 0).cells (gc-(l.length+m.length))) 3)
     exact this
   · have hz:(Builtin.zeroCells (Value.int .i64 0).cells (gc-(l.length+m.length))).size=gc-(l.length+m.length):=by
      rw[size_zeroCells];simp[Value.cells]
     simp only[List.length_append,List.length_map,Array.length_toList,hz]
     omega
   · rw[List.map_append]at hu
     rw[Nat.zero_add,List.getElem?_append_left (by have:=(List.getElem?_eq_some_iff.1 hu).1;simpa using this)]
     exact hu
   · exact Kept.grown (row:=none) ⟨rfl,rfl,rfl,by simp,fun k hk _=>heap_alloc_old w.drew _ hk⟩ (fun k e=>by cases e)
end Go.Proofs.YtleolbpibjnedaaGreat
namespace Gc
open Go
theorem least{P:Nat→Prop}(h:∃ n,P n):∃ n,P n∧∀ m,P m→n≤m:=by
 obtain⟨n,hn⟩:=h
 induction n using Nat.strongRecOn with
 | _ n ih =>
   by_cases q:∃ m,m<n∧P m
   · obtain⟨m,h1,h2⟩:=q
     exact ih m h1 h2
   · exact⟨n,hn,fun m hm=>Nat.le_of_not_lt fun h=>q ⟨m,h,hm⟩⟩
open Classical in
noncomputable def lst (P:Nat→Prop):Nat:=if h:∃ n,P n then Classical.choose (least h) else 0
theorem lst_spec{P:Nat→Prop}(h:∃ n,P n):P (lst P):=by
 unfold lst
 rw[dif_pos h]
 exact(Classical.choose_spec (least h)).1
theorem lst_le{P:Nat→Prop}{n:Nat}(h:P n):lst P≤n:=by
 unfold lst
 rw[dif_pos ⟨n,h⟩]
 exact(Classical.choose_spec (least ⟨n,h⟩)).2 n h
def adjL(L:List (List Nat))(k:Nat):List Nat:=L.getD k []
open Classical in
noncomputable def ringsTo (L:List (List Nat)) (k:Nat):List Nat:=(List.range k).filter fun u=>decide (∃ w∈adjL L u,Way (adjL L) w u)
open Classical in
theorem ringsTo_succ(L:List (List Nat))(k:Nat):ringsTo L (k+1)=if (∃ w∈adjL L k,Way (adjL L) w k) then ringsTo L k++[k] else ringsTo L k:=by
 unfold ringsTo
 rw[List.range_succ,List.filter_append]
 split<;>rename_i h<;>simp[h]
theorem ringsTo_len(L:List (List Nat))(k:Nat):(ringsTo L k).length≤k:=by
 unfold ringsTo
 exact Nat.le_trans (List.length_filter_le _ _) (by simp)
theorem gInts_snoc(x:Nat):∀ l,(gInts l).snoc (.at (.int .i64 x) .fin)=gInts (l++[x])
 | []=>rfl
 | _ :: l=>by simp[gInts,G.snoc,gInts_snoc x l]
theorem sum_le(g:Nat→Nat)(h:∀ y,g y≤100):∀ m,((List.range m).map g).sum≤100*m
 | 0=>by simp
 | m+1=>by
   have:=sum_le g h m
   have:=h m
   simp only[List.range_succ,List.map_append,List.map_cons,List.map_nil,List.sum_append,List.sum_cons,List.sum_nil]
   omega
end Gc
namespace Go.Proofs.YtleolbpibjnedaaGreat
open Go Go.RowKit Gc
def RingsP(w:World)(L:List (List Nat))(e:Ending)(w':World):Prop:=∃ a c,e=.returned (.slice a (ringsTo L L.length).length c)∧Rep w' (fun b=>w.heap.size≤b) (gInts (ringsTo L L.length)) [.slice a (ringsTo L L.length).length c]∧Kept (fun _=>False) w w'
structure LookI (L:List (List Nat)) (k mb:Nat) (W1:World) (n:Nat) (seen:Nat→Bool) (todo:List Nat) (v:Value) (wr:World):Prop where
 inv:SInv (adjL L) k seen todo
 map:MapZ wr mb seen
 win:Win wr (mb+1) v todo
 lt:∀ x∈todo,x<L.length
 kept:Kept (fun _=>False) W1 wr
 m:todoM (adjL L) L.length seen todo≤n
 top:todoM (adjL L) L.length seen todo≤20000
theorem rings_any(L:List (List Nat))(hm:L.length≤100)(hr:∀ k,(adjL L k).length≤100)(hx:∀ k,∀ x∈adjL L k,x<L.length)(w:World)(D:Nat→Prop)(a:Option Addr)(c:Nat)(hR:Rep w D (gRows L) [.slice a L.length c]) :
 Calls Tryz.prog 16 #[.slice a L.length c] w (RingsP w L):=by
 have HR:=Lib.hid hR
 have Hr:=Lib.hid hr
 have Hx:=Lib.hid hx
 obtain⟨m,hmm⟩:∃ m,m=L.length:=⟨_,rfl⟩
 have Hm:=Lib.hid hmm
 rw[← hmm]at hm ⊢
 obtain⟨i0,hi,hz0,hz1,hz2⟩:=info_parts info_I
 have hmk:=@run_makeMap Tryz.prog
 clear hR hr hx hmm
 go_enter Tryz.func16,Tryz.ntmps16
 go_wp2_with fail
 go_loopw [3,11] (fun v t wr=>∃ (k:Nat) (a':Option Addr) (c':Nat),v=.slice a' (ringsTo L k).length c'∧t=.int .i64 k∧k≤m∧RowKit.Hid (OwnL wr (fun _=>False) w.heap.size 3 1 (.slice a' (ringsTo L k).length c') (gInts (ringsTo L k)))∧Kept (fun _=>False) w wr) (fun _ t _=>((m:Int)-intOf t).toNat)
 case atStart =>
  refine⟨0,some ⟨w.heap.size,0,none⟩,0,rfl,rfl,by omega,Lib.hid ?_,keptA⟩
  exact⟨[],World.ownsRow_made _ #[] 0 (Nat.le_refl _) (Nat.zero_le _) rfl,rfl⟩
 case round =>
  obtain⟨k,a',c',rfl,rfl,hk,HO,K⟩:=hrel
  by_cases hlt:(k:Int)<m
  · have hkl:k<L.length:=by have:=Hm.out;omega
    obtain⟨g,o,rfl,-,hg,ar,cr,p0,hrow⟩:=rows_at (k:=k) (HR.out.kept K (fun _ _ f=>f)) hkl
    obtain⟨Wb,hWb⟩:∃ Wb,Wb=(wr.alloc (.map #[] 0)).alloc (.cells #[] 3):=⟨_,rfl⟩
    have kb:Kept (fun _=>False) wr Wb:=by rw[hWb];exact keptA.trans keptA
    have hmap:MapZ Wb wr.heap.size (fun _=>false):=by rw[hWb];exact(MapZ.new wr).kept (keptA (M:=fun _=>False)) (fun f=>f)
    have hwin:Win Wb (wr.heap.size+1) (.slice (some ⟨wr.heap.size+1,0,none⟩) 0 0) []:=by
     rw[hWb]
     have:=heap_alloc_new (wr.alloc (.map #[] 0)) (.cells #[] 3)
     rw[World.size_alloc]at this
     exact⟨wr.heap.size+1,0,0,[],rfl,Nat.le_refl _,this,Nat.le_refl _,Nat.le_refl _,fun j u hu=>by simp at hu⟩
    have zb:wr.heap.size+1<Wb.heap.size:=by obtain⟨g',off,cap,cur,e,_,h3,_⟩:=hwin;simp only[Value.slice.injEq,Option.some.injEq,Addr.mk.injEq,and_true]at e;rw[← e.1.1]at h3;exact lt_of_heap h3
    have eL:adjL L k=L[k]:=by simp[adjL,List.getElem?_eq_getElem hkl]
    rw[← eL]at p0 hrow
    have hlk:=Hr.out k
    obtain⟨v1,w1,hr1,win1,k1⟩:=hwin.append (m:=adjL L k) (hrow.kept kb (fun _ _ f=>f)) (by simp only[List.length_nil];omega) (by omega) 48
    rw[List.nil_append]at win1
    have map1:=hmap.kept k1 (fun e=>by simp only[Value.ownBlock,Option.some.injEq]at e;omega)
    have K1:Kept (fun _=>False) wr w1:=(kb.mono (M':=fun q=>False∨wr.heap.size≤q) fun _ _ f=>f.elim).trans (k1.mono fun q _ e=>.inr (by simp only[Value.ownBlock,Option.some.injEq]at e;omega)) |>.fresh (Nat.le_refl _)
    have lI:LookI L k wr.heap.size wr 20000 (fun _=>false) (adjL L k) v1 w1:=by
     suffices hM:todoM (adjL L) L.length (fun _=>false) (adjL L k)≤20000 from ⟨SInv.start _ _,map1,win1,fun x h=>Hx.out k x h,K1,hM,hM⟩
     have:=sum_le (fun y=>if (fun _=>false:Nat→Bool) y=true then 0 else (adjL L y).length) (fun y=>by have:=Hr.out y;split<;>omega) L.length
     have:=Hm.out
     unfold todoM
     omega
    have HLI:=Lib.hid lI
    rw[hWb]at hr1
    clear hmap hwin hrow win1 map1 lI eL
    go_wp2_with (at_builtin;go_must (refine wpList_append_done rfl (.tmp 15) (.tmp 19) 48 rfl rfl rfl hr1 ?_))
    obtain⟨wo,rfl⟩:∃ wo:World,wo=wr:=⟨_,rfl⟩
    obtain⟨mb,hmb⟩:∃ mb,mb=wo.heap.size:=⟨_,rfl⟩
    rw[← hmb]at HLI ⊢
    have Hmb:=Lib.hid hmb
    clear hr1 k1 hWb kb zb K1 hmb
    go_loopw [6] (fun v wr=>RowKit.Hid (∃ n seen todo,LookI L k mb wo n seen todo v wr)) (fun v wr=>lst (fun n=>∃ seen todo,LookI L k mb wo n seen todo v wr))
    case atStart=>exact Lib.hid ⟨_,_,_,HLI.out⟩
    case round =>
     clear HLI
     have hsp:=lst_spec hrel.out
     obtain⟨N,hN⟩:∃ N,N=lst (fun n=>∃ seen todo,LookI L k mb wo n seen todo u6 wr):=⟨_,rfl⟩
     rw[← hN]at hsp
     obtain⟨seen,todo,I⟩:=hsp
     cases todo with
     | cons x todo =>
       obtain⟨g2,off2,cap2,cur2,rfl,hb2,hg2,h1,h2,h3⟩:=id I.win
       have hxm:=I.lt x (by simp)
       have q0:=cell_of_cells hg2 off2 (by simpa using h3 0 _ rfl)
       have zg2:g2<wr.heap.size:=lt_of_heap hg2
       have hlook:=I.map.look (n:=x) (by have:=Hm.out;omega)
       have zmb:=I.map.lt
       have HI:=Lib.hid I
       have HN:=Lib.hid hN
       simp only[List.length_cons]at h1 ⊢
       clear I h3 hN hrel
       obtain⟨oo,ho⟩:∃ oo,oo=if cap2=1 then off2 else off2+1:=⟨_,rfl⟩
       have htl:=HI.out.win.tail
       rw[show(if cap2=1 then some (⟨g2,off2,none⟩:Addr) else some ⟨g2,off2+1,none⟩)=some ⟨g2,oo,none⟩ from by rw[ho];split<;>rfl]at htl
       have Htl:=Lib.hid htl
       clear htl
       cases hseen:seen x with
       | true =>
         rw[hseen]at hlook
         have I2:LookI L k mb wo (N-1) seen todo (.slice (some ⟨g2,oo,none⟩) todo.length (cap2-1)) wr:=by
          have I:=HI.out
          refine⟨I.inv.skip hseen,I.map,Htl.out,fun y hy=>I.lt y (by simp[hy]),I.kept,?_,?_⟩
          all_goals
           have:=I.m
           have:=I.top
           have:=todoM_skip (adjL L) L.length seen x todo
           omega
         have HI2:=Lib.hid I2
         clear I2
         by_cases hc:cap2=1
         · rw[if_pos hc]at ho
           have h0:todo=[]:=List.eq_nil_of_length_eq_zero (by omega)
           subst hc ho h0
           go_wp2_with fail
           go_roundw
           · exact Lib.hid ⟨_,_,_,HI2.out⟩
           · refine Nat.lt_of_le_of_lt (lst_le (n:=N-1) ⟨_,_,HI2.out⟩) ?_
             refine Nat.lt_of_lt_of_eq ?_ HN.out
             have:=HI.out.m
             have:=todoM_skip (adjL L) L.length seen x []
             omega
         · rw[if_neg hc]at ho
           subst ho
           go_wp2_with fail
           go_roundw
           · exact Lib.hid ⟨_,_,_,HI2.out⟩
           · refine Nat.lt_of_le_of_lt (lst_le (n:=N-1) ⟨_,_,HI2.out⟩) ?_
             refine Nat.lt_of_lt_of_eq ?_ HN.out
             have:=HI.out.m
             have:=todoM_skip (adjL L) L.length seen x todo
             omega
       | false =>
         rw[hseen]at hlook
         have hxm':x<L.length:=hxm
         have hxm2:(x:Int)<m:=by have:=Hm.out;omega
         obtain⟨w2,hst,map2,k2⟩:=HI.out.map.store (n:=x) (by have:=Hm.out;omega) hseen
         have Kw2:Kept (fun _=>False) wo w2:=(((HI.out.kept.mono (M':=fun q=>False∨wo.heap.size≤q) fun _ _ f=>f.elim).trans (k2.mono fun q _ e=>.inr (by have:=Hmb.out;omega)))).fresh (Nat.le_refl _)
         obtain⟨gr,or,er,-,hgr,ax,cx,px,hrow⟩:=rows_at (k:=x) (HR.out.kept (K.trans Kw2) (fun _ _ f=>f)) hxm'
         simp only[Option.some.injEq,Addr.mk.injEq,and_true]at er
         obtain⟨rfl,rfl⟩:=er
         have eL:adjL L x=L[x]:=by simp[adjL,List.getElem?_eq_getElem hxm']
         rw[← eL]at px hrow
         have hlx:=Hr.out x
         have win2:=Htl.out.kept k2 (fun q e=>by simp only[Value.ownBlock,Option.some.injEq]at e;omega)
         have htl:todo.length≤20000:=by
          have:=HI.out.top
          simp only[todoM,List.length_cons]at this
          omega
         obtain⟨v3,w3,hap,win3,k3⟩:=win2.append hrow (by omega) (by have:=map2.lt;omega) 48
         have hown:∀ q,(Value.slice (some ⟨g2,oo,none⟩) todo.length (cap2-1)).ownBlock=some q→q=g2:=fun q e=>by simp only[Value.ownBlock,Option.some.injEq]at e;omega
         have Kw3:Kept (fun _=>False) wo w3:=(((Kw2.mono (M':=fun q=>False∨wo.heap.size≤q) fun _ _ f=>f.elim).trans (k3.mono fun q _ e=>.inr (by have:=hown q e;have:=Hmb.out;omega)))).fresh (Nat.le_refl _)
         have I2:LookI L k mb wo (N-1) (upd seen x true) (todo++adjL L x) v3 w3:=by
          have I:=HI.out
          refine⟨I.inv.take,map2.kept k3 (fun e=>by have:=hown _ e;omega),win3,fun y hy=>?_,Kw3,?_,?_⟩
          · rcases List.mem_append.1 hy with hy|hy
            · exact I.lt y (by simp[hy])
            · exact Hx.out x y hy
          all_goals
           have:=I.m
           have:=I.top
           have:=todoM_take (adjL L) L.length seen x todo hseen hxm
           omega
         have HI2:=Lib.hid I2
         clear I2 eL hrow win2 win3 map2
         by_cases hc:cap2=1
         · rw[if_pos hc]at ho
           have h0:todo=[]:=List.eq_nil_of_length_eq_zero (by omega)
           subst hc ho h0
           simp only[Nat.sub_self,List.length_nil]at hap
           go_wp2_with (at_builtin;go_must (refine wpList_append_done rfl (.tmp 34) (.tmp 38) 48 rfl rfl rfl hap ?_))
           go_roundw
           · exact Lib.hid ⟨_,_,_,HI2.out⟩
           · refine Nat.lt_of_le_of_lt (lst_le (n:=N-1) ⟨_,_,HI2.out⟩) ?_
             refine Nat.lt_of_lt_of_eq ?_ HN.out
             have:=HI.out.m
             have:=todoM_take (adjL L) L.length seen x [] hseen hxm
             omega
         · rw[if_neg hc]at ho
           subst ho
           go_wp2_with (at_builtin;go_must (refine wpList_append_done rfl (.tmp 34) (.tmp 38) 48 rfl rfl rfl hap ?_))
           go_roundw
           · exact Lib.hid ⟨_,_,_,HI2.out⟩
           · refine Nat.lt_of_le_of_lt (lst_le (n:=N-1) ⟨_,_,HI2.out⟩) ?_
             refine Nat.lt_of_lt_of_eq ?_ HN.out
             have:=HI.out.m
             have:=todoM_take (adjL L) L.length seen x todo hseen hxm
             omega
     | nil =>
       obtain⟨g2,off2,cap2,cur2,rfl,hb2,hg2,h1,h2,h3⟩:=id I.win
       have hlook:=I.map.look (n:=k) (by have:=Hm.out;omega)
       have htold:=I.inv.told k
       have HI:=Lib.hid I
       simp only[List.length_nil]at h1 ⊢
       clear I h3 hN hrel hg2
       have es:=ringsTo_succ L k
       have Kr:Kept (fun _=>False) w wr:=K.trans HI.out.kept
       have hkw:(k:Int)+1≤m:=by omega
       cases hseen:seen k with
       | false =>
         rw[hseen]at hlook
         rw[if_neg (fun h=>by have:=htold.2 h;rw[hseen]at this;cases this)]at es
         have HO2:=Lib.hid (HO.out.kept HI.out.kept (fun _ _ f=>f) (fun _ f=>f.elim))
         rw[← es]at HO2
         have Hes:=Lib.hid es
         clear es htold
         go_wp2_with fail
         go_roundw
         · exact⟨k+1,a',c',by rw[Hes.out],by go_num,by omega,by rw[Hes.out];exact Lib.hid (by have:=HO2.out;rw[Hes.out]at this;exact this),Kr⟩
         · simp[intOf];omega
       | true =>
         rw[hseen]at hlook
         rw[if_pos (htold.1 hseen)]at es
         have HO2:=Lib.hid (HO.out.kept HI.out.kept (fun _ _ f=>f) (fun _ f=>f.elim))
         have hle:=ringsTo_len L k
         have Hes:=Lib.hid es
         have zmb:=HI.out.map.lt
         clear es htold
         have kA:Kept (fun _=>False) wr (wr.alloc (.cells #[.int .i64 k] 3)):=keptA
         go_wp2_with (at_builtin;go_must (refine wpList_append_one (D:=fun _=>False) (base:=w.heap.size) (v:=.slice a' (ringsTo L k).length c') rfl (.tmp 43) (.tmp 45) 48 rfl i0 _ 8 ul_sI hi hz0 hz1 hz2 rfl rfl (HO2.out.kept kA (fun _ _ f=>f) (fun _ f=>f.elim)) (ringsTo L k).length (gInts_len _) ⟨wr.heap.size,0,none⟩ 1 rfl (.at (.int .i64 k) .fin) [.int .i64 k] rfl (new_cells _ _ _) (by simp[Value.oneCell']) ⟨_,rfl,rfl⟩ (by omega) (by omega) (by have:=K.size;have:=HI.out.kept.size;simp;omega) ?_);intro g4 cap' w4 O4 K4 hb4 hg4)
         rw[gInts_snoc]at O4
         have hlen2:(ringsTo L (k+1)).length=(ringsTo L k).length+1:=by rw[Hes.out,List.length_append];rfl
         have HO4:RowKit.Hid (OwnL w4 (fun _=>False) w.heap.size 3 1 (.slice (some ⟨g4,0,none⟩) (ringsTo L (k+1)).length cap') (gInts (ringsTo L (k+1)))):=Lib.hid (by rw[hlen2,Hes.out];exact O4)
         have K5:Kept (fun _=>False) w w4:=(((Kr.trans kA).mono (M':=fun q=>False∨w.heap.size≤q) fun _ _ f=>f.elim).trans (K4.mono fun q _ e=>.inr (HO2.out.lt q e.symm).1)).fresh (Nat.le_refl _)
         clear O4 K4
         go_wp2_with fail
         go_roundw
         · exact⟨k+1,_,_,by rw[hlen2],by go_num,by omega,HO4,K5⟩
         · simp[intOf];omega
  · have ek:k=m:=by omega
    subst ek
    go_wp2_with fail
    go_ret
    obtain⟨xs,ho,hrr⟩:=HO.out
    have h2:OwnL wr (fun b=>w.heap.size≤b) w.heap.size 3 1 (.slice a' (ringsTo L k).length c') (gInts (ringsTo L k)):=⟨xs,ho,hrr.imp fun _ _ f=>f.1.elim⟩
    have Hm':=Hm.out
    refine⟨a',c',by rw[← Hm'];rfl,?_,K⟩
    rw[← Hm']
    exact h2.rep fun b hb _=>hb
end Go.Proofs.YtleolbpibjnedaaGreat
