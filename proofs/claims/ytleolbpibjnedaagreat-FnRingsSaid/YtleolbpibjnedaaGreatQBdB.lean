/- The tokens' texts; the token of a text; a word among some. -/
import Derived.Test.YtleolbpibjnedaaGreatQBdA
import Derived.Deep.DeepMust
import Derived.Defers
import Derived.Deep.Cut
set_option linter.unusedSimpArgs false
set_option linter.unusedVariables false
set_option maxRecDepth 100000
set_option maxHeartbeats 4000000
namespace Go.Proofs.YtleolbpibjnedaaGreat
open Go Go.RowKit Gc
theorem tok_1(w:World):Calls Tryz.prog 109 #[.int .i64 1] w (fun e w'=>e=.returned (.string ⟨#[73,78,84]⟩)∧w=w'):=by
 go_enter Tryz.func109,Tryz.ntmps109
 go_wp2_with fail
 go_ret
 exact⟨rfl,rfl⟩
theorem tok_2(w:World):Calls Tryz.prog 109 #[.int .i64 2] w (fun e w'=>e=.returned (.string ⟨#[70,76,79,65,84]⟩)∧w=w'):=by
 go_enter Tryz.func109,Tryz.ntmps109
 go_wp2_with fail
 go_ret
 exact⟨rfl,rfl⟩
theorem tok_3(w:World):Calls Tryz.prog 109 #[.int .i64 3] w (fun e w'=>e=.returned (.string ⟨#[73,77,65,71]⟩)∧w=w'):=by
 go_enter Tryz.func109,Tryz.ntmps109
 go_wp2_with fail
 go_ret
 exact⟨rfl,rfl⟩
theorem tok_4(w:World):Calls Tryz.prog 109 #[.int .i64 4] w (fun e w'=>e=.returned (.string ⟨#[67,72,65,82]⟩)∧w=w'):=by
 go_enter Tryz.func109,Tryz.ntmps109
 go_wp2_with fail
 go_ret
 exact⟨rfl,rfl⟩
theorem tok_5(w:World):Calls Tryz.prog 109 #[.int .i64 5] w (fun e w'=>e=.returned (.string ⟨#[83,84,82,73,78,71]⟩)∧w=w'):=by
 go_enter Tryz.func109,Tryz.ntmps109
 go_wp2_with fail
 go_ret
 exact⟨rfl,rfl⟩
theorem tok_6(w:World):Calls Tryz.prog 109 #[.int .i64 6] w (fun e w'=>e=.returned (.string ⟨#[43]⟩)∧w=w'):=by
 go_enter Tryz.func109,Tryz.ntmps109
 go_wp2_with fail
 go_ret
 exact⟨rfl,rfl⟩
theorem tok_7(w:World):Calls Tryz.prog 109 #[.int .i64 7] w (fun e w'=>e=.returned (.string ⟨#[45]⟩)∧w=w'):=by
 go_enter Tryz.func109,Tryz.ntmps109
 go_wp2_with fail
 go_ret
 exact⟨rfl,rfl⟩
theorem tok_8(w:World):Calls Tryz.prog 109 #[.int .i64 8] w (fun e w'=>e=.returned (.string ⟨#[42]⟩)∧w=w'):=by
 go_enter Tryz.func109,Tryz.ntmps109
 go_wp2_with fail
 go_ret
 exact⟨rfl,rfl⟩
theorem tok_9(w:World):Calls Tryz.prog 109 #[.int .i64 9] w (fun e w'=>e=.returned (.string ⟨#[47]⟩)∧w=w'):=by
 go_enter Tryz.func109,Tryz.ntmps109
 go_wp2_with fail
 go_ret
 exact⟨rfl,rfl⟩
theorem tok_10(w:World):Calls Tryz.prog 109 #[.int .i64 10] w (fun e w'=>e=.returned (.string ⟨#[37]⟩)∧w=w'):=by
 go_enter Tryz.func109,Tryz.ntmps109
 go_wp2_with fail
 go_ret
 exact⟨rfl,rfl⟩
theorem tok_11(w:World):Calls Tryz.prog 109 #[.int .i64 11] w (fun e w'=>e=.returned (.string ⟨#[38]⟩)∧w=w'):=by
 go_enter Tryz.func109,Tryz.ntmps109
 go_wp2_with fail
 go_ret
 exact⟨rfl,rfl⟩
theorem tok_12(w:World):Calls Tryz.prog 109 #[.int .i64 12] w (fun e w'=>e=.returned (.string ⟨#[124]⟩)∧w=w'):=by
 go_enter Tryz.func109,Tryz.ntmps109
 go_wp2_with fail
 go_ret
 exact⟨rfl,rfl⟩
theorem tok_13(w:World):Calls Tryz.prog 109 #[.int .i64 13] w (fun e w'=>e=.returned (.string ⟨#[94]⟩)∧w=w'):=by
 go_enter Tryz.func109,Tryz.ntmps109
 go_wp2_with fail
 go_ret
 exact⟨rfl,rfl⟩
theorem tok_14(w:World):Calls Tryz.prog 109 #[.int .i64 14] w (fun e w'=>e=.returned (.string ⟨#[60,60]⟩)∧w=w'):=by
 go_enter Tryz.func109,Tryz.ntmps109
 go_wp2_with fail
 go_ret
 exact⟨rfl,rfl⟩
theorem tok_15(w:World):Calls Tryz.prog 109 #[.int .i64 15] w (fun e w'=>e=.returned (.string ⟨#[62,62]⟩)∧w=w'):=by
 go_enter Tryz.func109,Tryz.ntmps109
 go_wp2_with fail
 go_ret
 exact⟨rfl,rfl⟩
theorem tok_16(w:World):Calls Tryz.prog 109 #[.int .i64 16] w (fun e w'=>e=.returned (.string ⟨#[38,94]⟩)∧w=w'):=by
 go_enter Tryz.func109,Tryz.ntmps109
 go_wp2_with fail
 go_ret
 exact⟨rfl,rfl⟩
theorem tok_17(w:World):Calls Tryz.prog 109 #[.int .i64 17] w (fun e w'=>e=.returned (.string ⟨#[43,61]⟩)∧w=w'):=by
 go_enter Tryz.func109,Tryz.ntmps109
 go_wp2_with fail
 go_ret
 exact⟨rfl,rfl⟩
theorem tok_18(w:World):Calls Tryz.prog 109 #[.int .i64 18] w (fun e w'=>e=.returned (.string ⟨#[45,61]⟩)∧w=w'):=by
 go_enter Tryz.func109,Tryz.ntmps109
 go_wp2_with fail
 go_ret
 exact⟨rfl,rfl⟩
theorem tok_19(w:World):Calls Tryz.prog 109 #[.int .i64 19] w (fun e w'=>e=.returned (.string ⟨#[42,61]⟩)∧w=w'):=by
 go_enter Tryz.func109,Tryz.ntmps109
 go_wp2_with fail
 go_ret
 exact⟨rfl,rfl⟩
theorem tok_20(w:World):Calls Tryz.prog 109 #[.int .i64 20] w (fun e w'=>e=.returned (.string ⟨#[47,61]⟩)∧w=w'):=by
 go_enter Tryz.func109,Tryz.ntmps109
 go_wp2_with fail
 go_ret
 exact⟨rfl,rfl⟩
theorem tok_21(w:World):Calls Tryz.prog 109 #[.int .i64 21] w (fun e w'=>e=.returned (.string ⟨#[37,61]⟩)∧w=w'):=by
 go_enter Tryz.func109,Tryz.ntmps109
 go_wp2_with fail
 go_ret
 exact⟨rfl,rfl⟩
theorem tok_22(w:World):Calls Tryz.prog 109 #[.int .i64 22] w (fun e w'=>e=.returned (.string ⟨#[38,61]⟩)∧w=w'):=by
 go_enter Tryz.func109,Tryz.ntmps109
 go_wp2_with fail
 go_ret
 exact⟨rfl,rfl⟩
theorem tok_23(w:World):Calls Tryz.prog 109 #[.int .i64 23] w (fun e w'=>e=.returned (.string ⟨#[124,61]⟩)∧w=w'):=by
 go_enter Tryz.func109,Tryz.ntmps109
 go_wp2_with fail
 go_ret
 exact⟨rfl,rfl⟩
theorem tok_24(w:World):Calls Tryz.prog 109 #[.int .i64 24] w (fun e w'=>e=.returned (.string ⟨#[94,61]⟩)∧w=w'):=by
 go_enter Tryz.func109,Tryz.ntmps109
 go_wp2_with fail
 go_ret
 exact⟨rfl,rfl⟩
theorem tok_25(w:World):Calls Tryz.prog 109 #[.int .i64 25] w (fun e w'=>e=.returned (.string ⟨#[60,60,61]⟩)∧w=w'):=by
 go_enter Tryz.func109,Tryz.ntmps109
 go_wp2_with fail
 go_ret
 exact⟨rfl,rfl⟩
theorem tok_26(w:World):Calls Tryz.prog 109 #[.int .i64 26] w (fun e w'=>e=.returned (.string ⟨#[62,62,61]⟩)∧w=w'):=by
 go_enter Tryz.func109,Tryz.ntmps109
 go_wp2_with fail
 go_ret
 exact⟨rfl,rfl⟩
theorem tok_27(w:World):Calls Tryz.prog 109 #[.int .i64 27] w (fun e w'=>e=.returned (.string ⟨#[38,94,61]⟩)∧w=w'):=by
 go_enter Tryz.func109,Tryz.ntmps109
 go_wp2_with fail
 go_ret
 exact⟨rfl,rfl⟩
theorem tok_28(w:World):Calls Tryz.prog 109 #[.int .i64 28] w (fun e w'=>e=.returned (.string ⟨#[38,38]⟩)∧w=w'):=by
 go_enter Tryz.func109,Tryz.ntmps109
 go_wp2_with fail
 go_ret
 exact⟨rfl,rfl⟩
theorem tok_29(w:World):Calls Tryz.prog 109 #[.int .i64 29] w (fun e w'=>e=.returned (.string ⟨#[124,124]⟩)∧w=w'):=by
 go_enter Tryz.func109,Tryz.ntmps109
 go_wp2_with fail
 go_ret
 exact⟨rfl,rfl⟩
theorem tok_30(w:World):Calls Tryz.prog 109 #[.int .i64 30] w (fun e w'=>e=.returned (.string ⟨#[60,45]⟩)∧w=w'):=by
 go_enter Tryz.func109,Tryz.ntmps109
 go_wp2_with fail
 go_ret
 exact⟨rfl,rfl⟩
theorem tok_31(w:World):Calls Tryz.prog 109 #[.int .i64 31] w (fun e w'=>e=.returned (.string ⟨#[43,43]⟩)∧w=w'):=by
 go_enter Tryz.func109,Tryz.ntmps109
 go_wp2_with fail
 go_ret
 exact⟨rfl,rfl⟩
theorem tok_32(w:World):Calls Tryz.prog 109 #[.int .i64 32] w (fun e w'=>e=.returned (.string ⟨#[45,45]⟩)∧w=w'):=by
 go_enter Tryz.func109,Tryz.ntmps109
 go_wp2_with fail
 go_ret
 exact⟨rfl,rfl⟩
theorem tok_33(w:World):Calls Tryz.prog 109 #[.int .i64 33] w (fun e w'=>e=.returned (.string ⟨#[61,61]⟩)∧w=w'):=by
 go_enter Tryz.func109,Tryz.ntmps109
 go_wp2_with fail
 go_ret
 exact⟨rfl,rfl⟩
theorem tok_34(w:World):Calls Tryz.prog 109 #[.int .i64 34] w (fun e w'=>e=.returned (.string ⟨#[60]⟩)∧w=w'):=by
 go_enter Tryz.func109,Tryz.ntmps109
 go_wp2_with fail
 go_ret
 exact⟨rfl,rfl⟩
theorem tok_35(w:World):Calls Tryz.prog 109 #[.int .i64 35] w (fun e w'=>e=.returned (.string ⟨#[62]⟩)∧w=w'):=by
 go_enter Tryz.func109,Tryz.ntmps109
 go_wp2_with fail
 go_ret
 exact⟨rfl,rfl⟩
theorem tok_36(w:World):Calls Tryz.prog 109 #[.int .i64 36] w (fun e w'=>e=.returned (.string ⟨#[61]⟩)∧w=w'):=by
 go_enter Tryz.func109,Tryz.ntmps109
 go_wp2_with fail
 go_ret
 exact⟨rfl,rfl⟩
theorem tok_37(w:World):Calls Tryz.prog 109 #[.int .i64 37] w (fun e w'=>e=.returned (.string ⟨#[33]⟩)∧w=w'):=by
 go_enter Tryz.func109,Tryz.ntmps109
 go_wp2_with fail
 go_ret
 exact⟨rfl,rfl⟩
theorem tok_38(w:World):Calls Tryz.prog 109 #[.int .i64 38] w (fun e w'=>e=.returned (.string ⟨#[33,61]⟩)∧w=w'):=by
 go_enter Tryz.func109,Tryz.ntmps109
 go_wp2_with fail
 go_ret
 exact⟨rfl,rfl⟩
theorem tok_39(w:World):Calls Tryz.prog 109 #[.int .i64 39] w (fun e w'=>e=.returned (.string ⟨#[60,61]⟩)∧w=w'):=by
 go_enter Tryz.func109,Tryz.ntmps109
 go_wp2_with fail
 go_ret
 exact⟨rfl,rfl⟩
theorem tok_40(w:World):Calls Tryz.prog 109 #[.int .i64 40] w (fun e w'=>e=.returned (.string ⟨#[62,61]⟩)∧w=w'):=by
 go_enter Tryz.func109,Tryz.ntmps109
 go_wp2_with fail
 go_ret
 exact⟨rfl,rfl⟩
theorem tok_41(w:World):Calls Tryz.prog 109 #[.int .i64 41] w (fun e w'=>e=.returned (.string ⟨#[58,61]⟩)∧w=w'):=by
 go_enter Tryz.func109,Tryz.ntmps109
 go_wp2_with fail
 go_ret
 exact⟨rfl,rfl⟩
theorem tok_42(w:World):Calls Tryz.prog 109 #[.int .i64 42] w (fun e w'=>e=.returned (.string ⟨#[46,46,46]⟩)∧w=w'):=by
 go_enter Tryz.func109,Tryz.ntmps109
 go_wp2_with fail
 go_ret
 exact⟨rfl,rfl⟩
theorem tok_43(w:World):Calls Tryz.prog 109 #[.int .i64 43] w (fun e w'=>e=.returned (.string ⟨#[126]⟩)∧w=w'):=by
 go_enter Tryz.func109,Tryz.ntmps109
 go_wp2_with fail
 go_ret
 exact⟨rfl,rfl⟩
theorem tok_44(w:World):Calls Tryz.prog 109 #[.int .i64 44] w (fun e w'=>e=.returned (.string ⟨#[98,114,101,97,107]⟩)∧w=w'):=by
 go_enter Tryz.func109,Tryz.ntmps109
 go_wp2_with fail
 go_ret
 exact⟨rfl,rfl⟩
theorem tok_45(w:World):Calls Tryz.prog 109 #[.int .i64 45] w (fun e w'=>e=.returned (.string ⟨#[99,111,110,115,116]⟩)∧w=w'):=by
 go_enter Tryz.func109,Tryz.ntmps109
 go_wp2_with fail
 go_ret
 exact⟨rfl,rfl⟩
theorem tok_46(w:World):Calls Tryz.prog 109 #[.int .i64 46] w (fun e w'=>e=.returned (.string ⟨#[99,111,110,116,105,110,117,101]⟩)∧w=w'):=by
 go_enter Tryz.func109,Tryz.ntmps109
 go_wp2_with fail
 go_ret
 exact⟨rfl,rfl⟩
theorem tok_47(w:World):Calls Tryz.prog 109 #[.int .i64 47] w (fun e w'=>e=.returned (.string ⟨#[102,97,108,108,116,104,114,111,117,103,104]⟩)∧w=w'):=by
 go_enter Tryz.func109,Tryz.ntmps109
 go_wp2_with fail
 go_ret
 exact⟨rfl,rfl⟩
theorem tok_48(w:World):Calls Tryz.prog 109 #[.int .i64 48] w (fun e w'=>e=.returned (.string ⟨#[103,111,116,111]⟩)∧w=w'):=by
 go_enter Tryz.func109,Tryz.ntmps109
 go_wp2_with fail
 go_ret
 exact⟨rfl,rfl⟩
theorem tok_49(w:World):Calls Tryz.prog 109 #[.int .i64 49] w (fun e w'=>e=.returned (.string ⟨#[105,109,112,111,114,116]⟩)∧w=w'):=by
 go_enter Tryz.func109,Tryz.ntmps109
 go_wp2_with fail
 go_ret
 exact⟨rfl,rfl⟩
theorem tok_50(w:World):Calls Tryz.prog 109 #[.int .i64 50] w (fun e w'=>e=.returned (.string ⟨#[116,121,112,101]⟩)∧w=w'):=by
 go_enter Tryz.func109,Tryz.ntmps109
 go_wp2_with fail
 go_ret
 exact⟨rfl,rfl⟩
theorem tok_51(w:World):Calls Tryz.prog 109 #[.int .i64 51] w (fun e w'=>e=.returned (.string ⟨#[118,97,114]⟩)∧w=w'):=by
 go_enter Tryz.func109,Tryz.ntmps109
 go_wp2_with fail
 go_ret
 exact⟨rfl,rfl⟩
theorem tok_any(k:Nat)(hk:k<51)(K1:Int)(hK:K1=(k:Int)+1)(w:World):Calls Tryz.prog 109 #[.int .i64 K1] w (fun e w'=>e=.returned (.string (strOf (toks.getD k [])))∧w=w'):=by
 subst hK
 match k,hk with
 | 0,_=>exact tok_1 w
 | 1,_=>exact tok_2 w
 | 2,_=>exact tok_3 w
 | 3,_=>exact tok_4 w
 | 4,_=>exact tok_5 w
 | 5,_=>exact tok_6 w
 | 6,_=>exact tok_7 w
 | 7,_=>exact tok_8 w
 | 8,_=>exact tok_9 w
 | 9,_=>exact tok_10 w
 | 10,_=>exact tok_11 w
 | 11,_=>exact tok_12 w
 | 12,_=>exact tok_13 w
 | 13,_=>exact tok_14 w
 | 14,_=>exact tok_15 w
 | 15,_=>exact tok_16 w
 | 16,_=>exact tok_17 w
 | 17,_=>exact tok_18 w
 | 18,_=>exact tok_19 w
 | 19,_=>exact tok_20 w
 | 20,_=>exact tok_21 w
 | 21,_=>exact tok_22 w
 | 22,_=>exact tok_23 w
 | 23,_=>exact tok_24 w
 | 24,_=>exact tok_25 w
 | 25,_=>exact tok_26 w
 | 26,_=>exact tok_27 w
 | 27,_=>exact tok_28 w
 | 28,_=>exact tok_29 w
 | 29,_=>exact tok_30 w
 | 30,_=>exact tok_31 w
 | 31,_=>exact tok_32 w
 | 32,_=>exact tok_33 w
 | 33,_=>exact tok_34 w
 | 34,_=>exact tok_35 w
 | 35,_=>exact tok_36 w
 | 36,_=>exact tok_37 w
 | 37,_=>exact tok_38 w
 | 38,_=>exact tok_39 w
 | 39,_=>exact tok_40 w
 | 40,_=>exact tok_41 w
 | 41,_=>exact tok_42 w
 | 42,_=>exact tok_43 w
 | 43,_=>exact tok_44 w
 | 44,_=>exact tok_45 w
 | 45,_=>exact tok_46 w
 | 46,_=>exact tok_47 w
 | 47,_=>exact tok_48 w
 | 48,_=>exact tok_49 w
 | 49,_=>exact tok_50 w
 | 50,_=>exact tok_51 w
 | k+51,h=>omega
theorem find_lt{α:Type}(p:α→Bool)(l:List α)(d:α)(k:Nat)(hk:k<l.length)(h:k≤l.findIdx p)(hn:p (l.getD k d)=false):k+1≤l.findIdx p:=by
 rcases Nat.lt_or_ge k (l.findIdx p) with h'|h'
 · omega
 · have e:l.findIdx p=k:=by omega
   have:=List.findIdx_getElem (xs:=l) (p:=p) (w:=by omega)
   simp only[e]at this
   rw[List.getD_eq_getElem?_getD,List.getElem?_eq_getElem hk]at hn
   simp only[Option.getD_some]at hn
   rw[this]at hn
   cases hn
theorem find_eq{α:Type}(p:α→Bool)(l:List α)(d:α)(k:Nat)(hk:k<l.length)(h:k≤l.findIdx p)(hp:p (l.getD k d)=true):l.findIdx p=k:=by
 rw[List.getD_eq_getElem?_getD,List.getElem?_eq_getElem hk]at hp
 simp only[Option.getD_some]at hp
 rcases Nat.lt_or_ge k (l.findIdx p) with h'|h'
 · have:=List.not_of_lt_findIdx h'
   rw[hp]at this
   cases this
 · omega
theorem zz_any(s:Str)(w:World):Calls Tryz.prog 80 #[.string s] w (fun e w'=>e=.returned (.int .i64 (tokOf s))∧w=w'):=by
 obtain⟨p,hp⟩:∃ p:List UInt8→Bool,p=fun x=>x == s.data.toList:=⟨_,rfl⟩
 have Hp:=Lib.hid hp
 clear hp
 go_enter Tryz.func80,Tryz.ntmps80
 go_wp2_with fail
 go_loop [3] (fun t=>∃ k:Nat,t=.int .i64 ((k:Int)+1)∧k≤51∧k≤toks.findIdx p) (fun t=>(60-intOf t).toNat)
 case atStart=>exact⟨0,rfl,by omega,by omega⟩
 case round =>
  obtain⟨k,rfl,hk,hf⟩:=hrel
  by_cases hlt:k<51
  · go_wp2_with fail
    refine(tok_any k hlt _ rfl _).mono ?_
    rintro e w' ⟨rfl,rfl⟩
    go_wp2_with fail
    · have ht:(ByteArray.toList (strOf (toks[k]?.getD [])) == ByteArray.toList s)=true:=by assumption
      have hn:p (toks.getD k [])=true:=by
       rw[Hp.out,List.getD_eq_getElem?_getD]
       rw[Go.ByteArray.toList_eq,Go.ByteArray.toList_eq]at ht
       exact ht
      have:=find_eq p toks [] k (by simpa [toks]using hlt) hf hn
      go_ret
      refine⟨?_,rfl⟩
      have e:tokOf s=(k:Int)+1:=by
       rw[Hp.out]at this
       unfold tokOf tokN
       rw[this,if_pos hlt]
       omega
      rw[e]
      rfl
    · have ht:(ByteArray.toList (strOf (toks[k]?.getD [])) == ByteArray.toList s)=false:=by assumption
      have hn:p (toks.getD k [])=false:=by
       rw[Hp.out,List.getD_eq_getElem?_getD]
       rw[Go.ByteArray.toList_eq,Go.ByteArray.toList_eq]at ht
       exact ht
      have:=find_lt p toks [] k (by simpa [toks]using hlt) hf hn
      refine⟨⟨k+1,by go_num,by omega,this⟩,by simp[intOf];omega⟩
  · go_wp2_with fail
    go_ret
    refine⟨?_,rfl⟩
    have e:tokOf s=0:=by
     rw[Hp.out]at hf
     unfold tokOf tokN
     rw[if_neg (by omega)]
     rfl
    rw[e]
    rfl
theorem word_any(s:Str)(ss:List Str)(hs:s∈ss)(hlen:ss.length≤100)(w:World)(g n c:Nat)(hn:n=ss.length)(hc:∀ j u,ss[j]?=some u→w.cell? ⟨g,j,none⟩=some (.string u)) :
 Calls Tryz.prog 91 #[.string s,.slice (some ⟨g,0,none⟩) n c] w (fun e w'=>e=.returned (.bool true)∧w=w'):=by
 have hn':n≤100:=by omega
 have Hn:=Lib.hid hn
 have Hc:=Lib.hid hc
 have Hs:=Lib.hid hs
 clear hn hc hs
 go_enter Tryz.func91,Tryz.ntmps91
 go_wp2_with fail
 go_loop [9] (fun t=>∃ k:Nat,t=.int .i64 k∧k≤n∧∀ j u,j<k→ss[j]?=some u→u≠s) (fun t=>((n:Int)-intOf t).toNat)
 case atStart=>exact⟨0,rfl,by omega,fun j u h=>by omega⟩
 case round =>
  obtain⟨k,rfl,hk,hf⟩:=hrel
  have HF:=Lib.hid hf
  clear hf
  by_cases hlt:(k:Int)<n
  · obtain⟨u,hu⟩:∃ u,ss[k]?=some u:=⟨ss[k]'(by have:=Hn.out;omega),List.getElem?_eq_getElem _⟩
    have hcell:w.cell? ⟨g,k,none⟩=some (.string u):=Hc.out k u hu
    have Hu:=Lib.hid hu
    clear hu
    go_wp2_with fail
    · go_ret
      exact⟨rfl,rfl⟩
    · have ht:(ByteArray.toList s == ByteArray.toList u)=false:=by assumption
      have hne:u≠s:=fun e=>by subst e;simp at ht
      refine⟨⟨k+1,by go_num,by omega,fun j v hj hv=>?_⟩,by simp[intOf];omega⟩
      rcases Nat.lt_or_ge j k with h|h
      · exact HF.out j v h hv
      · obtain rfl:j=k:=by omega
        rw[Hu.out]at hv
        cases hv
        exact hne
  · exfalso
    obtain⟨j,hj,e⟩:=List.getElem_of_mem Hs.out
    exact HF.out j _ (by have:=Hn.out;omega) (List.getElem?_eq_getElem hj) e
theorem kids_any(w:World)(bb:Nat)(kd tx:Str)(i:Int)(a:Option Addr)(c c':Nat)(N:Int)(hN:N=c) :
 Calls Tryz.prog 69 #[.pointer (some ⟨bb,0,none⟩),.agg #[.string kd,.string tx,.int .i64 i,.slice a c c'],.int .i64 N] w (fun e w'=>e=.returned (.tuple #[])∧Kept (fun _=>False) w w'):=by
 subst hN
 go_enter Tryz.func69,Tryz.ntmps69
 go_wp2_with fail
 go_end0
 exact⟨rfl,keptA⟩
end Go.Proofs.YtleolbpibjnedaaGreat
namespace Gc
open Go
def dK(l:List UInt8):Option K :=
 if l=[] then some .none else if l=kList.data.toList then some .list else if l=kIdent.data.toList then some .ident else if l=kLit.data.toList then some .lit else if l=kFuncLit.data.toList then some .flit
 else if l=kParen.data.toList then some .paren else if l=kCall.data.toList then some .call else if l=kUn.data.toList then some .un else if l=kBin.data.toList then some .bin else if l=kFuncType.data.toList then some .ftype
 else if l=kFieldList.data.toList then some .flist else if l=kExprS.data.toList then some .exprS else if l=kInc.data.toList then some .inc else if l=kAssign.data.toList then some .assign else if l=kReturn.data.toList then some .ret
 else if l=kBranch.data.toList then some .branch else if l=kBlock.data.toList then some .block else if l=kIf.data.toList then some .if_ else if l=kCase.data.toList then some .case_ else if l=kSwitch.data.toList then some .switch
 else if l=kComm.data.toList then some .comm else if l=kSelect.data.toList then some .select else if l=kFor.data.toList then some .for_ else if l=kRange.data.toList then some .range else if l=kLabeled.data.toList then some .labeled
 else if l=kFuncDecl.data.toList then some .func else none
theorem dK_str(k:K):dK k.str.data.toList=some k:=by cases k<;>rfl
theorem K.str_inj{k k':K}(h:k.str=k'.str):k=k':=by
 have:=dK_str k
 rw[h,dK_str k']at this
 cases this
 rfl
def K.real:K→Prop
 | .none | .list=>False
 | _=>True
theorem iface_of{a:A}{k:K}(hk:a.K=k)(hr:k.real){w:World}{D:Nat→Prop}{v:Value}(h:Rep w D (a.g 1 .fin) [v]):∃ b,v=.iface k.pty (.pointer (some ⟨b,0,none⟩))∧D b:=by
 subst hk
 cases a with
 | nil=>exact hr.elim
 | cons=>exact hr.elim
 | n k text num o b f0 f1 f2 f3 =>
   cases k<;>first
    | exact hr.elim
    | (simp only[A.g,if_true]at h;obtain⟨cs,rs,e,hb,_⟩:=h;simp only[ptrVal,List.cons.injEq]at e;exact⟨b,e.1,hb⟩)
theorem ptr_of{a:A}{k:K}(hk:a.K=k)(hr:k.real){w:World}{D:Nat→Prop}{v:Value}(h:Rep w D (a.g 0 .fin) [v]):∃ b,v=.pointer (some ⟨b,0,none⟩)∧D b:=by
 subst hk
 cases a with
 | nil=>exact hr.elim
 | cons=>exact hr.elim
 | n k text num o b f0 f1 f2 f3 =>
   cases k<;>first
    | exact hr.elim
    | (simp only[A.g,Nat.zero_ne_one,if_false]at h;obtain⟨cs,rs,e,hb,_⟩:=h;simp only[ptrVal,List.cons.injEq]at e;exact⟨b,e.1,hb⟩)
theorem ptr_iface{a:A}{k:K}(hk:a.K=k)(hr:k.real){w:World}{D:Nat→Prop}{b:Nat}(h:Rep w D (a.g 1 .fin) [.iface k.pty (.pointer (some ⟨b,0,none⟩))]):Rep w D (a.g 0 .fin) [.pointer (some ⟨b,0,none⟩)]:=by
 subst hk
 cases a with
 | nil=>exact hr.elim
 | cons=>exact hr.elim
 | n k text num o b' f0 f1 f2 f3 =>
   cases k<;>first
    | exact hr.elim
    | (simp only[A.g,if_true,Nat.zero_ne_one,if_false]at h ⊢;obtain⟨cs,rs,e,h1,h2,h3,h4⟩:=h;simp only[ptrVal]at e;cases e;exact⟨cs,[],rfl,h1,h2,h3,rfl⟩)
end Gc
namespace Go.Proofs.YtleolbpibjnedaaGreat
open Go Go.RowKit Gc
def AllowedB(n:N)(k:K):Prop:=∀ (kd tx:Str) (i:Int) (kids:N),n=.n kd tx i kids→∀ (w:World) (D:Nat→Prop) (a:Option Addr) (c c':Nat) (x:A) (b:Nat),
 x.N=n→x.K=k→Rep w D (x.g 1 .fin) [.iface k.pty (.pointer (some ⟨b,0,none⟩))] →
 Calls Tryz.prog 55 #[.agg #[.string kd,.string tx,.int .i64 i,.slice a c c'],.iface k.pty (.pointer (some ⟨b,0,none⟩))] w (fun e w'=>e=.returned (.bool true)∧Kept (fun _=>False) w w')
theorem dec_deferred(x bb:Nat)(d:Int)(u:FrameMode)(w:World)(hx:w.cell? ⟨x,0,none⟩=some (.pointer (some ⟨bb,0,none⟩)))(h2:w.cell? ⟨bb,2,none⟩=some (.int .i64 d))(f2:w.frozen? ⟨bb,2,none⟩=false)(hd:0≤d)(hd1:d≤100) :
 CallsD Tryz.prog 53 #[.pointer (some ⟨x,0,none⟩)] u w fun e u' w'=>u'=u∧(e=.returned (.tuple #[])∧w'=w.setCell ⟨bb,2,none⟩ (.int .i64 (d-1))):=by
 have zb:=World.block_lt_of_cell? w _ h2
 go_enter_d Tryz.func53,Tryz.ntmps53
 go_wp2
 go_end0
 exact⟨rfl,rfl⟩
theorem node_any(n:N)(k:K)(hk:k.real)(hkf:k≠.func)(hM:MadeB n k)(hA:AllowedB n k)(hc:1≤n.cost)(hd:1≤n.deep):NodeB n k:=by
 intro kd tx i kids hn w D bb mb left depth f a c c' hR hD hB hcost hdeep
 obtain⟨x0,x1,x2,x3,y0,y1,y2,y3⟩:=slot4 hB.obj
 have zb:bb<w.heap.size:=lt_of_heap hB.obj
 have l0:=hB.l0
 have l1:=hB.l1
 have d0:=hB.d0
 have d1:=hB.d1
 have hMn:=Lib.hid hM
 have hAn:=Lib.hid hA
 have Hn:=Lib.hid hn
 have HR:=Lib.hid hR
 have HD:=Lib.hid hD
 have HB:=Lib.hid hB
 have hmf:∀ (fn:Fn) (first cap:Array Value) (w:World),(Instr.makeFunc fn first cap).run Tryz.prog w=.ok (.func fn first cap) w:=fun _ _ _ _=>rfl
 have hleft:1≤left:=by omega
 have hdep:depth+1≤60:=by omega
 clear hM hA hn hR hD hB
 go_enter_defers Tryz.func33,Tryz.ntmps33
 go_wp2_with fail
 obtain⟨W1,hW1⟩:∃ W1,W1=(((w.setCell ⟨bb,1,none⟩ (.int .i64 (left-1))).setCell ⟨bb,2,none⟩ (.int .i64 (depth+1))).alloc (.cells #[.pointer (some ⟨bb,0,none⟩)] 96)).alloc (.cells #[.string kd,.string tx,.int .i64 i,.slice a c c'] 30):=⟨_,rfl⟩
 have kB:Kept (fun b=>b=bb) w W1:=by rw[hW1];exact((Kept.set1e (b:=bb)).trans (Kept.set1e (b:=bb))).trans (keptA.trans keptA)
 have hs:((w.setCell ⟨bb,1,none⟩ (.int .i64 (left-1))).setCell ⟨bb,2,none⟩ (.int .i64 (depth+1))).heap.size=w.heap.size:=by simp[World.setCell]
 have ob:W1.heap[bb]?=some (.cells #[.bool false,.int .i64 (left-1),.int .i64 (depth+1),.map (some mb)] 99 (0,0)):=by
  rw[hW1]
  exact(keptA.trans (M:=fun _=>False) keptA).obj (set_of_cells (cs:=[_,.int .i64 (left-1),_,_]) (set_of_cells (cs:=[_,_,_,_]) HB.out.obj 1 _) 2 _) (fun f=>f)
 have oa:W1.heap[w.heap.size]?=some (.cells #[.pointer (some ⟨bb,0,none⟩)] 96 (0,0)):=by rw[hW1,← hs];exact heap2_0 _ _ _
 have ox:W1.heap[w.heap.size+1]?=some (.cells #[.string kd,.string tx,.int .i64 i,.slice a c c'] 30 (0,0)):=by rw[hW1,← hs];exact heap2_1 _ _ _
 have zm:mb<w.heap.size:=by obtain⟨_,_,e,_⟩:=HB.out.map;exact lt_of_heap e
 have hne:=HB.out.ne
 have zx:w.heap.size+1<W1.heap.size:=lt_of_heap ox
 rw[← hW1]
 clear hW1 hs
 refine(hMn.out kd tx i kids Hn.out W1 D bb mb (left-1) (depth+1) f a c c' (HR.out.kept kB (fun b hb e=>HD.out b hb (.inl e))) HD.out ⟨ob,HB.out.map.kept kB (fun e=>hne e.symm),hne,by omega,by omega,by omega,by omega⟩ (by omega) (by omega)).mono ?_
 rintro e w1 ⟨x,v,f',rfl,hxN,hxK,R1,B1,E1,O1,L1,K1⟩
 obtain⟨b,rfl,hbD⟩:=iface_of hxK hk R1
 have oa1:=K1.obj oa (by intro h;rcases h with h | h<;>omega)
 have ox1:=K1.obj ox (by intro h;rcases h with h | h<;>omega)
 have p0:=cell_of_cells (cs:=[_]) oa1 0 rfl
 obtain⟨q0,q1,q2,q3,-⟩:=slot4 ox1
 obtain⟨r0,r1,r2,r3,s0,s1,s2,s3⟩:=slot4 B1.obj
 have t1:∀ w,(Instr.typeAssert (.iface k.pty (.pointer (some ⟨b,0,none⟩))) 74 54 true).run Tryz.prog w=.ok (.tuple #[.pointer none,.bool false]) w:=fun w=>assert_no un_FuncDecl zp_FuncDecl (by cases k<;>first | exact absurd rfl hkf | exact hk.elim | decide) _ _ _
 have t2:∀ w,(Instr.typeAssert (.iface k.pty (.pointer (some ⟨b,0,none⟩))) 74 151 true).run Tryz.prog w=.ok (.tuple #[.pointer none,.bool false]) w:=fun w=>assert_no un_TypeSpec zp_TypeSpec (by cases k<;>first | exact absurd rfl hkf | exact hk.elim | decide) _ _ _
 have HxN:=Lib.hid hxN
 have HxK:=Lib.hid hxK
 have HR1:=Lib.hid R1
 have HB1:=Lib.hid B1
 have HE1:=Lib.hid E1
 have HO1:=Lib.hid O1
 clear hxN hxK R1 B1 E1 O1
 go_wp2_with fail
 refine(hAn.out kd tx i kids Hn.out w1 _ a c c' x b HxN.out HxK.out HR1.out).mono ?_
 rintro e w2 ⟨rfl,K2⟩
 have p0':=K2.cell p0 (fun f=>f)
 have r0':=K2.cell r0 (fun f=>f)
 have r2':=K2.cell r2 (fun f=>f)
 have s2':w2.frozen? ⟨bb,2,none⟩=false:=free_of_cells (K2.obj HB1.out.obj (fun f=>f)) 2
 go_wp2_with fail
 refine leaves_cons (f:=53) (args:=#[.pointer (some ⟨w.heap.size,0,none⟩)]) (by simp) (by simp[go_sem]) ?_
 refine(dec_deferred w.heap.size bb (depth+1) .returning _ p0' r2' s2' (by omega) (by omega)).mono ?_
 rintro e u' w3 ⟨rfl,rfl,rfl⟩
 refine⟨_,results_tmp rfl _ _ _,?_⟩
 have hcn:(left-1+1-(n.cost:Int))=left-n.cost:=by omega
 have kF:Kept (fun b=>b=bb) w2 (w2.setCell ⟨bb,2,none⟩ (.int .i64 (depth+1-1))):=Kept.set1e (b:=bb)
 have s1:=kB.size
 have s2:=K1.size
 have s3:=K2.size
 have s4:=kF.size
 refine⟨x,_,f',rfl,HxN.out,HxK.out,(((HR1.out.kept K2 (fun _ _ f=>f)).kept kF (fun b hb=>by omega)).imp fun b _ hb=>by omega),⟨?_,((HB1.out.map.kept K2 (fun f=>f)).kept kF (fun e=>hne e.symm)),hne,by omega,by omega,d0,d1⟩,HE1.out,HO1.out,⟨L1.1,fun b hb=>by have:=L1.2 b hb;omega⟩,?_⟩
 · have:=set_of_cells (cs:=[.bool false,.int .i64 (left-1+1-n.cost),.int .i64 (depth+1),.map (some mb)]) (K2.obj HB1.out.obj (fun f=>f)) 2 (.int .i64 (depth+1-1))
   rw[hcn,show depth+1-1=depth by omega]at this
   rw[show depth+1-1=depth by omega]
   exact this
 · exact(((kB.mono (M':=Two bb mb) fun b _ h=>.inl h).trans (K1.mono fun b _ h=>h)).trans (K2.mono fun _ _ f=>f.elim)).trans (kF.mono fun b _ h=>.inl h)
end Go.Proofs.YtleolbpibjnedaaGreat
