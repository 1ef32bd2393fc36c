/- Bodies with parts that are bodies, as the reference reads them. No condition. -/
import Derived.Test.YtnjjgbcmjnfijaaGreatDoorG9
namespace Go.Proofs.YtnjjgbcmjnfijaaGreatDoor
set_option maxRecDepth 100000
set_option maxHeartbeats 8000000
open Go.RowKit
theorem body_4(B r lb:Nat)(ids:Bool)(l:List UInt8)(any bad unt:Bool)(w:World)(hk dm:Nat)(em ix bx:Value)(pb po pc m:Nat)(ps Q0:List Int)(hB:B≤w.heap.size)(hlB:B≤lb)(hne:r≠lb)(hdm:dm≤3)(hm:m=ps.length)
  (hR:RIn (· < B) r w l any bad unt) (hL:RowI lb w Q0) (hQ:Q0.length=ps.length) (hq:∀q∈Q0,-9007199254740992≤q∧q≤9007199254740992) (hps:ps.length≤4) (hps2:2≤ps.length) (hpb:∀p∈ps,-8≤p∧p≤7)
  (hpv:PrecsAt (fun b=>¬RL r lb b) w (.slice (some ⟨pb,po,none⟩) m pc) ps) :
  Calls Tryz.prog 48 #[.pointer (some ⟨r,0,none⟩),.int .i64 4,.agg #[.int .i64 hk,.int .i64 dm,.slice (some ⟨pb,po,none⟩) m pc,em,ix,bx],.bool ids,.slice (some ⟨lb,0,none⟩) m m] w (BodyPost B r lb 2 4 ids l any bad unt w ps Q0 dm):=by
 obtain⟨w0,hw0⟩:∃w0,w0=(w.alloc (.cells (hdv hk dm pb po pc m em ix bx) 89)).alloc (.cells #[.int .i64 0,.int .i64 0,.slice none 0 0,.slice none 0 0] 27):=⟨_,rfl⟩
 obtain⟨hdc,hhdc⟩:∃hdc,hdc=hdv hk dm pb po pc m em ix bx:=⟨_,rfl⟩
 have HHDC:=zH hhdc
 have H0:Hid (BdAt B r lb l any bad unt w hdc #[.int .i64 0,.int .i64 0,.slice none 0 0,.slice none 0 0] ps Q0 l bad unt w0):=by rw[hw0,hhdc];exact BdAt.start hB hR hL hQ hq
 have H1:Hid (BdAt B r lb l any bad unt w hdc #[.int .i64 4,.int .i64 dm,.slice none 0 0,.slice none 0 0] ps Q0 l bad unt ((((w0.setCell ⟨w.heap.size+1,0,none⟩ (.int .i64 4)).setCell ⟨w.heap.size+1,1,none⟩ (.int .i64 dm)).setCell ⟨w.heap.size+1,2,none⟩ (.slice none 0 0)).setCell ⟨w.heap.size+1,3,none⟩ (.slice none 0 0))):=((H0.out.setG 0 (.int .i64 4)).setG 1 (.int .i64 dm) |>.setG 2 (.slice none 0 0) |>.setG 3 (.slice none 0 0))
 have HM:=zH hm
 have HPV:=zH hpv
 have HQ:=zH hQ
 have HQB:=zH hq
 have HPB:=zH hpb
 obtain⟨w1,hw1⟩:∃w1,w1=(((w0.setCell ⟨w.heap.size+1,0,none⟩ (.int .i64 4)).setCell ⟨w.heap.size+1,1,none⟩ (.int .i64 dm)).setCell ⟨w.heap.size+1,2,none⟩ (.slice none 0 0)).setCell ⟨w.heap.size+1,3,none⟩ (.slice none 0 0):=⟨_,rfl⟩
 rw[←hw1] at H1
 have HW0:=zH hw0
 have HW1:=zH hw1
 have h0:w0.cell? ⟨w.heap.size,1,none⟩=some (.int .i64 dm):=by rw[zC H0.out.hd,hhdc];rfl
 obtain⟨g0,g1,g2,g3,gf⟩:=g_cells H0.out.g
 have H109:Hid (∀l bad unt w,RIn (· < B) r w l any bad unt→Calls Tryz.prog 109 #[.pointer (some ⟨r,0,none⟩)] w fun e w'=>∃(z:Nat) (l':List UInt8) (bad':Bool),e=.returned (.int .u64 z)∧Hid (NumOf (· < B) r l any bad unt w z l' bad' w')):=fun l bad unt w h=>numOf h
 clear hm hw0 hw1 hpv hQ hR hL hhdc hq hpb
 go_enter Tryz.func48,Tryz.ntmps48
 go_upto_region 1 with fail
 have e0:(w.alloc (.cells #[.int .i64 hk,.int .i64 dm,.slice (some ⟨pb,po,none⟩) m pc,em,ix,bx] 89)).alloc (.cells #[.int .i64 0,.int .i64 0,.slice none 0 0,.slice none 0 0] 27)=w0:=HW0.out.symm
 rw[e0]
 clear e0
 go_upto_region 8 with fail
 rw[←HW1.out]
 clear h0 g0 g1 g2 g3 gf H0
 have C113:Hid (Calls Tryz.prog 113 #[.pointer (some ⟨r,0,none⟩)] w1 (CountPost (· < B) r l any bad unt w1)):=count113 _ r l any bad unt _ H1.out.st.inn
 go_upto_region 9 with (go_at_call 113;refine C113.out.mono ?_;rintro e wa ⟨n,l0,bad0,unt0,rfl,h1⟩)
 have hn:=h1.out.1
 have HA:=zH (H1.out.stepR hne h1.out.2.1)
 have HUV:=zH h1.out.2.2
 clear C113 h1
 obtain⟨dm',hdm'⟩:∃d:Nat,d=if n=0 then 0 else dm:=⟨_,rfl⟩
 have HDM:=zH hdm'
 clear hdm'
 obtain⟨g0,g1,g2,g3,gf⟩:=g_cells HA.out.g
 go_upto_if 41 with fail
 go_cut [] from 42 to 42 (fun wr=>Hid (BdAt B r lb l any bad unt w hdc #[.int .i64 4,.int .i64 dm',.slice none 0 0,.slice none 0 0] ps Q0 l0 bad0 unt0 wr))
 case first =>
  rcases Nat.eq_zero_or_pos n with hz|hz
  ·have hd0:dm'=0:=by rw[HDM.out,if_pos hz]
   subst hz
   have HS:=zH (HA.out.setG 1 (.int .i64 0))
   have HD0:=zH hd0
   clear hd0
   go_wp2_with fail
   go_meet
   show BdAt _ _ _ _ _ _ _ _ _ _ _ _ _ _ _ _
   rw[HD0.out]
   exact HS.out
  ·have hd0:dm'=dm:=by rw[HDM.out,if_neg (by omega)]
   have HD0:=zH hd0
   clear hd0
   go_wp2_with fail
   go_meet
   show BdAt _ _ _ _ _ _ _ _ _ _ _ _ _ _ _ _
   rw[HD0.out]
   exact HA.out
 case rest =>
  have HB:=hcut
  clear hcut HA g0 g1 g2 g3 gf
  go_upto_block 0 with fail
  go_cut [11,13] from 43 to 67 (fun lv iv wr=>IdDone 4 n ids B r lb l any bad unt w hdc #[.int .i64 4,.int .i64 dm',.slice none 0 0,.slice none 0 0] ps Q0 l0 bad0 unt0 lv wr)
  case first =>
   cases ids with
   | false =>
    have HI:Hid (IdDone 4 n false B r lb l any bad unt w hdc #[.int .i64 4,.int .i64 dm',.slice none 0 0,.slice none 0 0] ps Q0 l0 bad0 unt0 (.slice none 0 0) wc):=⟨[],l0,bad0,IdAt.start HB.out,fun h1 h2=>⟨HUV.out h1 h2,fun _=>by simp[IdsP],fun _=>⟨rfl,rfl⟩⟩⟩
    clear HB HUV
    go_wp2_with fail
    go_loopw [11,13] (fun lv iv wr=>lv=.slice none 0 0∧iv=.int .i64 0∧wr=wc) (fun _ _ _=>0)
    case atStart=>exact⟨rfl,rfl,rfl⟩
    case round =>
     obtain⟨hl,hi,hwr⟩:=hrel
     subst hl hi hwr
     rcases Nat.eq_zero_or_pos n with hz|hz
     ·subst hz
      go_wp2_with fail
      go_meet
      exact HI.out
     ·go_wp2_with fail
      go_meet
      exact HI.out
   | true =>
    obtain⟨j0,hj0,jz0,jz1,jz2⟩:=info_parts info2
    have H7:=zH h7w
    have HS:=zH (IdAt.start HB.out)
    clear HB
    go_wp2_with fail
    go_loopw [11,13] (fun lv iv wr=>∃(i:Nat) (v:Value) (is:List Int) (li:List UInt8) (badi:Bool),i≤n∧iv=.int .i64 i∧lv=v∧Hid (IdAt B r lb l any bad unt w hdc #[.int .i64 4,.int .i64 dm',.slice none 0 0,.slice none 0 0] ps Q0 l0 bad0 unt0 i v is li badi wr)) (fun _ iv _=>n - (intOf iv).toNat)
    case atStart=>exact⟨0,_,[],l0,bad0,Nat.zero_le _,rfl,rfl,HS.out⟩
    case round =>
     obtain⟨i,v,is,li,badi,hi,rfl,rfl,hrel⟩:=hrel
     clear HS
     have c2:=hrel.out.bd.st.inn.c2
     by_cases hlt:i < n
     ·cases badi with
      | true =>
       have HI:Hid (IdDone 4 n true B r lb l any bad unt w hdc #[.int .i64 4,.int .i64 dm',.slice none 0 0,.slice none 0 0] ps Q0 l0 bad0 unt0 u11 wr):=⟨is,li,true,by rw[hrel.out.len];exact hrel.out,fun h=>by cases h⟩
       clear hrel
       go_wp2_with fail
       go_meet
       exact HI.out
      | false =>
       have C9:=zH (H109.out _ _ _ _ hrel.out.bd.st.inn)
       have KN:∀z l2 bad2 wa,Hid (NumOf (· < B) r li any false unt0 wr z l2 bad2 wa)→Hid (wa.ownsRow (w.heap.size+2) 2 1 u11 i (is.map iv)∧w.heap.size+2≤wa.heap.size∧∀(o:Obj) (w7:World) (v':Value),w7.ownsRow (w.heap.size+2) 2 1 v' (i+1) (is.map iv++[iv (unz z)])→(wa.alloc o).grownBy w7 u11.ownBlock→IdAt B r lb l any bad unt w hdc #[.int .i64 4,.int .i64 dm',.slice none 0 0,.slice none 0 0] ps Q0 l0 bad0 unt0 (i+1) v' (is++[unz z]) l2 bad2 w7):=fun z l2 bad2 wa h=>hrel.out.next hne h.out
       have HKN:=zH KN
       have K3:Hid (i+1≤maxLen):=by show _≤_;unfold maxLen;omega
       have K4:Hid ((i+1)*8≤140737488355328):=by show _≤_;omega
       have K5:Hid (∀(wa:World) (d:Int),w.heap.size+2≤wa.heap.size→w.heap.size+2≤(wa.alloc (.cells #[iv d] 2)).heap.size):=fun wa d h=>by show _≤(wa.heap.push _).size;rw[Array.size_push];omega
       clear KN hrel
       go_wp2_with first|(go_at_call 109;refine C9.out.mono ?_;rintro e wa ⟨z,l2,bad2,rfl,h9⟩)|(go_at_call 7;refine (H7.out z h9.out.lt _).mono ?_;rintro e wb ⟨d,rfl,hd,rfl⟩)|(at_builtin;refine wpList_append_own _ rfl _ _ 28 rfl (w.heap.size+2) 2 j0 (.int .i64 0) 1 8 Tryz.underlying28 hj0 jz0 jz1 jz2 rfl (by decide) _ i (is.map iv) rfl ((HKN.out _ _ _ _ h9).out.1.alloc _) ⟨_,0,none⟩ 1 1 [iv d] rfl rfl (cell_one_new _ _ _) (one_one _ rfl) K3.out K4.out (K5.out _ _ (HKN.out _ _ _ _ h9).out.2.1) ?_;intro v' w5 hown1 hgrow1 _;have HX:=zH ((HKN.out _ _ _ _ h9).out.2.2 _ _ _ (by rw[←hd.out.1];exact hown1) hgrow1);clear hown1 hgrow1;refine Hid.out ?_)
       refine zH ?_
       go_wp2_with fail
       go_roundw
       case rel=>exact⟨i+1,_,_,_,_,by omega,by go_num,rfl,HX.out⟩
       case measure=>simp[intOf];omega
     ·have HI:Hid (IdDone 4 n true B r lb l any bad unt w hdc #[.int .i64 4,.int .i64 dm',.slice none 0 0,.slice none 0 0] ps Q0 l0 bad0 unt0 u11 wr):=⟨is,li,badi,by rw[hrel.out.len];exact hrel.out,fun h1 h2=>⟨HUV.out (hrel.out.ok h1 h2).1 h2,fun _=>by
       unfold IdsP
       rw[if_pos rfl]
       exact⟨(hrel.out.ok h1 h2).2,by have:=hrel.out.len;omega⟩,fun h=>by cases h⟩⟩
      clear hrel
      go_wp2_with fail
      go_meet
      exact HI.out
  case rest =>
   obtain⟨is,lS,bad2,hI1,hI2⟩:=hcut
   have HI2:=zH hI2
   have HL0:Hid (LpAt 4 1 dm B r lb l any bad unt w hdc dm' ps Q0 lS bad2 unt0 u11 is wc.heap.size 0 (.slice none 0 0) [] Q0 lS bad2 unt0 wc):=LpAt.start hI1
   obtain⟨wS,hwS⟩:∃wS,wS=wc.heap.size:=⟨_,rfl⟩
   rw[←hwS] at HL0
   obtain⟨la,lc,hu11⟩:=slice_shape hI1.own
   obtain⟨ln,hln⟩:∃ln,ln=is.length:=⟨_,rfl⟩
   rw[←hln] at hu11
   subst hu11
   obtain⟨i0,hi0,hz0,hz1,hz2⟩:=info_parts info27
   clear hI1 hI2 hwS hln HB
   go_wp2_with fail
   go_loopw [14] (fun iv wr=>∃(i:Nat) (kv:Value) (kids:List G) (Q:List Int) (li:List UInt8) (badi unti:Bool),i≤n∧iv=.int .i64 i∧Hid (LpAt 4 1 dm B r lb l any bad unt w hdc dm' ps Q0 lS bad2 unt0 (.slice la ln lc) is wS i kv kids Q li badi unti wr)) (fun iv _=>n - (intOf iv).toNat)
   case atStart=>exact⟨0,_,[],Q0,lS,bad2,unt0,Nat.zero_le _,rfl,HL0.out⟩
   case round =>
    obtain⟨i,kv,kids,Q,li,badi,unti,hi,rfl,hrel⟩:=hrel
    clear HL0
    have c2:=hrel.out.bd.st.inn.c2
    have c3:=hrel.out.bd.st.inn.c3
    obtain⟨g0,g1,g2,g3,gf⟩:=g_cells hrel.out.bd.g
    obtain⟨ka,kc,hkv⟩:=slice_shape hrel.out.own.own.choose_spec
    rw[hrel.out.len] at hkv
    subst hkv
    have EX:Hid ((i=n∨badi=true∨unti=true)→BodyPost B r lb 2 4 ids l any bad unt w ps Q0 dm (.returned (.tuple #[.agg #[.int .i64 4,.int .i64 dm',.slice none 0 0,.slice ka i kc],.slice la ln lc])) ((((wr.setCell ⟨w.heap.size+1,0,none⟩ (.int .i64 4)).setCell ⟨w.heap.size+1,1,none⟩ (.int .i64 dm')).setCell ⟨w.heap.size+1,2,none⟩ (.slice none 0 0)).setCell ⟨w.heap.size+1,3,none⟩ (.slice ka i kc))):=fun hx=>hrel.out.post (KD:=4) (fr4 _ _ _ _ _ _) hx hi hn (by omega) hdm HDM.out HI2.out
    by_cases hlt:i < n
    ·cases badi with
     | true =>
      have hfin:=zH (EX.out (.inr (.inl rfl)))
      clear hrel EX
      go_wp2_with fail
      exact bodyPost_ret (v:=.tuple #[.agg #[.int .i64 4,.int .i64 dm',.slice none 0 0,.slice ka i kc],.slice la ln lc]) (by simp[results,Tryz.f48,go_sem,g0,g1,g2,g3]) rfl hfin.out
     | false =>
      cases unti with
      | true =>
       have hfin:=zH (EX.out (.inr (.inr rfl)))
       clear hrel EX
       go_wp2_with fail
       exact bodyPost_ret (v:=.tuple #[.agg #[.int .i64 4,.int .i64 dm',.slice none 0 0,.slice ka i kc],.slice la ln lc]) (by simp[results,Tryz.f48,go_sem,g0,g1,g2,g3]) rfl hfin.out
      | false =>
       clear EX
       have HK:Hid (BdAt B r lb l any bad unt w hdc #[.int .i64 4,.int .i64 dm',.slice none 0 0,.slice ka i kc] ps Q li false false (wr.alloc (.cells #[.int .i64 2,.int .i64 dm,.slice none 0 0,.slice none 0 0] 27)).drew):=hrel.out.bd.kept (((Fr.refl _ wr).alloc _).drew)
       have C48:Hid (Calls Tryz.prog 48 #[.pointer (some ⟨r,0,none⟩),.int .i64 1,.agg #[.int .i64 hk,.int .i64 dm,.slice (some ⟨pb,po,none⟩) m pc,em,ix,bx],.bool false,.slice (some ⟨lb,0,none⟩) m m] (wr.alloc (.cells #[.int .i64 2,.int .i64 dm,.slice none 0 0,.slice none 0 0] 27)).drew (BodyPost B r lb 1 1 false li any false false (wr.alloc (.cells #[.int .i64 2,.int .i64 dm,.slice none 0 0,.slice none 0 0] 27)).drew ps Q dm)) :=
        body_pt B r lb false li any false false _ hk dm em ix bx pb po pc m ps Q (by have:=HK.out.size;omega) hlB hne hdm HM.out HK.out.st.inn HK.out.row HK.out.qlen HK.out.qb hps hps2 HPB.out (HK.out.precs HPV.out)
       obtain⟨d0,d1,d2,d3,d4,d5⟩:=hd_cells (by rw[←HHDC.out];exact HK.out.hd)
       obtain⟨e0,e1,e2,e3,e4,e5⟩:=hd_cells (by rw[←HHDC.out];exact hrel.out.bd.hd)
       have HKD:Hid (∀e w2,BodyPost B r lb 1 1 false li any false false (wr.alloc (.cells #[.int .i64 2,.int .i64 dm,.slice none 0 0,.slice none 0 0] 27)).drew ps Q dm e w2→_):=fun e w2 hp=>kd_body (KD:=4) hrel.out.bd ⟨by decide,by decide,by decide,by decide⟩ (ki:=1) rfl hp
       have H38:=zH kid38_4
       clear g0 g1 g2 g3 gf
       go_upto_region 20 with fail
       go_region_with (first|(go_at_call 38;refine (H38.out _).mono ?_;rintro e wq ⟨rfl,rfl⟩)|(go_at_call 48;refine C48.out.mono ?_;rintro e w2 hp;obtain⟨c1,na,nt,nc,ma,mt,mc,lv,rfl,kb0,x,Q2,l2,bad5,unt5,hk5⟩:=HKD.out _ _ hp;clear hp;have HK5:=zH hk5;clear hk5;obtain⟨j0,j1,j2,j3,jf⟩:=g_cells kb0))
       all_goals
        obtain⟨w5,hw5⟩:∃w5,w5=(((w2.setCell ⟨wr.heap.size,0,none⟩ (.int .i64 1)).setCell ⟨wr.heap.size,1,none⟩ (.int .i64 c1)).setCell ⟨wr.heap.size,2,none⟩ (.slice na nt nc)).setCell ⟨wr.heap.size,3,none⟩ (.slice ma mt mc):=⟨_,rfl⟩
        rw[←hw5] at HK5 ⊢
        clear hw5 j0 j1 j2 j3 jf kb0 d0 d1 d2 d3 d4 d5 e0 e1 e2 e3 e4 e5 HKD C48 HK
        obtain⟨cs,ow,nx⟩:=hrel.out.next HK5.out
        have OW:=zH ow
        have NX:=zH nx
        obtain⟨g0,g1,g2,g3,gf⟩:=g_cells HK5.out.bd.g
        obtain⟨j0,j1,j2,j3,jf⟩:=g_cells HK5.out.blk
        have K3:Hid (i+1≤maxLen):=by show _≤_;unfold maxLen;omega
        have K4:Hid ((i+1)*64≤140737488355328):=by show _≤_;omega
        have K5:Hid (wS≤(w5.alloc (.cells #[.int .i64 1,.int .i64 c1,.slice na nt nc,.slice ma mt mc] 27)).heap.size):=by
         show _≤(w5.heap.push _).size
         rw[Array.size_push]
         have:=HK5.out.fr.size
         have:=hrel.out.ws.2
         omega
        have K7:Hid ((w5.alloc (.cells #[.int .i64 1,.int .i64 c1,.slice na nt nc,.slice ma mt mc] 27)).ownsRow wS 27 4 (.slice ka i kc) i cs):=OW.out.alloc _
        have H1C:Hid (∀u∈[.int .i64 1,.int .i64 c1,.slice na nt nc,.slice ma mt mc],Value.oneCell' u=true):=by
         intro u hu
         simp only[List.mem_cons,List.not_mem_nil,or_false] at hu
         rcases hu with rfl|rfl|rfl|rfl<;>rfl
        clear ow nx hrel HK5
        go_upto_region 17 with (at_builtin;refine wpList_append_own_at _ rfl _ _ 25 rfl wS 27 i0 (.agg #[.int .i64 0,.int .i64 0,.slice none 0 0,.slice none 0 0]) 4 64 Tryz.underlying25 hi0 hz0 hz1 hz2 rfl (by decide) _ i cs rfl K7.out ⟨_,0,none⟩ 1 1 [.int .i64 1,.int .i64 c1,.slice na nt nc,.slice ma mt mc] rfl rfl (cell4_new _ _ _ _ _ _) H1C.out K3.out K4.out K5.out ?_;intro v' w7 hown1 hgrow1 _ hat;obtain⟨g6,cap6,rfl,_,_⟩:=own_capE hown1 (Nat.succ_pos _);have HH:=zH (NX.out _ _ _ hown1 hgrow1 hat);clear hown1 hgrow1 hat;obtain⟨p0,p1,p2,p3,pf⟩:=g_cells HH.out.1)
        clear p0 p1 p2 p3 pf g0 g1 g2 g3 gf j0 j1 j2 j3 jf OW NX K7
        go_wp2_with fail
        go_roundw
        case rel=>exact⟨i+1,_,_,_,_,_,_,by omega,by go_num,HH.out.2⟩
        case measure=>simp[intOf];omega
    ·have hfin:=zH (EX.out (.inl (by omega)))
     clear hrel EX
     go_wp2_with fail
     exact bodyPost_ret (v:=.tuple #[.agg #[.int .i64 4,.int .i64 dm',.slice none 0 0,.slice ka i kc],.slice la ln lc]) (by simp[results,Tryz.f48,go_sem,g0,g1,g2,g3]) rfl hfin.out
theorem body_5(B r lb:Nat)(ids:Bool)(l:List UInt8)(any bad unt:Bool)(w:World)(hk dm:Nat)(em ix bx:Value)(pb po pc m:Nat)(ps Q0:List Int)(hB:B≤w.heap.size)(hlB:B≤lb)(hne:r≠lb)(hdm:dm≤3)(hm:m=ps.length)
  (hR:RIn (· < B) r w l any bad unt) (hL:RowI lb w Q0) (hQ:Q0.length=ps.length) (hq:∀q∈Q0,-9007199254740992≤q∧q≤9007199254740992) (hps:ps.length≤4) (hps2:2≤ps.length) (hpb:∀p∈ps,-8≤p∧p≤7)
  (hpv:PrecsAt (fun b=>¬RL r lb b) w (.slice (some ⟨pb,po,none⟩) m pc) ps) :
  Calls Tryz.prog 48 #[.pointer (some ⟨r,0,none⟩),.int .i64 5,.agg #[.int .i64 hk,.int .i64 dm,.slice (some ⟨pb,po,none⟩) m pc,em,ix,bx],.bool ids,.slice (some ⟨lb,0,none⟩) m m] w (BodyPost B r lb 2 5 ids l any bad unt w ps Q0 dm):=by
 obtain⟨w0,hw0⟩:∃w0,w0=(w.alloc (.cells (hdv hk dm pb po pc m em ix bx) 89)).alloc (.cells #[.int .i64 0,.int .i64 0,.slice none 0 0,.slice none 0 0] 27):=⟨_,rfl⟩
 obtain⟨hdc,hhdc⟩:∃hdc,hdc=hdv hk dm pb po pc m em ix bx:=⟨_,rfl⟩
 have HHDC:=zH hhdc
 have H0:Hid (BdAt B r lb l any bad unt w hdc #[.int .i64 0,.int .i64 0,.slice none 0 0,.slice none 0 0] ps Q0 l bad unt w0):=by rw[hw0,hhdc];exact BdAt.start hB hR hL hQ hq
 have H1:Hid (BdAt B r lb l any bad unt w hdc #[.int .i64 5,.int .i64 dm,.slice none 0 0,.slice none 0 0] ps Q0 l bad unt ((((w0.setCell ⟨w.heap.size+1,0,none⟩ (.int .i64 5)).setCell ⟨w.heap.size+1,1,none⟩ (.int .i64 dm)).setCell ⟨w.heap.size+1,2,none⟩ (.slice none 0 0)).setCell ⟨w.heap.size+1,3,none⟩ (.slice none 0 0))):=((H0.out.setG 0 (.int .i64 5)).setG 1 (.int .i64 dm) |>.setG 2 (.slice none 0 0) |>.setG 3 (.slice none 0 0))
 have HM:=zH hm
 have HPV:=zH hpv
 have HQ:=zH hQ
 have HQB:=zH hq
 have HPB:=zH hpb
 obtain⟨w1,hw1⟩:∃w1,w1=(((w0.setCell ⟨w.heap.size+1,0,none⟩ (.int .i64 5)).setCell ⟨w.heap.size+1,1,none⟩ (.int .i64 dm)).setCell ⟨w.heap.size+1,2,none⟩ (.slice none 0 0)).setCell ⟨w.heap.size+1,3,none⟩ (.slice none 0 0):=⟨_,rfl⟩
 rw[←hw1] at H1
 have HW0:=zH hw0
 have HW1:=zH hw1
 have h0:w0.cell? ⟨w.heap.size,1,none⟩=some (.int .i64 dm):=by rw[zC H0.out.hd,hhdc];rfl
 obtain⟨g0,g1,g2,g3,gf⟩:=g_cells H0.out.g
 have H109:Hid (∀l bad unt w,RIn (· < B) r w l any bad unt→Calls Tryz.prog 109 #[.pointer (some ⟨r,0,none⟩)] w fun e w'=>∃(z:Nat) (l':List UInt8) (bad':Bool),e=.returned (.int .u64 z)∧Hid (NumOf (· < B) r l any bad unt w z l' bad' w')):=fun l bad unt w h=>numOf h
 clear hm hw0 hw1 hpv hQ hR hL hhdc hq hpb
 go_enter Tryz.func48,Tryz.ntmps48
 go_upto_region 1 with fail
 have e0:(w.alloc (.cells #[.int .i64 hk,.int .i64 dm,.slice (some ⟨pb,po,none⟩) m pc,em,ix,bx] 89)).alloc (.cells #[.int .i64 0,.int .i64 0,.slice none 0 0,.slice none 0 0] 27)=w0:=HW0.out.symm
 rw[e0]
 clear e0
 go_upto_region 8 with fail
 rw[←HW1.out]
 clear h0 g0 g1 g2 g3 gf H0
 have C113:Hid (Calls Tryz.prog 113 #[.pointer (some ⟨r,0,none⟩)] w1 (CountPost (· < B) r l any bad unt w1)):=count113 _ r l any bad unt _ H1.out.st.inn
 go_upto_region 9 with (go_at_call 113;refine C113.out.mono ?_;rintro e wa ⟨n,l0,bad0,unt0,rfl,h1⟩)
 have hn:=h1.out.1
 have HA:=zH (H1.out.stepR hne h1.out.2.1)
 have HUV:=zH h1.out.2.2
 clear C113 h1
 obtain⟨dm',hdm'⟩:∃d:Nat,d=if n=0 then 0 else dm:=⟨_,rfl⟩
 have HDM:=zH hdm'
 clear hdm'
 obtain⟨g0,g1,g2,g3,gf⟩:=g_cells HA.out.g
 go_upto_if 41 with fail
 go_cut [] from 42 to 42 (fun wr=>Hid (BdAt B r lb l any bad unt w hdc #[.int .i64 5,.int .i64 dm',.slice none 0 0,.slice none 0 0] ps Q0 l0 bad0 unt0 wr))
 case first =>
  rcases Nat.eq_zero_or_pos n with hz|hz
  ·have hd0:dm'=0:=by rw[HDM.out,if_pos hz]
   subst hz
   have HS:=zH (HA.out.setG 1 (.int .i64 0))
   have HD0:=zH hd0
   clear hd0
   go_wp2_with fail
   go_meet
   show BdAt _ _ _ _ _ _ _ _ _ _ _ _ _ _ _ _
   rw[HD0.out]
   exact HS.out
  ·have hd0:dm'=dm:=by rw[HDM.out,if_neg (by omega)]
   have HD0:=zH hd0
   clear hd0
   go_wp2_with fail
   go_meet
   show BdAt _ _ _ _ _ _ _ _ _ _ _ _ _ _ _ _
   rw[HD0.out]
   exact HA.out
 case rest =>
  have HB:=hcut
  clear hcut HA g0 g1 g2 g3 gf
  go_upto_block 0 with fail
  go_cut [11,13] from 43 to 67 (fun lv iv wr=>IdDone 5 n ids B r lb l any bad unt w hdc #[.int .i64 5,.int .i64 dm',.slice none 0 0,.slice none 0 0] ps Q0 l0 bad0 unt0 lv wr)
  case first =>
   cases ids with
   | false =>
    have HI:Hid (IdDone 5 n false B r lb l any bad unt w hdc #[.int .i64 5,.int .i64 dm',.slice none 0 0,.slice none 0 0] ps Q0 l0 bad0 unt0 (.slice none 0 0) wc):=⟨[],l0,bad0,IdAt.start HB.out,fun h1 h2=>⟨HUV.out h1 h2,fun _=>by simp[IdsP],fun _=>⟨rfl,rfl⟩⟩⟩
    clear HB HUV
    go_wp2_with fail
    go_loopw [11,13] (fun lv iv wr=>lv=.slice none 0 0∧iv=.int .i64 0∧wr=wc) (fun _ _ _=>0)
    case atStart=>exact⟨rfl,rfl,rfl⟩
    case round =>
     obtain⟨hl,hi,hwr⟩:=hrel
     subst hl hi hwr
     rcases Nat.eq_zero_or_pos n with hz|hz
     ·subst hz
      go_wp2_with fail
      go_meet
      exact HI.out
     ·go_wp2_with fail
      go_meet
      exact HI.out
   | true =>
    obtain⟨j0,hj0,jz0,jz1,jz2⟩:=info_parts info2
    have H7:=zH h7w
    have HS:=zH (IdAt.start HB.out)
    clear HB
    go_wp2_with fail
    go_loopw [11,13] (fun lv iv wr=>∃(i:Nat) (v:Value) (is:List Int) (li:List UInt8) (badi:Bool),i≤n∧iv=.int .i64 i∧lv=v∧Hid (IdAt B r lb l any bad unt w hdc #[.int .i64 5,.int .i64 dm',.slice none 0 0,.slice none 0 0] ps Q0 l0 bad0 unt0 i v is li badi wr)) (fun _ iv _=>n - (intOf iv).toNat)
    case atStart=>exact⟨0,_,[],l0,bad0,Nat.zero_le _,rfl,rfl,HS.out⟩
    case round =>
     obtain⟨i,v,is,li,badi,hi,rfl,rfl,hrel⟩:=hrel
     clear HS
     have c2:=hrel.out.bd.st.inn.c2
     by_cases hlt:i < n
     ·cases badi with
      | true =>
       have HI:Hid (IdDone 5 n true B r lb l any bad unt w hdc #[.int .i64 5,.int .i64 dm',.slice none 0 0,.slice none 0 0] ps Q0 l0 bad0 unt0 u11 wr):=⟨is,li,true,by rw[hrel.out.len];exact hrel.out,fun h=>by cases h⟩
       clear hrel
       go_wp2_with fail
       go_meet
       exact HI.out
      | false =>
       have C9:=zH (H109.out _ _ _ _ hrel.out.bd.st.inn)
       have KN:∀z l2 bad2 wa,Hid (NumOf (· < B) r li any false unt0 wr z l2 bad2 wa)→Hid (wa.ownsRow (w.heap.size+2) 2 1 u11 i (is.map iv)∧w.heap.size+2≤wa.heap.size∧∀(o:Obj) (w7:World) (v':Value),w7.ownsRow (w.heap.size+2) 2 1 v' (i+1) (is.map iv++[iv (unz z)])→(wa.alloc o).grownBy w7 u11.ownBlock→IdAt B r lb l any bad unt w hdc #[.int .i64 5,.int .i64 dm',.slice none 0 0,.slice none 0 0] ps Q0 l0 bad0 unt0 (i+1) v' (is++[unz z]) l2 bad2 w7):=fun z l2 bad2 wa h=>hrel.out.next hne h.out
       have HKN:=zH KN
       have K3:Hid (i+1≤maxLen):=by show _≤_;unfold maxLen;omega
       have K4:Hid ((i+1)*8≤140737488355328):=by show _≤_;omega
       have K5:Hid (∀(wa:World) (d:Int),w.heap.size+2≤wa.heap.size→w.heap.size+2≤(wa.alloc (.cells #[iv d] 2)).heap.size):=fun wa d h=>by show _≤(wa.heap.push _).size;rw[Array.size_push];omega
       clear KN hrel
       go_wp2_with first|(go_at_call 109;refine C9.out.mono ?_;rintro e wa ⟨z,l2,bad2,rfl,h9⟩)|(go_at_call 7;refine (H7.out z h9.out.lt _).mono ?_;rintro e wb ⟨d,rfl,hd,rfl⟩)|(at_builtin;refine wpList_append_own _ rfl _ _ 28 rfl (w.heap.size+2) 2 j0 (.int .i64 0) 1 8 Tryz.underlying28 hj0 jz0 jz1 jz2 rfl (by decide) _ i (is.map iv) rfl ((HKN.out _ _ _ _ h9).out.1.alloc _) ⟨_,0,none⟩ 1 1 [iv d] rfl rfl (cell_one_new _ _ _) (one_one _ rfl) K3.out K4.out (K5.out _ _ (HKN.out _ _ _ _ h9).out.2.1) ?_;intro v' w5 hown1 hgrow1 _;have HX:=zH ((HKN.out _ _ _ _ h9).out.2.2 _ _ _ (by rw[←hd.out.1];exact hown1) hgrow1);clear hown1 hgrow1;refine Hid.out ?_)
       refine zH ?_
       go_wp2_with fail
       go_roundw
       case rel=>exact⟨i+1,_,_,_,_,by omega,by go_num,rfl,HX.out⟩
       case measure=>simp[intOf];omega
     ·have HI:Hid (IdDone 5 n true B r lb l any bad unt w hdc #[.int .i64 5,.int .i64 dm',.slice none 0 0,.slice none 0 0] ps Q0 l0 bad0 unt0 u11 wr):=⟨is,li,badi,by rw[hrel.out.len];exact hrel.out,fun h1 h2=>⟨HUV.out (hrel.out.ok h1 h2).1 h2,fun _=>by
       unfold IdsP
       rw[if_pos rfl]
       exact⟨(hrel.out.ok h1 h2).2,by have:=hrel.out.len;omega⟩,fun h=>by cases h⟩⟩
      clear hrel
      go_wp2_with fail
      go_meet
      exact HI.out
  case rest =>
   obtain⟨is,lS,bad2,hI1,hI2⟩:=hcut
   have HI2:=zH hI2
   have HL0:Hid (LpAt 5 1 dm B r lb l any bad unt w hdc dm' ps Q0 lS bad2 unt0 u11 is wc.heap.size 0 (.slice none 0 0) [] Q0 lS bad2 unt0 wc):=LpAt.start hI1
   obtain⟨wS,hwS⟩:∃wS,wS=wc.heap.size:=⟨_,rfl⟩
   rw[←hwS] at HL0
   obtain⟨la,lc,hu11⟩:=slice_shape hI1.own
   obtain⟨ln,hln⟩:∃ln,ln=is.length:=⟨_,rfl⟩
   rw[←hln] at hu11
   subst hu11
   obtain⟨i0,hi0,hz0,hz1,hz2⟩:=info_parts info27
   clear hI1 hI2 hwS hln HB
   go_wp2_with fail
   go_loopw [14] (fun iv wr=>∃(i:Nat) (kv:Value) (kids:List G) (Q:List Int) (li:List UInt8) (badi unti:Bool),i≤n∧iv=.int .i64 i∧Hid (LpAt 5 1 dm B r lb l any bad unt w hdc dm' ps Q0 lS bad2 unt0 (.slice la ln lc) is wS i kv kids Q li badi unti wr)) (fun iv _=>n - (intOf iv).toNat)
   case atStart=>exact⟨0,_,[],Q0,lS,bad2,unt0,Nat.zero_le _,rfl,HL0.out⟩
   case round =>
    obtain⟨i,kv,kids,Q,li,badi,unti,hi,rfl,hrel⟩:=hrel
    clear HL0
    have c2:=hrel.out.bd.st.inn.c2
    have c3:=hrel.out.bd.st.inn.c3
    obtain⟨g0,g1,g2,g3,gf⟩:=g_cells hrel.out.bd.g
    obtain⟨ka,kc,hkv⟩:=slice_shape hrel.out.own.own.choose_spec
    rw[hrel.out.len] at hkv
    subst hkv
    have EX:Hid ((i=n∨badi=true∨unti=true)→BodyPost B r lb 2 5 ids l any bad unt w ps Q0 dm (.returned (.tuple #[.agg #[.int .i64 5,.int .i64 dm',.slice none 0 0,.slice ka i kc],.slice la ln lc])) ((((wr.setCell ⟨w.heap.size+1,0,none⟩ (.int .i64 5)).setCell ⟨w.heap.size+1,1,none⟩ (.int .i64 dm')).setCell ⟨w.heap.size+1,2,none⟩ (.slice none 0 0)).setCell ⟨w.heap.size+1,3,none⟩ (.slice ka i kc))):=fun hx=>hrel.out.post (KD:=5) (fr4 _ _ _ _ _ _) hx hi hn (by omega) hdm HDM.out HI2.out
    by_cases hlt:i < n
    ·cases badi with
     | true =>
      have hfin:=zH (EX.out (.inr (.inl rfl)))
      clear hrel EX
      go_wp2_with fail
      exact bodyPost_ret (v:=.tuple #[.agg #[.int .i64 5,.int .i64 dm',.slice none 0 0,.slice ka i kc],.slice la ln lc]) (by simp[results,Tryz.f48,go_sem,g0,g1,g2,g3]) rfl hfin.out
     | false =>
      cases unti with
      | true =>
       have hfin:=zH (EX.out (.inr (.inr rfl)))
       clear hrel EX
       go_wp2_with fail
       exact bodyPost_ret (v:=.tuple #[.agg #[.int .i64 5,.int .i64 dm',.slice none 0 0,.slice ka i kc],.slice la ln lc]) (by simp[results,Tryz.f48,go_sem,g0,g1,g2,g3]) rfl hfin.out
      | false =>
       clear EX
       have HK:Hid (BdAt B r lb l any bad unt w hdc #[.int .i64 5,.int .i64 dm',.slice none 0 0,.slice ka i kc] ps Q li false false (wr.alloc (.cells #[.int .i64 2,.int .i64 dm,.slice none 0 0,.slice none 0 0] 27)).drew):=hrel.out.bd.kept (((Fr.refl _ wr).alloc _).drew)
       have C48:Hid (Calls Tryz.prog 48 #[.pointer (some ⟨r,0,none⟩),.int .i64 2,.agg #[.int .i64 hk,.int .i64 dm,.slice (some ⟨pb,po,none⟩) m pc,em,ix,bx],.bool false,.slice (some ⟨lb,0,none⟩) m m] (wr.alloc (.cells #[.int .i64 2,.int .i64 dm,.slice none 0 0,.slice none 0 0] 27)).drew (BodyPost B r lb 1 2 false li any false false (wr.alloc (.cells #[.int .i64 2,.int .i64 dm,.slice none 0 0,.slice none 0 0] 27)).drew ps Q dm)) :=
        body_ln B r lb false li any false false _ hk dm em ix bx pb po pc m ps Q (by have:=HK.out.size;omega) hlB hne hdm HM.out HK.out.st.inn HK.out.row HK.out.qlen HK.out.qb hps hps2 HPB.out (HK.out.precs HPV.out)
       obtain⟨d0,d1,d2,d3,d4,d5⟩:=hd_cells (by rw[←HHDC.out];exact HK.out.hd)
       obtain⟨e0,e1,e2,e3,e4,e5⟩:=hd_cells (by rw[←HHDC.out];exact hrel.out.bd.hd)
       have HKD:Hid (∀e w2,BodyPost B r lb 1 2 false li any false false (wr.alloc (.cells #[.int .i64 2,.int .i64 dm,.slice none 0 0,.slice none 0 0] 27)).drew ps Q dm e w2→_):=fun e w2 hp=>kd_body (KD:=5) hrel.out.bd ⟨by decide,by decide,by decide,by decide⟩ (ki:=2) rfl hp
       have H38:=zH kid38_5
       clear g0 g1 g2 g3 gf
       go_upto_region 20 with fail
       go_region_with (first|(go_at_call 38;refine (H38.out _).mono ?_;rintro e wq ⟨rfl,rfl⟩)|(go_at_call 48;refine C48.out.mono ?_;rintro e w2 hp;obtain⟨c1,na,nt,nc,ma,mt,mc,lv,rfl,kb0,x,Q2,l2,bad5,unt5,hk5⟩:=HKD.out _ _ hp;clear hp;have HK5:=zH hk5;clear hk5;obtain⟨j0,j1,j2,j3,jf⟩:=g_cells kb0))
       all_goals
        obtain⟨w5,hw5⟩:∃w5,w5=(((w2.setCell ⟨wr.heap.size,0,none⟩ (.int .i64 2)).setCell ⟨wr.heap.size,1,none⟩ (.int .i64 c1)).setCell ⟨wr.heap.size,2,none⟩ (.slice na nt nc)).setCell ⟨wr.heap.size,3,none⟩ (.slice ma mt mc):=⟨_,rfl⟩
        rw[←hw5] at HK5 ⊢
        clear hw5 j0 j1 j2 j3 jf kb0 d0 d1 d2 d3 d4 d5 e0 e1 e2 e3 e4 e5 HKD C48 HK
        obtain⟨cs,ow,nx⟩:=hrel.out.next HK5.out
        have OW:=zH ow
        have NX:=zH nx
        obtain⟨g0,g1,g2,g3,gf⟩:=g_cells HK5.out.bd.g
        obtain⟨j0,j1,j2,j3,jf⟩:=g_cells HK5.out.blk
        have K3:Hid (i+1≤maxLen):=by show _≤_;unfold maxLen;omega
        have K4:Hid ((i+1)*64≤140737488355328):=by show _≤_;omega
        have K5:Hid (wS≤(w5.alloc (.cells #[.int .i64 2,.int .i64 c1,.slice na nt nc,.slice ma mt mc] 27)).heap.size):=by
         show _≤(w5.heap.push _).size
         rw[Array.size_push]
         have:=HK5.out.fr.size
         have:=hrel.out.ws.2
         omega
        have K7:Hid ((w5.alloc (.cells #[.int .i64 2,.int .i64 c1,.slice na nt nc,.slice ma mt mc] 27)).ownsRow wS 27 4 (.slice ka i kc) i cs):=OW.out.alloc _
        have H1C:Hid (∀u∈[.int .i64 2,.int .i64 c1,.slice na nt nc,.slice ma mt mc],Value.oneCell' u=true):=by
         intro u hu
         simp only[List.mem_cons,List.not_mem_nil,or_false] at hu
         rcases hu with rfl|rfl|rfl|rfl<;>rfl
        clear ow nx hrel HK5
        go_upto_region 17 with (at_builtin;refine wpList_append_own_at _ rfl _ _ 25 rfl wS 27 i0 (.agg #[.int .i64 0,.int .i64 0,.slice none 0 0,.slice none 0 0]) 4 64 Tryz.underlying25 hi0 hz0 hz1 hz2 rfl (by decide) _ i cs rfl K7.out ⟨_,0,none⟩ 1 1 [.int .i64 2,.int .i64 c1,.slice na nt nc,.slice ma mt mc] rfl rfl (cell4_new _ _ _ _ _ _) H1C.out K3.out K4.out K5.out ?_;intro v' w7 hown1 hgrow1 _ hat;obtain⟨g6,cap6,rfl,_,_⟩:=own_capE hown1 (Nat.succ_pos _);have HH:=zH (NX.out _ _ _ hown1 hgrow1 hat);clear hown1 hgrow1 hat;obtain⟨p0,p1,p2,p3,pf⟩:=g_cells HH.out.1)
        clear p0 p1 p2 p3 pf g0 g1 g2 g3 gf j0 j1 j2 j3 jf OW NX K7
        go_wp2_with fail
        go_roundw
        case rel=>exact⟨i+1,_,_,_,_,_,_,by omega,by go_num,HH.out.2⟩
        case measure=>simp[intOf];omega
    ·have hfin:=zH (EX.out (.inl (by omega)))
     clear hrel EX
     go_wp2_with fail
     exact bodyPost_ret (v:=.tuple #[.agg #[.int .i64 5,.int .i64 dm',.slice none 0 0,.slice ka i kc],.slice la ln lc]) (by simp[results,Tryz.f48,go_sem,g0,g1,g2,g3]) rfl hfin.out
theorem body_6(B r lb:Nat)(ids:Bool)(l:List UInt8)(any bad unt:Bool)(w:World)(hk dm:Nat)(em ix bx:Value)(pb po pc m:Nat)(ps Q0:List Int)(hB:B≤w.heap.size)(hrB:B≤r)(hlB:B≤lb)(hne:r≠lb)(hdm:dm≤3)(hm:m=ps.length)
  (hR:RIn (· < B) r w l any bad unt) (hL:RowI lb w Q0) (hQ:Q0.length=ps.length) (hq:∀q∈Q0,-9007199254740992≤q∧q≤9007199254740992) (hps:ps.length≤4) (hps2:2≤ps.length) (hpb:∀p∈ps,-8≤p∧p≤7)
  (hpv:PrecsAt (fun b=>¬RL r lb b) w (.slice (some ⟨pb,po,none⟩) m pc) ps) :
  Calls Tryz.prog 48 #[.pointer (some ⟨r,0,none⟩),.int .i64 6,.agg #[.int .i64 hk,.int .i64 dm,.slice (some ⟨pb,po,none⟩) m pc,em,ix,bx],.bool ids,.slice (some ⟨lb,0,none⟩) m m] w (BodyPost B r lb 3 6 ids l any bad unt w ps Q0 dm):=by
 obtain⟨w0,hw0⟩:∃w0,w0=(w.alloc (.cells (hdv hk dm pb po pc m em ix bx) 89)).alloc (.cells #[.int .i64 0,.int .i64 0,.slice none 0 0,.slice none 0 0] 27):=⟨_,rfl⟩
 obtain⟨hdc,hhdc⟩:∃hdc,hdc=hdv hk dm pb po pc m em ix bx:=⟨_,rfl⟩
 have HHDC:=zH hhdc
 have H0:Hid (BdAt B r lb l any bad unt w hdc #[.int .i64 0,.int .i64 0,.slice none 0 0,.slice none 0 0] ps Q0 l bad unt w0):=by rw[hw0,hhdc];exact BdAt.start hB hR hL hQ hq
 have H1:Hid (BdAt B r lb l any bad unt w hdc #[.int .i64 6,.int .i64 dm,.slice none 0 0,.slice none 0 0] ps Q0 l bad unt ((((w0.setCell ⟨w.heap.size+1,0,none⟩ (.int .i64 6)).setCell ⟨w.heap.size+1,1,none⟩ (.int .i64 dm)).setCell ⟨w.heap.size+1,2,none⟩ (.slice none 0 0)).setCell ⟨w.heap.size+1,3,none⟩ (.slice none 0 0))):=((H0.out.setG 0 (.int .i64 6)).setG 1 (.int .i64 dm) |>.setG 2 (.slice none 0 0) |>.setG 3 (.slice none 0 0))
 have HM:=zH hm
 have HPV:=zH hpv
 have HQ:=zH hQ
 have HQB:=zH hq
 have HPB:=zH hpb
 obtain⟨w1,hw1⟩:∃w1,w1=(((w0.setCell ⟨w.heap.size+1,0,none⟩ (.int .i64 6)).setCell ⟨w.heap.size+1,1,none⟩ (.int .i64 dm)).setCell ⟨w.heap.size+1,2,none⟩ (.slice none 0 0)).setCell ⟨w.heap.size+1,3,none⟩ (.slice none 0 0):=⟨_,rfl⟩
 rw[←hw1] at H1
 have HW0:=zH hw0
 have HW1:=zH hw1
 have h0:w0.cell? ⟨w.heap.size,1,none⟩=some (.int .i64 dm):=by rw[zC H0.out.hd,hhdc];rfl
 obtain⟨g0,g1,g2,g3,gf⟩:=g_cells H0.out.g
 have H109:Hid (∀l bad unt w,RIn (· < B) r w l any bad unt→Calls Tryz.prog 109 #[.pointer (some ⟨r,0,none⟩)] w fun e w'=>∃(z:Nat) (l':List UInt8) (bad':Bool),e=.returned (.int .u64 z)∧Hid (NumOf (· < B) r l any bad unt w z l' bad' w')):=fun l bad unt w h=>numOf h
 clear hm hw0 hw1 hpv hQ hR hL hhdc hq hpb
 go_enter Tryz.func48,Tryz.ntmps48
 go_upto_region 1 with fail
 have e0:(w.alloc (.cells #[.int .i64 hk,.int .i64 dm,.slice (some ⟨pb,po,none⟩) m pc,em,ix,bx] 89)).alloc (.cells #[.int .i64 0,.int .i64 0,.slice none 0 0,.slice none 0 0] 27)=w0:=HW0.out.symm
 rw[e0]
 clear e0
 go_upto_region 8 with fail
 rw[←HW1.out]
 clear h0 g0 g1 g2 g3 gf H0
 have C113:Hid (Calls Tryz.prog 113 #[.pointer (some ⟨r,0,none⟩)] w1 (CountPost (· < B) r l any bad unt w1)):=count113 _ r l any bad unt _ H1.out.st.inn
 go_upto_region 9 with (go_at_call 113;refine C113.out.mono ?_;rintro e wa ⟨n,l0,bad0,unt0,rfl,h1⟩)
 have hn:=h1.out.1
 have HA:=zH (H1.out.stepR hne h1.out.2.1)
 have HUV:=zH h1.out.2.2
 clear C113 h1
 obtain⟨dm',hdm'⟩:∃d:Nat,d=if n=0 then 0 else dm:=⟨_,rfl⟩
 have HDM:=zH hdm'
 clear hdm'
 obtain⟨g0,g1,g2,g3,gf⟩:=g_cells HA.out.g
 go_upto_if 41 with fail
 go_cut [] from 42 to 42 (fun wr=>Hid (BdAt B r lb l any bad unt w hdc #[.int .i64 6,.int .i64 dm',.slice none 0 0,.slice none 0 0] ps Q0 l0 bad0 unt0 wr))
 case first =>
  rcases Nat.eq_zero_or_pos n with hz|hz
  ·have hd0:dm'=0:=by rw[HDM.out,if_pos hz]
   subst hz
   have HS:=zH (HA.out.setG 1 (.int .i64 0))
   have HD0:=zH hd0
   clear hd0
   go_wp2_with fail
   go_meet
   show BdAt _ _ _ _ _ _ _ _ _ _ _ _ _ _ _ _
   rw[HD0.out]
   exact HS.out
  ·have hd0:dm'=dm:=by rw[HDM.out,if_neg (by omega)]
   have HD0:=zH hd0
   clear hd0
   go_wp2_with fail
   go_meet
   show BdAt _ _ _ _ _ _ _ _ _ _ _ _ _ _ _ _
   rw[HD0.out]
   exact HA.out
 case rest =>
  have HB:=hcut
  clear hcut HA g0 g1 g2 g3 gf
  go_upto_block 0 with fail
  go_cut [11,13] from 43 to 67 (fun lv iv wr=>IdDone 6 n ids B r lb l any bad unt w hdc #[.int .i64 6,.int .i64 dm',.slice none 0 0,.slice none 0 0] ps Q0 l0 bad0 unt0 lv wr)
  case first =>
   cases ids with
   | false =>
    have HI:Hid (IdDone 6 n false B r lb l any bad unt w hdc #[.int .i64 6,.int .i64 dm',.slice none 0 0,.slice none 0 0] ps Q0 l0 bad0 unt0 (.slice none 0 0) wc):=⟨[],l0,bad0,IdAt.start HB.out,fun h1 h2=>⟨HUV.out h1 h2,fun _=>by simp[IdsP],fun _=>⟨rfl,rfl⟩⟩⟩
    clear HB HUV
    go_wp2_with fail
    go_loopw [11,13] (fun lv iv wr=>lv=.slice none 0 0∧iv=.int .i64 0∧wr=wc) (fun _ _ _=>0)
    case atStart=>exact⟨rfl,rfl,rfl⟩
    case round =>
     obtain⟨hl,hi,hwr⟩:=hrel
     subst hl hi hwr
     rcases Nat.eq_zero_or_pos n with hz|hz
     ·subst hz
      go_wp2_with fail
      go_meet
      exact HI.out
     ·go_wp2_with fail
      go_meet
      exact HI.out
   | true =>
    obtain⟨j0,hj0,jz0,jz1,jz2⟩:=info_parts info2
    have H7:=zH h7w
    have HS:=zH (IdAt.start HB.out)
    clear HB
    go_wp2_with fail
    go_loopw [11,13] (fun lv iv wr=>∃(i:Nat) (v:Value) (is:List Int) (li:List UInt8) (badi:Bool),i≤n∧iv=.int .i64 i∧lv=v∧Hid (IdAt B r lb l any bad unt w hdc #[.int .i64 6,.int .i64 dm',.slice none 0 0,.slice none 0 0] ps Q0 l0 bad0 unt0 i v is li badi wr)) (fun _ iv _=>n - (intOf iv).toNat)
    case atStart=>exact⟨0,_,[],l0,bad0,Nat.zero_le _,rfl,rfl,HS.out⟩
    case round =>
     obtain⟨i,v,is,li,badi,hi,rfl,rfl,hrel⟩:=hrel
     clear HS
     have c2:=hrel.out.bd.st.inn.c2
     by_cases hlt:i < n
     ·cases badi with
      | true =>
       have HI:Hid (IdDone 6 n true B r lb l any bad unt w hdc #[.int .i64 6,.int .i64 dm',.slice none 0 0,.slice none 0 0] ps Q0 l0 bad0 unt0 u11 wr):=⟨is,li,true,by rw[hrel.out.len];exact hrel.out,fun h=>by cases h⟩
       clear hrel
       go_wp2_with fail
       go_meet
       exact HI.out
      | false =>
       have C9:=zH (H109.out _ _ _ _ hrel.out.bd.st.inn)
       have KN:∀z l2 bad2 wa,Hid (NumOf (· < B) r li any false unt0 wr z l2 bad2 wa)→Hid (wa.ownsRow (w.heap.size+2) 2 1 u11 i (is.map iv)∧w.heap.size+2≤wa.heap.size∧∀(o:Obj) (w7:World) (v':Value),w7.ownsRow (w.heap.size+2) 2 1 v' (i+1) (is.map iv++[iv (unz z)])→(wa.alloc o).grownBy w7 u11.ownBlock→IdAt B r lb l any bad unt w hdc #[.int .i64 6,.int .i64 dm',.slice none 0 0,.slice none 0 0] ps Q0 l0 bad0 unt0 (i+1) v' (is++[unz z]) l2 bad2 w7):=fun z l2 bad2 wa h=>hrel.out.next hne h.out
       have HKN:=zH KN
       have K3:Hid (i+1≤maxLen):=by show _≤_;unfold maxLen;omega
       have K4:Hid ((i+1)*8≤140737488355328):=by show _≤_;omega
       have K5:Hid (∀(wa:World) (d:Int),w.heap.size+2≤wa.heap.size→w.heap.size+2≤(wa.alloc (.cells #[iv d] 2)).heap.size):=fun wa d h=>by show _≤(wa.heap.push _).size;rw[Array.size_push];omega
       clear KN hrel
       go_wp2_with first|(go_at_call 109;refine C9.out.mono ?_;rintro e wa ⟨z,l2,bad2,rfl,h9⟩)|(go_at_call 7;refine (H7.out z h9.out.lt _).mono ?_;rintro e wb ⟨d,rfl,hd,rfl⟩)|(at_builtin;refine wpList_append_own _ rfl _ _ 28 rfl (w.heap.size+2) 2 j0 (.int .i64 0) 1 8 Tryz.underlying28 hj0 jz0 jz1 jz2 rfl (by decide) _ i (is.map iv) rfl ((HKN.out _ _ _ _ h9).out.1.alloc _) ⟨_,0,none⟩ 1 1 [iv d] rfl rfl (cell_one_new _ _ _) (one_one _ rfl) K3.out K4.out (K5.out _ _ (HKN.out _ _ _ _ h9).out.2.1) ?_;intro v' w5 hown1 hgrow1 _;have HX:=zH ((HKN.out _ _ _ _ h9).out.2.2 _ _ _ (by rw[←hd.out.1];exact hown1) hgrow1);clear hown1 hgrow1;refine Hid.out ?_)
       refine zH ?_
       go_wp2_with fail
       go_roundw
       case rel=>exact⟨i+1,_,_,_,_,by omega,by go_num,rfl,HX.out⟩
       case measure=>simp[intOf];omega
     ·have HI:Hid (IdDone 6 n true B r lb l any bad unt w hdc #[.int .i64 6,.int .i64 dm',.slice none 0 0,.slice none 0 0] ps Q0 l0 bad0 unt0 u11 wr):=⟨is,li,badi,by rw[hrel.out.len];exact hrel.out,fun h1 h2=>⟨HUV.out (hrel.out.ok h1 h2).1 h2,fun _=>by
       unfold IdsP
       rw[if_pos rfl]
       exact⟨(hrel.out.ok h1 h2).2,by have:=hrel.out.len;omega⟩,fun h=>by cases h⟩⟩
      clear hrel
      go_wp2_with fail
      go_meet
      exact HI.out
  case rest =>
   obtain⟨is,lS,bad2,hI1,hI2⟩:=hcut
   have HI2:=zH hI2
   have HL0:Hid (LpAt 6 2 dm B r lb l any bad unt w hdc dm' ps Q0 lS bad2 unt0 u11 is wc.heap.size 0 (.slice none 0 0) [] Q0 lS bad2 unt0 wc):=LpAt.start hI1
   obtain⟨wS,hwS⟩:∃wS,wS=wc.heap.size:=⟨_,rfl⟩
   rw[←hwS] at HL0
   obtain⟨la,lc,hu11⟩:=slice_shape hI1.own
   obtain⟨ln,hln⟩:∃ln,ln=is.length:=⟨_,rfl⟩
   rw[←hln] at hu11
   subst hu11
   obtain⟨i0,hi0,hz0,hz1,hz2⟩:=info_parts info27
   clear hI1 hI2 hwS hln HB
   go_wp2_with fail
   go_loopw [14] (fun iv wr=>∃(i:Nat) (kv:Value) (kids:List G) (Q:List Int) (li:List UInt8) (badi unti:Bool),i≤n∧iv=.int .i64 i∧Hid (LpAt 6 2 dm B r lb l any bad unt w hdc dm' ps Q0 lS bad2 unt0 (.slice la ln lc) is wS i kv kids Q li badi unti wr)) (fun iv _=>n - (intOf iv).toNat)
   case atStart=>exact⟨0,_,[],Q0,lS,bad2,unt0,Nat.zero_le _,rfl,HL0.out⟩
   case round =>
    obtain⟨i,kv,kids,Q,li,badi,unti,hi,rfl,hrel⟩:=hrel
    clear HL0
    have c2:=hrel.out.bd.st.inn.c2
    have c3:=hrel.out.bd.st.inn.c3
    obtain⟨g0,g1,g2,g3,gf⟩:=g_cells hrel.out.bd.g
    obtain⟨ka,kc,hkv⟩:=slice_shape hrel.out.own.own.choose_spec
    rw[hrel.out.len] at hkv
    subst hkv
    have EX:Hid ((i=n∨badi=true∨unti=true)→BodyPost B r lb 3 6 ids l any bad unt w ps Q0 dm (.returned (.tuple #[.agg #[.int .i64 6,.int .i64 dm',.slice none 0 0,.slice ka i kc],.slice la ln lc])) ((((wr.setCell ⟨w.heap.size+1,0,none⟩ (.int .i64 6)).setCell ⟨w.heap.size+1,1,none⟩ (.int .i64 dm')).setCell ⟨w.heap.size+1,2,none⟩ (.slice none 0 0)).setCell ⟨w.heap.size+1,3,none⟩ (.slice ka i kc))):=fun hx=>hrel.out.post (KD:=6) (fr4 _ _ _ _ _ _) hx hi hn (by omega) hdm HDM.out HI2.out
    by_cases hlt:i < n
    ·cases badi with
     | true =>
      have hfin:=zH (EX.out (.inr (.inl rfl)))
      clear hrel EX
      go_wp2_with fail
      exact bodyPost_ret (v:=.tuple #[.agg #[.int .i64 6,.int .i64 dm',.slice none 0 0,.slice ka i kc],.slice la ln lc]) (by simp[results,Tryz.f48,go_sem,g0,g1,g2,g3]) rfl hfin.out
     | false =>
      cases unti with
      | true =>
       have hfin:=zH (EX.out (.inr (.inr rfl)))
       clear hrel EX
       go_wp2_with fail
       exact bodyPost_ret (v:=.tuple #[.agg #[.int .i64 6,.int .i64 dm',.slice none 0 0,.slice ka i kc],.slice la ln lc]) (by simp[results,Tryz.f48,go_sem,g0,g1,g2,g3]) rfl hfin.out
      | false =>
       clear EX
       have HK:Hid (BdAt B r lb l any bad unt w hdc #[.int .i64 6,.int .i64 dm',.slice none 0 0,.slice ka i kc] ps Q li false false (wr.alloc (.cells #[.int .i64 2,.int .i64 dm,.slice none 0 0,.slice none 0 0] 27)).drew):=hrel.out.bd.kept (((Fr.refl _ wr).alloc _).drew)
       have C48:Hid (Calls Tryz.prog 48 #[.pointer (some ⟨r,0,none⟩),.int .i64 3,.agg #[.int .i64 hk,.int .i64 dm,.slice (some ⟨pb,po,none⟩) m pc,em,ix,bx],.bool false,.slice (some ⟨lb,0,none⟩) m m] (wr.alloc (.cells #[.int .i64 2,.int .i64 dm,.slice none 0 0,.slice none 0 0] 27)).drew (BodyPost B r lb 2 3 false li any false false (wr.alloc (.cells #[.int .i64 2,.int .i64 dm,.slice none 0 0,.slice none 0 0] 27)).drew ps Q dm)) :=
        body_3 B r lb false li any false false _ hk dm em ix bx pb po pc m ps Q (by have:=HK.out.size;omega) hrB hlB hne hdm HM.out HK.out.st.inn HK.out.row HK.out.qlen HK.out.qb hps hps2 HPB.out (HK.out.precs HPV.out)
       obtain⟨d0,d1,d2,d3,d4,d5⟩:=hd_cells (by rw[←HHDC.out];exact HK.out.hd)
       obtain⟨e0,e1,e2,e3,e4,e5⟩:=hd_cells (by rw[←HHDC.out];exact hrel.out.bd.hd)
       have HKD:Hid (∀e w2,BodyPost B r lb 2 3 false li any false false (wr.alloc (.cells #[.int .i64 2,.int .i64 dm,.slice none 0 0,.slice none 0 0] 27)).drew ps Q dm e w2→_):=fun e w2 hp=>kd_body (KD:=6) hrel.out.bd ⟨by decide,by decide,by decide,by decide⟩ (ki:=3) rfl hp
       have H38:=zH kid38_6
       clear g0 g1 g2 g3 gf
       go_upto_region 20 with fail
       go_region_with (first|(go_at_call 38;refine (H38.out _).mono ?_;rintro e wq ⟨rfl,rfl⟩)|(go_at_call 48;refine C48.out.mono ?_;rintro e w2 hp;obtain⟨c1,na,nt,nc,ma,mt,mc,lv,rfl,kb0,x,Q2,l2,bad5,unt5,hk5⟩:=HKD.out _ _ hp;clear hp;have HK5:=zH hk5;clear hk5;obtain⟨j0,j1,j2,j3,jf⟩:=g_cells kb0))
       all_goals
        obtain⟨w5,hw5⟩:∃w5,w5=(((w2.setCell ⟨wr.heap.size,0,none⟩ (.int .i64 3)).setCell ⟨wr.heap.size,1,none⟩ (.int .i64 c1)).setCell ⟨wr.heap.size,2,none⟩ (.slice na nt nc)).setCell ⟨wr.heap.size,3,none⟩ (.slice ma mt mc):=⟨_,rfl⟩
        rw[←hw5] at HK5 ⊢
        clear hw5 j0 j1 j2 j3 jf kb0 d0 d1 d2 d3 d4 d5 e0 e1 e2 e3 e4 e5 HKD C48 HK
        obtain⟨cs,ow,nx⟩:=hrel.out.next HK5.out
        have OW:=zH ow
        have NX:=zH nx
        obtain⟨g0,g1,g2,g3,gf⟩:=g_cells HK5.out.bd.g
        obtain⟨j0,j1,j2,j3,jf⟩:=g_cells HK5.out.blk
        have K3:Hid (i+1≤maxLen):=by show _≤_;unfold maxLen;omega
        have K4:Hid ((i+1)*64≤140737488355328):=by show _≤_;omega
        have K5:Hid (wS≤(w5.alloc (.cells #[.int .i64 3,.int .i64 c1,.slice na nt nc,.slice ma mt mc] 27)).heap.size):=by
         show _≤(w5.heap.push _).size
         rw[Array.size_push]
         have:=HK5.out.fr.size
         have:=hrel.out.ws.2
         omega
        have K7:Hid ((w5.alloc (.cells #[.int .i64 3,.int .i64 c1,.slice na nt nc,.slice ma mt mc] 27)).ownsRow wS 27 4 (.slice ka i kc) i cs):=OW.out.alloc _
        have H1C:Hid (∀u∈[.int .i64 3,.int .i64 c1,.slice na nt nc,.slice ma mt mc],Value.oneCell' u=true):=by
         intro u hu
         simp only[List.mem_cons,List.not_mem_nil,or_false] at hu
         rcases hu with rfl|rfl|rfl|rfl<;>rfl
        clear ow nx hrel HK5
        go_upto_region 17 with (at_builtin;refine wpList_append_own_at _ rfl _ _ 25 rfl wS 27 i0 (.agg #[.int .i64 0,.int .i64 0,.slice none 0 0,.slice none 0 0]) 4 64 Tryz.underlying25 hi0 hz0 hz1 hz2 rfl (by decide) _ i cs rfl K7.out ⟨_,0,none⟩ 1 1 [.int .i64 3,.int .i64 c1,.slice na nt nc,.slice ma mt mc] rfl rfl (cell4_new _ _ _ _ _ _) H1C.out K3.out K4.out K5.out ?_;intro v' w7 hown1 hgrow1 _ hat;obtain⟨g6,cap6,rfl,_,_⟩:=own_capE hown1 (Nat.succ_pos _);have HH:=zH (NX.out _ _ _ hown1 hgrow1 hat);clear hown1 hgrow1 hat;obtain⟨p0,p1,p2,p3,pf⟩:=g_cells HH.out.1)
        clear p0 p1 p2 p3 pf g0 g1 g2 g3 gf j0 j1 j2 j3 jf OW NX K7
        go_wp2_with fail
        go_roundw
        case rel=>exact⟨i+1,_,_,_,_,_,_,by omega,by go_num,HH.out.2⟩
        case measure=>simp[intOf];omega
    ·have hfin:=zH (EX.out (.inl (by omega)))
     clear hrel EX
     go_wp2_with fail
     exact bodyPost_ret (v:=.tuple #[.agg #[.int .i64 6,.int .i64 dm',.slice none 0 0,.slice ka i kc],.slice la ln lc]) (by simp[results,Tryz.f48,go_sem,g0,g1,g2,g3]) rfl hfin.out
end Go.Proofs.YtnjjgbcmjnfijaaGreatDoor
