/- The law FnHeadWritten: HwD HwH HwE. -/
import Derived.Test.YtejhpdcjafbklaaGreatDoorHwB
set_option linter.all false
set_option maxHeartbeats 16000000
set_option maxRecDepth 8000
namespace Go.Proofs.YtejhpdcjafbklaaGreatDoor
open Go.RowKit
theorem De:((Tryz.prog).info? 26).map (·.size)=some 1:=by kernel_rfl
def cqS(Wr:World)(b:Nat)(An Av A4:Option Addr)(nn cn lv cv n4 c4 ak ae nu:Nat):Nat→Value→World→Prop
 |1,v,_=>v=(.slice Av lv cv)
 |2,v,_=>v= .pointer (some ⟨b,0,none⟩)
 |6,v,_=>v= .int .i64 ak
 |7,v,_=>v= .int .u32 nu
 |36,v,_=>v= .int .u32 nu
 |37,v,_=>v=(.slice Av lv cv)
 |38,v,_=>v= .int .i64 ak
 |39,v,_=>v= .int .i64 ((ak:Int)+1)
 |40,v,_=>v=(.slice Av lv cv)
 |41,v,_=>v= .int .i64 lv
 |42,v,_=>v= .int .i64 ae
 |43,v,_=>v=(.slice A4 n4 c4)
 |44,v,_=>v= .pointer (some ⟨b,15,none⟩)
 |45,v,_=>v= .pointer (some ⟨b,2,none⟩)
 |_,_,_=>True
theorem ML(Wr:World)(b:Nat)(An Av A4:Option Addr)(nn cn lv cv n4 c4 ak ae nu:Nat)(t:Nat)(v:Value)(w1 w2:World)(h:cqS Wr b An Av A4 nn cn lv cv n4 c4 ak ae nu t v w1):cqS Wr b An Av A4 nn cn lv cv n4 c4 ak ae nu t v w2:=by
 unfold cqS at h⊢;split at h<;>exact h
def cqF(Wr:World)(b:Nat)(An Av A4:Option Addr)(nn cn lv cv n4 c4 ak ae nu:Nat)(k:Nat):Option Value:=if(15≤k∧k<16)∨(2≤k∧k<3)then none else(HV.row ⟨5,(.slice An nn cn),(.slice none 0 0),.slice none 0 0,UV.nil,.slice none 0 0,0,.slice none 0 0,.slice none 0 0,.slice none 0 0,.slice none 0 0,0⟩)[k]?
def cqG(Wr:World)(b:Nat)(An Av A4:Option Addr)(nn cn lv cv n4 c4 ak ae nu:Nat)(W:World):Prop:=Kp b Wr W∧BS W b 37 21 (cqF Wr b An Av A4 nn cn lv cv n4 c4 ak ae nu)
def cqZ(Wr:World)(b:Nat)(An Av A4:Option Addr)(nn cn lv cv n4 c4 ak ae nu:Nat)(j:Nat)(W:World):Prop:=if j=9 then BS W b 37 21 (CU 15 (.int .u32 nu:Value).cells.toList)else if j=11 then BS W b 37 21 (CU 2 ((.slice A4 n4 c4):Value).cells.toList)else True
theorem Nd{m t:Tx}{n:Nat}:PHk ⟨5,m,t,[],PU.zero,[],n,[],[],[],[],0⟩:=⟨rfl,fun h=>absurd (show BP 5∨Et 5 from h) (by decide),rfl,fun x h=>(by cases h),fun x h=>(by cases h),fun h=>absurd rfl h⟩
theorem O0(nv v:Value)(m l:Tx)(w:World)(hnv:Bv w nv m)(hv:Bv w v l)(hl:l.length≤1099511627000):
 Calls Tryz.prog 62 #[HV.val ⟨5,nv,(.slice none 0 0),.slice none 0 0,UV.nil,.slice none 0 0,0,.slice none 0 0,.slice none 0 0,.slice none 0 0,.slice none 0 0,0⟩,v] w (Md w fun p=>p.t=5∧PHk p):=by
 have HNV:=Hi hnv;have HVX:=Hi hv;obtain⟨An,cn,rfl⟩:=hnv.form;generalize hmn:m.length=nn at HNV⊢;obtain⟨Av,cv,rfl,h1,h2,h4⟩:=hv;have h3:=h4.1;have HR:=Hi h4;clear h4 hmn hnv
 change Calls _ _ #[.agg #[.int .i64 5,(.slice An nn cn),(.slice none 0 0),(.slice none 0 0),(.slice none 0 0),(.slice none 0 0),.bool false,.bool false,(.slice none 0 0),(.slice none 0 0),(.slice none 0 0),.int .i64 0,(.slice none 0 0),(.slice none 0 0),(.slice none 0 0),.int .u32 0,(.slice none 0 0),(.slice none 0 0),(.slice none 0 0),(.slice none 0 0),.int .i64 0],.slice Av l.length cv] _ _
 go_enter Tryz.func62,Tryz.ntmps62;go_upto_region 1 with fail
 change Code.wp _ _ _ _ ((w.alloc (Obj.cells (HV.row ⟨5,(.slice An nn cn),(.slice none 0 0),.slice none 0 0,UV.nil,.slice none 0 0,0,.slice none 0 0,.slice none 0 0,.slice none 0 0,.slice none 0 0,0⟩) 37)).alloc (Obj.cells HV.nil.row 37))
 have HB1:=Hi (heap_alloc2_old w (Obj.cells (HV.row ⟨5,(.slice An nn cn),(.slice none 0 0),.slice none 0 0,UV.nil,.slice none 0 0,0,.slice none 0 0,.slice none 0 0,.slice none 0 0,.slice none 0 0,0⟩) 37) (Obj.cells HV.nil.row 37))
 have HB2:=Hi (heap_alloc2_new w (Obj.cells (HV.row ⟨5,(.slice An nn cn),(.slice none 0 0),.slice none 0 0,UV.nil,.slice none 0 0,0,.slice none 0 0,.slice none 0 0,.slice none 0 0,.slice none 0 0,0⟩) 37) (Obj.cells HV.nil.row 37))
 have HL0:Hid (Le w ((w.alloc (Obj.cells (HV.row ⟨5,(.slice An nn cn),(.slice none 0 0),.slice none 0 0,UV.nil,.slice none 0 0,0,.slice none 0 0,.slice none 0 0,.slice none 0 0,.slice none 0 0,0⟩) 37)).alloc (Obj.cells HV.nil.row 37))):=Hi (((AC w).alloc _).alloc _)
 generalize hWr:(w.alloc (Obj.cells (HV.row ⟨5,(.slice An nn cn),(.slice none 0 0),.slice none 0 0,UV.nil,.slice none 0 0,0,.slice none 0 0,.slice none 0 0,.slice none 0 0,.slice none 0 0,0⟩) 37)).alloc (Obj.cells HV.nil.row 37)=Wr at HB1 HB2 HL0⊢;generalize hb:w.heap.size=b at HB1 HB2⊢;have HBW:=Hi hb;have hR:=HR.out.le HL0.out;have HRR:=Hi hR;clear hWr hR hb;go_wp2
 go_loopg [6] (l.length) (fun n iv wr=>∃k:Nat,n+k=l.length∧iv= .int .i64 k∧Wr=wr)
 case atStart=>exact⟨0,by omega,rfl,rfl⟩
 case round=>
  obtain⟨ak,hn,rfl,rfl⟩:=hrel;have HN:gk+ak≤l.length∧l.length≤gk+ak:=by omega
  clear hn;go_upto_region 2 with fail
  go_cut [26]from 9 to 28 (fun s26 wx=>∃q:Bool,s26= .bool q∧Wr=wx∧(q=true→ak<l.length))
  case first=>
   by_cases hlt:ak<l.length
   ·obtain⟨bb,oo,rfl,d1⟩:=HRR.out.at_ hlt;generalize(l[ak].toNat:Int)=x at d1;obtain⟨p1,hp1⟩:∃q,((x:Int) != 32)=q:=⟨_,rfl⟩;obtain⟨p2,hp2⟩:∃q,((x:Int) != 9)=q:=⟨_,rfl⟩;cases p1
    ·go_wp2;go_meet;case rel=>exact⟨false,rfl,rfl,by simp⟩
    ·cases p2
     ·go_wp2;go_meet;case rel=>exact⟨false,rfl,rfl,by simp⟩
     ·go_wp2;go_meet;case rel=>exact⟨true,rfl,rfl,fun _=>hlt⟩
   ·go_wp2;go_meet;case rel=>exact⟨false,rfl,rfl,by simp⟩
  case rest=>
  obtain⟨q,rfl,rfl,hqq⟩:=hcut;cases q;case true=>
   have hlt:=hqq rfl;go_wp2;go_roundg (gk-1)
   case measure=>omega
   case rel=>exact⟨ak+1,by omega,by go_num,rfl⟩
  have HTK:Hid (Bv Wr (.slice Av ak cv) (l.take ak)):=Hi ((CD HVX.out (k:=ak) (by omega) (m:=cv) (by omega) (NL _)).le HL0.out);clear hqq;go_wp2_with fail
  refine(JJ _ _ _ HTK.out).mono ?_;rintro e w' ⟨nu,kd,rfl,rfl,hnu,hkd⟩;obtain⟨ae,hae⟩:∃ae:Nat,ae=min (ak+1) l.length:=⟨_,rfl⟩;have HAE:Hid (ae≤ak+1∧ae≤l.length∧(ak+1≤l.length→ae=ak+1)∧(¬ak+1≤l.length→ae=l.length)):=Hi (by omega);clear hae;obtain⟨v43,hb43,q1,q2⟩:=Bb HVX.out (k:=ae) (z:=(ae:Int)) (by have:=HAE.out;omega) rfl;have HV4:=Hi hb43;obtain⟨A4,c4,rfl⟩:=hb43.form
  generalize hn4:(l.drop ae).length=n4 at HV4 q1 q2;have HKD:=Hi hkd;clear hb43 hn4 hkd q2;go_upto_region 5 with fail
  have hm_cq:(Tryz.prog).follows .mixedOrders=true:=by kernel_rfl
  refine wp_region_grow_put (cqS Wr b An Av A4 nn cn l.length cv n4 c4 ak ae nu) (cqZ Wr b An Av A4 nn cn l.length cv n4 c4 ak ae nu) (cqG Wr b An Av A4 nn cn l.length cv n4 c4 ak ae nu) 62 [36,37,38,39,40,41,42,43,44,45] hm_cq (by kernel_rfl) rfl rfl ?hG_cq ?hold_cq ?hs_cq ?hend_cq
  case hG_cq=>exact⟨(Kp.refl _ _).le (AC _).drew,(BS.of HB1.out _ (fun k v h=>by unfold cqF at h;split at h<;>first|exact h|cases h)).le (AC _).drew⟩
  case hold_cq=>
   intro t ht;simp only[List.mem_cons,List.mem_nil_iff,or_false,not_or]at ht;unfold cqS;split<;>first|exact True.intro|(exfalso;simp at ht;done)|rfl
  case hs_cq=>
   refine⟨?_,?_,?_,?_,?_,?_,?_,?_,?_,?_,?_,?_,trivial⟩
   ·refine AA fun a W hg hop=>?_;have h7:_=_:=hq hop 7;have h7':=tg h7;refine⟨_,?_,rfl⟩;simp only[execOp,h7];go_simp
   ·refine AA fun a W hg hop=>?_;have h1:_=_:=hq hop 1;have h1':=tg h1;refine⟨_,?_,rfl⟩;simp only[execOp,h1];go_simp
   ·refine AA fun a W hg hop=>?_;have h6:_=_:=hq hop 6;have h6':=tg h6;refine⟨_,?_,rfl⟩;simp only[execOp,h6];go_simp
   ·refine AA fun a W hg hop=>?_;have h38:_=_:=hq hop 38;have h38':=tg h38;refine⟨_,?_,rfl⟩;simp only[execOp,h38];go_simp;exact IntWalk.i64_in _ (by omega)
   ·refine AA fun a W hg hop=>?_;have h1:_=_:=hq hop 1;have h1':=tg h1;refine⟨_,?_,rfl⟩;simp only[execOp,h1];go_simp
   ·refine AA fun a W hg hop=>?_;have h40:_=_:=hq hop 40;have h40':=tg h40;refine⟨_,?_,rfl⟩;simp only[execOp,h40];go_simp
   ·refine AA fun a W hg hop=>?_;have h39:_=_:=hq hop 39;have h39':=tg h39;have h41:_=_:=hq hop 41;have h41':=tg h41;refine⟨_,?_,rfl⟩;simp only[execOp,h39,h41];by_cases hmn:(ak:Int)+1≤(l.length:Int)
    ·have e1:ae=ak+1:=by have:=HAE.out;omega
     subst e1;go_simp;omega
    ·have e1:ae=l.length:=by have:=HAE.out;omega
     subst e1;go_simp;omega
   ·refine AA fun a W hg hop=>?_;have h37:_=_:=hq hop 37;have h37':=tg h37;have h42:_=_:=hq hop 42;have h42':=tg h42;refine⟨_,?_,rfl⟩;simp only[execOp,h37,h42];have hqq:=q1 W;go_simp
   ·refine AA fun a W hg hop=>?_;have h2:_=_:=hq hop 2;have h2':=tg h2;refine⟨_,?_,rfl⟩;simp only[execOp,h2];go_simp
   ·refine GrowStep.store ?_ rfl;intro a W hg hop;have hp:_=_:=hq hop 44;have hv:_=_:=hq hop 36;have hlen:(.int .u32 nu:Value).cells.toList.length=1:=rfl;obtain⟨hk,cs,hcs,hce,hf⟩:=hg;obtain⟨W',hr,hrow,hkp⟩:=AU (P:=Tryz.prog) W b 15 26 37 cs (.int .u32 nu) hce De (by rw[hcs];exact(show 15+1≤21 by decide)) (IN _ _)
    have hs:=BS.store (n:=21) (j:=15) hce hcs hrow (by rw[hlen];decide);refine⟨W',?_,⟨hk.trans hkp,hs.2 _ ⟨cs,hcs,hce,hf⟩ (fun k h1 h2=>by rw[hlen]at h2;unfold cqF;rw[if_pos (by omega)])⟩,fun t u h=>ML Wr b An Av A4 nn cn l.length cv n4 c4 ak ae nu t u W W' h,fun j hj hz=>?_,?_⟩
    ·simp only[execOp,hp,hv,hr,Sem.run_bind,Sem.run_pure,Result.andThen]
    ·unfold cqZ at hz⊢;by_cases h9:j=9
     ·exact absurd h9 hj
     rw[if_neg h9]at hz⊢;by_cases h11:j=11
     ·rw[if_pos h11]at hz⊢;exact hs.2 _ hz (fun k h1 h2=>by rw[hlen]at h2;unfold CU;rw[if_neg (by rw[show((.slice A4 n4 c4):Value).cells.toList.length=1 from rfl];omega)])
     rw[if_neg h11]at hz⊢;trivial
    ·unfold cqZ;rw[if_pos rfl];exact hs.1
   ·refine AA fun a W hg hop=>?_;have h2:_=_:=hq hop 2;have h2':=tg h2;refine⟨_,?_,rfl⟩;simp only[execOp,h2];go_simp
   ·refine GrowStep.store ?_ rfl;intro a W hg hop;have hp:_=_:=hq hop 45;have hv:_=_:=hq hop 43;have hlen:((.slice A4 n4 c4):Value).cells.toList.length=1:=rfl;obtain⟨hk,cs,hcs,hce,hf⟩:=hg;obtain⟨W',hr,hrow,hkp⟩:=AU (P:=Tryz.prog) W b 2 22 37 cs ((.slice A4 n4 c4)) hce B5 (by rw[hcs];exact(show 2+1≤21 by decide)) (CM _ _ _)
    have hs:=BS.store (n:=21) (j:=2) hce hcs hrow (by rw[hlen];decide);refine⟨W',?_,⟨hk.trans hkp,hs.2 _ ⟨cs,hcs,hce,hf⟩ (fun k h1 h2=>by rw[hlen]at h2;unfold cqF;rw[if_pos (by omega)])⟩,fun t u h=>ML Wr b An Av A4 nn cn l.length cv n4 c4 ak ae nu t u W W' h,fun j hj hz=>?_,?_⟩
    ·simp only[execOp,hp,hv,hr,Sem.run_bind,Sem.run_pure,Result.andThen]
    ·unfold cqZ at hz⊢;by_cases h9:j=9
     ·rw[if_pos h9]at hz⊢;exact hs.2 _ hz (fun k h1 h2=>by rw[hlen]at h2;unfold CU;rw[if_neg (by rw[show(.int .u32 nu:Value).cells.toList.length=1 from rfl];omega)])
     rw[if_neg h9]at hz⊢;by_cases h11:j=11
     ·exact absurd h11 hj
     rw[if_neg h11]at hz⊢;trivial
    ·unfold cqZ;rw[if_neg (by decide)];rw[if_pos rfl];exact hs.1
  case hend_cq=>
   intro s_ wz hg hS hZ;have z9:=hZ 9 _ rfl rfl;unfold cqZ at z9;rw[if_pos rfl]at z9;have z11:=hZ 11 _ rfl rfl;unfold cqZ at z11;rw[if_neg (by decide)]at z11;rw[if_pos rfl]at z11
   have HROW:Hid (wz.heap[b]? =some (.cells (HV.row ⟨5,(.slice An nn cn),(.slice A4 n4 c4),.slice none 0 0,UV.nil,.slice none 0 0,nu,.slice none 0 0,.slice none 0 0,.slice none 0 0,.slice none 0 0,0⟩) 37 (0,0))):=Hi ((z9.join (z11.join hg.2)).eq (HV.row ⟨5,(.slice An nn cn),(.slice A4 n4 c4),.slice none 0 0,UV.nil,.slice none 0 0,nu,.slice none 0 0,.slice none 0 0,.slice none 0 0,.slice none 0 0,0⟩) rfl (fun k hk=>by
    have h:k=0∨k=1∨k=2∨k=3∨k=4∨k=5∨k=6∨k=7∨k=8∨k=9∨k=10∨k=11∨k=12∨k=13∨k=14∨k=15∨k=16∨k=17∨k=18∨k=19∨k=20:=by omega
    rcases h with rfl|rfl|rfl|rfl|rfl|rfl|rfl|rfl|rfl|rfl|rfl|rfl|rfl|rfl|rfl|rfl|rfl|rfl|rfl|rfl|rfl<;>rfl))
   have HKPZ:=Hi hg.1;clear hS hZ hg z9 z11;simp only[Aj,Act.put,List.setIfInBounds_toArray,List.set_cons_zero,List.set_cons_succ];have HROW2:Hid (wz.heap[b+1]? =some (.cells HV.nil.row 37 (0,0))):=Hi (HKPZ.out.heap (by omega) HB2.out);have HLX:Hid (Le w wz):=Hi (Below.trans HL0.out (HKPZ.out.below (by have:=HBW.out;omega) HL0.out.size))
   have g2:wz.cell? ⟨b,2,none⟩=some (.slice A4 n4 c4):=AB HROW.out 2;have hkd:=HKD.out;rcases hkd with hkd|hkd|hkd<;>subst hkd;case inl=>
    by_cases hbig:2147483648≤nu
    ·have hb1:decide ((2147483648:Int)≤(nu:Int))=true:=decide_eq_true (by omega);clear g2
     go_wp2_with (first|refine wpList_load_row rfl 37 (.tmp 2) rfl b rfl 37 _ (0,0) _ HROW.out Tryz.underlying37 rfl AS ?_ |refine AD rfl 37 (.tmp 4) (.tmp 60) rfl (b+1) (HV.row ⟨5,(.slice An nn cn),(.slice A4 n4 c4),.slice none 0 0,UV.nil,.slice none 0 0,nu,.slice none 0 0,.slice none 0 0,.slice none 0 0,.slice none 0 0,0⟩) rfl rfl 37 HV.nil.row HROW2.out AS rfl (HV.all.trans rfl) ?_)
     intro WZ hz hkz;have HZ:=Hi hz;have HLZ:Hid (Le w WZ):=Hi (Below.trans HLX.out (hkz.below (by have:=HBW.out;omega) HLX.out.size));have HNZ:Hid (Bv WZ (.slice An nn cn) m):=Hi (HNV.out.le HLZ.out);have HVZ:Hid (Bv WZ (.slice A4 n4 c4) (l.drop ae)):=Hi (HV4.out.le HLZ.out);clear hz hkz;go_wp2
     exact bodyPost_ret (BL (x:=⟨5,(.slice An nn cn),(.slice A4 n4 c4),.slice none 0 0,UV.nil,.slice none 0 0,nu,.slice none 0 0,.slice none 0 0,.slice none 0 0,.slice none 0 0,0⟩) rfl HZ.out rfl rfl) rfl ⟨_,-2,rfl,HLZ.out,⟨HV.all.trans rfl,HV.all.trans rfl,_,_,_,rfl⟩,fun h=>absurd h (by decide)⟩
    ·have hb1:decide ((2147483648:Int)≤(nu:Int))=false:=decide_eq_false (by omega);obtain⟨bt,hbt⟩:∃b,DU (l.drop ae)=b:=⟨_,rfl⟩;have CT:=Hi (AW (Cr (.slice A4 n4 c4) (l.drop ae) wz (HV4.out.le HLX.out)) hbt);clear hbt;go_wp2_with fail
     refine CT.out.mono ?_;rintro e w' ⟨rfl,rfl⟩;cases bt;case false=>
      go_wp2_with (first|refine wpList_load_row rfl 37 (.tmp 2) rfl b rfl 37 _ (0,0) _ HROW.out Tryz.underlying37 rfl AS ?_ |refine AD rfl 37 (.tmp 4) (.tmp 60) rfl (b+1) (HV.row ⟨5,(.slice An nn cn),(.slice A4 n4 c4),.slice none 0 0,UV.nil,.slice none 0 0,nu,.slice none 0 0,.slice none 0 0,.slice none 0 0,.slice none 0 0,0⟩) rfl rfl 37 HV.nil.row HROW2.out AS rfl (HV.all.trans rfl) ?_)
      intro WZ hz hkz;have HZ:=Hi hz;have HLZ:Hid (Le w WZ):=Hi (Below.trans HLX.out (hkz.below (by have:=HBW.out;omega) HLX.out.size));have HNZ:Hid (Bv WZ (.slice An nn cn) m):=Hi (HNV.out.le HLZ.out);have HVZ:Hid (Bv WZ (.slice A4 n4 c4) (l.drop ae)):=Hi (HV4.out.le HLZ.out);clear hz hkz;go_wp2
      exact bodyPost_ret (BL (x:=⟨5,(.slice An nn cn),(.slice A4 n4 c4),.slice none 0 0,UV.nil,.slice none 0 0,nu,.slice none 0 0,.slice none 0 0,.slice none 0 0,.slice none 0 0,0⟩) rfl HZ.out rfl rfl) rfl ⟨_,-2,rfl,HLZ.out,⟨HV.all.trans rfl,HV.all.trans rfl,_,_,_,rfl⟩,fun h=>absurd h (by decide)⟩
     case true=>
      go_wp2_with (first|refine wpList_load_row rfl 37 (.tmp 2) rfl b rfl 37 _ (0,0) _ HROW.out Tryz.underlying37 rfl AS ?_ |refine AD rfl 37 (.tmp 4) (.tmp 61) rfl (b+1) (HV.row ⟨5,(.slice An nn cn),(.slice A4 n4 c4),.slice none 0 0,UV.nil,.slice none 0 0,nu,.slice none 0 0,.slice none 0 0,.slice none 0 0,.slice none 0 0,0⟩) rfl rfl 37 HV.nil.row HROW2.out AS rfl (HV.all.trans rfl) ?_)
      intro WZ hz hkz;have HZ:=Hi hz;have HLZ:Hid (Le w WZ):=Hi (Below.trans HLX.out (hkz.below (by have:=HBW.out;omega) HLX.out.size));have HNZ:Hid (Bv WZ (.slice An nn cn) m):=Hi (HNV.out.le HLZ.out);have HVZ:Hid (Bv WZ (.slice A4 n4 c4) (l.drop ae)):=Hi (HV4.out.le HLZ.out);clear hz hkz;go_wp2
      exact bodyPost_ret (BL (x:=⟨5,(.slice An nn cn),(.slice A4 n4 c4),.slice none 0 0,UV.nil,.slice none 0 0,nu,.slice none 0 0,.slice none 0 0,.slice none 0 0,.slice none 0 0,0⟩) rfl HZ.out rfl rfl) rfl ⟨_,0,rfl,HLZ.out,⟨HV.all.trans rfl,HV.all.trans rfl,_,_,_,rfl⟩,fun _=>⟨⟨5,m,l.drop ae,[],PU.zero,[],nu,[],[],[],[],0⟩,⟨rfl,HNZ.out,HVZ.out,Bv.nil _,(Hz.nil _ _).uri,Kq.nil _ _,KO.nil _ _,rfl,Bv.nil _,Bv.nil _,Bv.nil _,Bv.nil _,rfl⟩,rfl,Nd⟩⟩
   case inr.inl=>
    clear g2
    go_wp2_with (first|refine wpList_load_row rfl 37 (.tmp 2) rfl b rfl 37 _ (0,0) _ HROW.out Tryz.underlying37 rfl AS ?_ |refine AD rfl 37 (.tmp 4) (.tmp 49) rfl (b+1) (HV.row ⟨5,(.slice An nn cn),(.slice A4 n4 c4),.slice none 0 0,UV.nil,.slice none 0 0,nu,.slice none 0 0,.slice none 0 0,.slice none 0 0,.slice none 0 0,0⟩) rfl rfl 37 HV.nil.row HROW2.out AS rfl (HV.all.trans rfl) ?_)
    intro WZ hz hkz;have HZ:=Hi hz;have HLZ:Hid (Le w WZ):=Hi (Below.trans HLX.out (hkz.below (by have:=HBW.out;omega) HLX.out.size));have HNZ:Hid (Bv WZ (.slice An nn cn) m):=Hi (HNV.out.le HLZ.out);have HVZ:Hid (Bv WZ (.slice A4 n4 c4) (l.drop ae)):=Hi (HV4.out.le HLZ.out);clear hz hkz;go_wp2
    exact bodyPost_ret (BL (x:=⟨5,(.slice An nn cn),(.slice A4 n4 c4),.slice none 0 0,UV.nil,.slice none 0 0,nu,.slice none 0 0,.slice none 0 0,.slice none 0 0,.slice none 0 0,0⟩) rfl HZ.out rfl rfl) rfl ⟨_,-1,rfl,HLZ.out,⟨HV.all.trans rfl,HV.all.trans rfl,_,_,_,rfl⟩,fun h=>absurd h (by decide)⟩
   case inr.inr=>
    clear g2
    go_wp2_with (first|refine wpList_load_row rfl 37 (.tmp 2) rfl b rfl 37 _ (0,0) _ HROW.out Tryz.underlying37 rfl AS ?_ |refine AD rfl 37 (.tmp 4) (.tmp 49) rfl (b+1) (HV.row ⟨5,(.slice An nn cn),(.slice A4 n4 c4),.slice none 0 0,UV.nil,.slice none 0 0,nu,.slice none 0 0,.slice none 0 0,.slice none 0 0,.slice none 0 0,0⟩) rfl rfl 37 HV.nil.row HROW2.out AS rfl (HV.all.trans rfl) ?_)
    intro WZ hz hkz;have HZ:=Hi hz;have HLZ:Hid (Le w WZ):=Hi (Below.trans HLX.out (hkz.below (by have:=HBW.out;omega) HLX.out.size));have HNZ:Hid (Bv WZ (.slice An nn cn) m):=Hi (HNV.out.le HLZ.out);have HVZ:Hid (Bv WZ (.slice A4 n4 c4) (l.drop ae)):=Hi (HV4.out.le HLZ.out);clear hz hkz;go_wp2
    exact bodyPost_ret (BL (x:=⟨5,(.slice An nn cn),(.slice A4 n4 c4),.slice none 0 0,UV.nil,.slice none 0 0,nu,.slice none 0 0,.slice none 0 0,.slice none 0 0,.slice none 0 0,0⟩) rfl HZ.out rfl rfl) rfl ⟨_,-2,rfl,HLZ.out,⟨HV.all.trans rfl,HV.all.trans rfl,_,_,_,rfl⟩,fun h=>absurd h (by decide)⟩
def DE(w:World)(e:Ending)(w':World):Prop:=∃(A:Option Addr) (n c:Nat) (kd:Int),e= .returned (.tuple #[.slice A n c,.int .i64 kd])∧Le w w'∧n≤c∧c≤9223372036854775807∧
 (kd=0→n=1→∃g x q,A=some ⟨g,0,none⟩∧(∀j v,x.row[j]? =some v→w'.cell? ⟨g,j,none⟩=some v)∧Hz (w.heap.size≤·) w' x q∧PHk q)
theorem DE.fail(w w':World)(h:Le w w')(kd:Int)(hk:kd≠0):DE w (.returned (.tuple #[.slice none 0 0,.int .i64 kd])) w':=⟨none,0,0,kd,rfl,h,NL _,by decide,fun e=>absurd e hk⟩
theorem EF(t:Int)(h1:1≤t)(h2:t≤14)(w:World):Calls Tryz.prog 28 #[.int .i64 t] w fun e w'=>e= .returned (.string (st (nmT t)))∧w=w':=(EG t h1 h2 w).mono fun e w' h=>⟨h.1,h.2.symm⟩
theorem L3:((Tryz.prog).info? 37).map (fun i=>(i.zero,i.size,i.bytes))=some (some HV.nil.val,21,400):=by kernel_rfl
theorem Jh(x:HV):Instr.fill (fun i=>some (i*21,21)) ((Array.range (1*21)).map (HV.nil.val.cells[·%HV.nil.val.cells.size]!)) [(0,x.val)]=some x.row:=by kernel_rfl
theorem Cf{ops:Array Oper}{rest:List Oper}{o:Oper}{a:Act}{w:World}{Q:Exit→Act→World→Prop}(hg:o.guard=none)(t1:Tmp)(ho:o.op= .buildSlice 50 1 #[(0,.tmp t1)])(d:Option Tmp)(hd:o.dst=d)(x:HV)(hx:a.eval (.tmp t1)=x.val)
 (h:wpList Tryz.prog ops Q rest (a.put d (.slice (some ⟨w.heap.size,0,none⟩) 1 1)) (w.alloc (.cells x.row 37))):wpList Tryz.prog ops Q (o::rest) a w:=by
 subst hd;obtain⟨i0,hi0,hz0,hz1,hz2⟩:=info_parts L3;refine wpList_buildSlice hg _ _ 1 _ ho x.row i0 HV.nil.val Tryz.underlying50 hi0 hz0 (by rw[hz1];decide) (by rw[hz1];decide) ?_ h;rw[hz1];have e:((#[(0,Operand.tmp t1)]:Array (Nat×Operand)).map fun(i,x)=>(i,a.eval x)).toList=[(0,x.val)]:=by simp[hx]
 rw[e];exact Jh x
theorem Mw{x:HV}(h:Gs x):∀u∈x.row.toList,u.oneCell'=true:=fun u hu=>List.all_eq_true.1 (by simpa using h.one) u hu
theorem Gs.tn{x:HV}(h:Gs x)(t:Int)(A:Option Addr)(n c:Nat):Gs {x with t:=t,name:= .slice A n c}:=by
 refine⟨?_,?_,h.ps⟩
 ·have h1:=h.one;rw[HV.all]at h1⊢;simp only[Bool.and_eq_true]at h1⊢;exact⟨rfl,rfl,h1.2.2⟩
 ·have h1:=h.nou;rw[HV.all]at h1⊢;simp only[Bool.and_eq_true]at h1⊢;exact⟨rfl,rfl,h1.2.2⟩
theorem Hz.tn{ψ:Nat→Prop}{w:World}{x:HV}{p:PH}(h:Hz ψ w x p){t:Int}{nv:Value}{n:Tx}(hn:Bv w nv n):Hz ψ w {x with t:=t,name:=nv} {p with t:=t,name:=n}:=
 ⟨rfl,hn,h.text,h.disp,h.uri,h.ps,h.op,h.num,h.proto,h.ver,h.tr,h.host,h.port⟩
theorem DD{f:Value→Bool}{tt:Int}{A1 A2 A3:Option Addr}{n1 c1 n2 c2 n3 c3:Nat}{xu:UV}(h:xu.row.all f=true)(hs:∀A n c,f (.slice A n c)=true:=by intros;rfl)(h64:∀z,f (.int .i64 z)=true:=by intros;rfl)(h32:∀z,f (.int .u32 z)=true:=by intros;rfl):
 (HV.row ⟨tt,.slice A1 n1 c1,.slice none 0 0,.slice A2 n2 c2,xu,.slice A3 n3 c3,0,.slice none 0 0,.slice none 0 0,.slice none 0 0,.slice none 0 0,0⟩).all f=true:=by
 rw[CA]at h;simp only[Bool.and_eq_true]at h;obtain⟨⟨⟨⟨⟨⟨⟨⟨⟨a1,a2⟩,a3⟩,a4⟩,a5⟩,a6⟩,a7⟩,a8⟩,a9⟩,a10⟩:=h;rw[HV.all];simp only[hs,h64,h32,a1,a2,a3,a4,a5,a6,a7,a9,a10,Bool.and_true,Bool.true_and]
def MnS(W1:World)(m n:Nat)(ov iv:Value)(wr:World):Prop:=
 ∃(k:Nat) (xs:List Value),n+k=m∧iv= .int .i64 k∧wr.ownsRow W1.heap.size 37 21 ov k xs∧Le W1 wr∧(k=0→ov= .slice none 0 0)∧(k=1→∃x q,xs=x.row.toList∧Hz (W1.heap.size≤·) wr x q∧PHk q)
theorem GZ(tt:Int)(v:Value)(l:Tx)(w:World)(ht1:1≤tt)(ht2:tt≤14)(hv:Bv w v l)(hl0:l.length≤100000000000):
 Calls Tryz.prog 60 #[.int .i64 tt,v] w (DE w):=by
 have hl:l.length≤1099511626000:=by omega
 have HVX:=Hi hv;have HTT:=Hi (And.intro ht1 ht2);obtain⟨Av,cv,rfl,h1,h2,h4⟩:=hv;clear h4;go_enter Tryz.func60,Tryz.ntmps60;go_wp2_with fail
 refine(Nh _ l w HVX.out (by omega)).mono ?_;rintro e W1 ⟨vL,ok,L,rfl,hle1,hsl,hLx,hLn⟩;obtain⟨AL,cL,rfl⟩:∃A c,vL= .slice A L.length c:=by obtain⟨A,c,e,_⟩:=hsl;exact⟨A,c,e⟩
 have hLl:L.length≤1099511627776:=by obtain⟨_,_,_,_,_,h,_⟩:=hsl;exact h
 have HSL:=Hi hsl;have HL1:=Hi hle1;have HLX:=Hi hLx;clear hsl hle1 hLx;cases ok;case false=>
  go_wp2
  go_ret2
  exact DE.fail w _ HL1.out (-2) (by decide)
 case true=>
 go_wp2
 go_loopg [8,9] (L.length) (fun n ov iv wr=>MnS W1 L.length n ov iv wr)
 case atStart=>exact⟨0,[],by omega,rfl,World.ownsRow_nil _ _ _ _,AC _,fun _=>rfl,fun h=>by cases h⟩
 case round=>
  obtain⟨k,xs,hn,rfl,hown,hle,hov,hone⟩:=hrel;have HOV:=Hi hov;have HO:=Hi hown;have HLE:=Hi hle;have HONE:=Hi hone;have HN:gk+k≤L.length∧L.length≤gk+k:=by omega
  clear hown hle hone hn hov
  rename World=>wr
  by_cases hlt:k<L.length;case neg=>
   obtain⟨hlen,hsh⟩:=HO.out;rcases hsh with⟨rfl,hk0⟩|⟨g,cap,cur,rfl,hgb,hgh,hnc,hmx,hcs,htk⟩
   ·go_wp2
    go_ret2
    exact⟨none,0,0,0,rfl,Le.trans HL1.out HLE.out,NL _,by decide,fun _ h=>by cases h⟩
   ·go_wp2
    go_ret2
    refine⟨_,_,_,0,rfl,Le.trans HL1.out HLE.out,hnc,hmx,fun _ hk1=>?_⟩;subst hk1;obtain⟨x,q,hxs,hz,hqq⟩:=HONE.out rfl;subst hxs;refine⟨g,x,q,rfl,fun j v hv=>?_,(hz.le (AC _)).imp (fun g hg=>Nat.le_trans HL1.out.size hg),hqq⟩;have hj:=HO.out.cells (g:=g) rfl j v (by simpa using hv);rw[B6,Nat.zero_add]at hj;exact hj
  case pos=>
   obtain⟨gL,oL,rfl,xk,hxk,hyk⟩:=HSL.out.at_ (k:=k) hlt;have hxr:=HLE.out.cell hxk;obtain⟨Ak,ck,rfl⟩:=hyk.out.form;have hkl:L[k].length≤1099511626000:=Nat.le_trans (HLX.out _ (List.getElem_mem hlt)) hl;generalize hlk:L[k]=lk at hyk hxr hkl;clear hxk hlk;have HXR:=Hi hxr;have HYK:Hid (Bv w (.slice Ak lk.length ck) lk):=hyk;clear hyk hxr;go_wp2_with fail
   refine(EF tt HTT.out.1 HTT.out.2 wr).mono ?_;rintro e w' ⟨rfl,rfl⟩;obtain⟨B1,c1,V1,qv1,le1,bt1⟩:=AT (base:=0) wr (st (nmT tt)) (Nat.zero_le _) (by rw[AF];have:=C3 tt;omega);rw[AV]at bt1;have HBN1:=Hi bt1.1;clear bt1
   go_upto_block 2 with(first|refine wpList_buildTo rfl 37 #[(0,.tmp 25),(1,.tmp 28)] rfl (some 29) rfl (HV.row ⟨tt,.slice (some ⟨B1,0,none⟩) (st (nmT tt)).size c1,.slice none 0 0,.slice none 0 0,UV.nil,.slice none 0 0,0,.slice none 0 0,.slice none 0 0,.slice none 0 0,.slice none 0 0,0⟩) (by kernel_rfl) ?_ |refine AD rfl 37 (.tmp 10) (.tmp 29) rfl V1.heap.size (HV.row ⟨tt,.slice (some ⟨B1,0,none⟩) (st (nmT tt)).size c1,.slice none 0 0,.slice none 0 0,UV.nil,.slice none 0 0,0,.slice none 0 0,.slice none 0 0,.slice none 0 0,.slice none 0 0,0⟩) rfl rfl 37 HV.nil.row (heap_alloc_new V1 _) AS rfl (HV.all.trans rfl) ?_)
   intro W3 hz3 hk3;have HL3:Hid (Le wr W3):=Hi (Le.trans le1 (Below.trans ((AC V1).alloc _) (hk3.below (NL _) ((AC V1).alloc _).size)));have HLV3:Hid (Le V1 W3):=Hi (Below.trans ((AC V1).alloc _) (hk3.below (NL _) ((AC V1).alloc _).size));have HHB:Hid (wr.heap.size≤V1.heap.size∧V1.heap.size<W3.heap.size):=Hi ⟨le1.size,AQ hz3⟩
   have HR3:=Hi hz3;have HBN:=Hi (HBN1.out.le HLV3.out);clear hz3 hk3 qv1 le1 HBN1 HLV3;generalize V1.heap.size=hb at HHB HR3⊢
   go_upto_block 2 with fail
   go_cut [11]from 19 to 133 (fun s11 wx=>∃(kd:Int) (x:HV),s11= .int .i64 kd∧wx.heap[hb]? =some (.cells x.row 37 (0,0))∧Gs x∧Le wr wx∧(kd=0→∃q,Hz (wr.heap.size≤·) wx x q∧PHk q))
   case first=>
    by_cases hp0:lk.length=0
    ·have hzb:((lk.length:Int)==0)=true:=by rw[hp0];rfl
     have hxr3:=HL3.out.cell HXR.out;go_wp2
     go_ret2
     exact DE.fail w _ (Le.trans (Le.trans HL1.out HLE.out) HL3.out) (-2) (by decide)
    have hzb:((lk.length:Int)==0)=false:=by rw[beq_eq_false_iff_ne];omega
    have hpos:0<lk.length:=by omega
    have hxr3:=HL3.out.cell HXR.out;have HY3:=Hi (HYK.out.le (Le.trans (Le.trans HL1.out HLE.out) HL3.out));clear hp0;by_cases h9:tt=9
    ·have hb9:((tt:Int)==9)=true:=by rw[h9];rfl
     have H9:=Hi h9;clear h9;go_wp2_with fail
     refine(QY _ lk W3 HY3.out (by omega)).mono ?_;rintro e W4 ⟨x,kd,rfl,hle4,hfit,hz⟩;have HFT:=Hi hfit;have HZZ:=Hi hz;have HL4:=Hi hle4;have HR4:=Hi (hle4.heap HR3.out);clear hle4 hfit hz;go_upto_region 14 with(refine AD rfl 37 (.tmp 10) (.tmp 55) rfl hb x.row rfl rfl 37 _ HR4.out AS rfl HFT.out.one ?_)
     intro W5 hz5 hk5;have HR5:=Hi hz5;have HK5:=Hi hk5;have HL5:Hid (Le wr W5):=Hi (Below.trans (Le.trans HL3.out HL4.out) (hk5.below HHB.out.1 (Le.trans HL3.out HL4.out).size));clear hz5 hk5;go_wp2_with fail
     refine(EF tt HTT.out.1 HTT.out.2 W5).mono ?_;rintro e w' ⟨rfl,rfl⟩;obtain⟨B2,c2,V2,qv2,le2,bt2⟩:=AT (base:=0) W5 (st (nmT tt)) (Nat.zero_le _) (by rw[AF];have:=C3 tt;omega);rw[AV]at bt2;have HBN2:=Hi bt2.1;clear bt2;have HR6:=Hi (le2.heap HR5.out);have HL6:Hid (Le wr V2):=Hi (Le.trans HL5.out le2);have HLV:=Hi le2;clear le2
     go_wp2_with (refine AM rfl 3 (.tmp 61) (.tmp 57) rfl hb 0 (.int .i64 tt) rfl rfl rfl 37 _ HR6.out (show 0<21 by decide) IZ ?_)
     intro W7 hz7 hk7;rw[HV.set_t]at hz7;have HR7:=Hi hz7;have HK7:=Hi hk7;have HL7:Hid (Le wr W7):=Hi (Below.trans HL6.out (hk7.below HHB.out.1 HL6.out.size));clear hz7 hk7;go_upto_region 15 with(refine AM rfl 22 (.tmp 62) (.tmp 60) rfl hb 1 (.slice (some ⟨B2,0,none⟩) (st (nmT tt)).size c2) rfl rfl rfl 37 _ HR7.out (show 1<21 by decide) B5 ?_)
     intro W8 hz8 hk8;rw[HV.set_name]at hz8;have HR8:=Hi hz8;have HK8:=Hi hk8;have HL8:Hid (Le wr W8):=Hi (Below.trans HL7.out (hk8.below HHB.out.1 HL7.out.size));obtain⟨Ap,np,cp,hps⟩:=HFT.out.ps;have g14:W8.cell? ⟨hb,14,none⟩=some (.slice Ap np cp):=by rw[AB hz8 14,←hps];rfl
     clear hz8 hk8 hps;have HFX:Hid (Gs {x with t:=tt,name:= .slice (some ⟨B2,0,none⟩) (st (nmT tt)).size c2}):=Hi (HFT.out.tn tt _ _ _);have HFX7:Hid (Gs {x with t:=tt}):=Hi (by
      have h:=HFT.out;refine⟨?_,?_,h.ps⟩
      ·have h1:=h.one;rw[HV.all]at h1⊢;simp only[Bool.and_eq_true]at h1⊢;exact⟨rfl,h1.2⟩
      ·have h1:=h.nou;rw[HV.all]at h1⊢;simp only[Bool.and_eq_true]at h1⊢;exact⟨rfl,h1.2⟩)
     have HEND:Hid (kd=0→∃q,Hz (wr.heap.size≤·) W8 {x with t:=tt,name:= .slice (some ⟨B2,0,none⟩) (st (nmT tt)).size c2} q∧PHk q):=Hi (fun h=>by
      obtain⟨p,hz,hpt,hk⟩:=HZZ.out h;have hno:∀g,W3.heap.size≤g→g≠hb:=fun g hg=>by have:=HHB.out.2;omega
      have z5:=hz.setH HR4.out (HV.all.trans rfl) HK5.out hno;have z7:=(z5.le HLV.out).setH HR6.out HFT.out.nou HK7.out hno;have z8:=z7.setH HR7.out (by have h1:=HFX7.out.nou;exact h1) HK8.out hno;have nb:Bv W8 (.slice (some ⟨B2,0,none⟩) (st (nmT tt)).size c2) (nmT tt):=(HBN2.out.setH HR6.out HFT.out.nou HK7.out).setH HR7.out HFX7.out.nou HK8.out
      refine⟨_,(z8.tn (t:=tt) nb).imp (fun g hg=>by have:=HL3.out.size;omega),hk.wild,fun h=>hk.kn (by rw[hpt];rw[H9.out]at h;exact h),hk.gv,hk.ps,hk.host,hk.sz⟩)
     obtain⟨q1,hq1⟩:∃q,decide ((k:Int)<(L.length:Int)-1)=q:=⟨_,rfl⟩;obtain⟨q2,hq2⟩:∃q,((np:Int)==0)=q:=⟨_,rfl⟩;cases q1
     ·go_wp2;go_meet;case rel=>exact⟨kd,_,rfl,HR8.out,HFX.out,HL8.out,HEND.out⟩
     ·cases q2
      ·go_wp2;go_meet;case rel=>exact⟨kd,_,rfl,HR8.out,HFX.out,HL8.out,HEND.out⟩
      ·go_wp2;go_meet;case rel=>exact⟨-2,_,rfl,HR8.out,HFX.out,HL8.out,fun h=>absurd h (by decide)⟩
    have hb9:((tt:Int)==9)=false:=by rw[beq_eq_false_iff_ne];exact h9
    clear h9;by_cases h3:tt=3
    ·have hb3:((tt:Int)==3)=true:=by rw[h3];rfl
     clear h3;go_wp2_with fail
     refine(FW _ lk W3 HY3.out (by omega)).mono ?_;rintro e W4 ⟨nv,pv,xu,kd,rfl,hle4,hone,hm⟩;obtain⟨An,mn,cn,rfl⟩:∃A n c,nv= .slice A n c:=by
      rcases hs:Bi lk with _|⟨n,u,kvs⟩
      ·rw[hs]at hm;exact⟨_,_,_,hm.2.2.1⟩
      ·rw[hs]at hm;obtain⟨A,c,e⟩:=hm.2.1.form;exact⟨A,_,c,e⟩
     obtain⟨Ap,mp,cp,rfl⟩:∃A n c,pv= .slice A n c:=by
      rcases hs:Bi lk with _|⟨n,u,kvs⟩
      ·rw[hs]at hm;exact⟨_,_,_,hm.2.2.2⟩
      ·rw[hs]at hm;obtain⟨A,c,e,_⟩:=hm.2.2.2.1;exact⟨A,_,c,e⟩
     have hxn:xu.row.all Eq=true∧xu.wild=false:=by
      rcases hs:Bi lk with _|⟨n,u,kvs⟩
      ·rw[hs]at hm;rw[hm.2.1];exact⟨CA.trans rfl,rfl⟩
      ·rw[hs]at hm;have hqq:=hm.2.2.1.toUq;refine⟨?_,hqq.wild.trans (CW hs).2.1⟩;rw[CA,hqq.scheme.1.nou,hqq.raw.1.nou,hqq.user.1.nou,hqq.pass.1.nou,hqq.host.1.nou,hqq.ps.nou,hqq.hs.nou];rfl
     have HM:=Hi hm;have HXO:=Hi hone;have HXN:=Hi hxn;have HL4:=Hi hle4;have HR4:=Hi (hle4.heap HR3.out);clear hle4 hone hm hxn;go_wp2_with (refine AM rfl 22 (.tmp 87) (.tmp 83) rfl hb 3 (.slice An mn cn) rfl rfl rfl 37 _ HR4.out (show 3<21 by decide) B5 ?_)
     intro W5 hz5 hk5;rw[HV.set_disp]at hz5;have HR5:=Hi hz5;have HK5:=Hi hk5;have HL5:Hid (Le wr W5):=Hi (Below.trans (Le.trans HL3.out HL4.out) (hk5.below HHB.out.1 (Le.trans HL3.out HL4.out).size));clear hz5 hk5;go_wp2_with (refine BG rfl 35 (.tmp 88) (.tmp 84) rfl hb 4 xu.row rfl rfl 37 _ HR5.out AI (show 4+10≤21 by decide) HXO.out ?_)
     intro W6 hz6 hk6;rw[HV.put_uri]at hz6;have HR6:=Hi hz6;have HK6:=Hi hk6;have HL6:Hid (Le wr W6):=Hi (Below.trans HL5.out (hk6.below HHB.out.1 HL5.out.size));clear hz6 hk6;go_upto_region 19 with(refine AM rfl 33 (.tmp 89) (.tmp 85) rfl hb 14 (.slice Ap mp cp) rfl rfl rfl 37 _ HR6.out (show 14<21 by decide) D0 ?_)
     intro W7 hz7 hk7;rw[HV.set_ps]at hz7;have HR7:=Hi hz7;have HK7:=Hi hk7;have HL7:Hid (Le wr W7):=Hi (Below.trans HL6.out (hk7.below HHB.out.1 HL6.out.size));have g6:W7.cell? ⟨hb,6,none⟩=some (.bool false):=by rw[AB hz7 6,←HXN.out.2];rfl
     have hxr7:W7.cell? ⟨gL,oL+k,none⟩=some (.slice Ak lk.length ck):=HL7.out.cell HXR.out;obtain⟨by_,oy,ey,d1⟩:=Bv.at' (HYK.out.le (Le.trans (Le.trans HL1.out HLE.out) HL7.out)) (k:=0) hpos;subst ey;rw[Nat.add_zero]at d1;generalize(lk[0].toNat:Int)=y at d1;clear hz7 hk7
     have HFX5:Hid ((HV.row ⟨tt,.slice (some ⟨B1,0,none⟩) (st (nmT tt)).size c1,.slice none 0 0,.slice An mn cn,UV.nil,.slice none 0 0,0,.slice none 0 0,.slice none 0 0,.slice none 0 0,.slice none 0 0,0⟩).all Eq=true):=Hi (HV.all.trans rfl)
     have HFX6:Hid ((HV.row ⟨tt,.slice (some ⟨B1,0,none⟩) (st (nmT tt)).size c1,.slice none 0 0,.slice An mn cn,xu,.slice none 0 0,0,.slice none 0 0,.slice none 0 0,.slice none 0 0,.slice none 0 0,0⟩).all Eq=true):=Hi (DD HXN.out.1)
     have HFX7:Hid (Gs ⟨tt,.slice (some ⟨B1,0,none⟩) (st (nmT tt)).size c1,.slice none 0 0,.slice An mn cn,xu,.slice Ap mp cp,0,.slice none 0 0,.slice none 0 0,.slice none 0 0,.slice none 0 0,0⟩):=Hi ⟨DD HXO.out,DD HXN.out.1,_,_,_,rfl⟩
     have HEND:Hid (kd=0→∃q,Hz (wr.heap.size≤·) W7 ⟨tt,.slice (some ⟨B1,0,none⟩) (st (nmT tt)).size c1,.slice none 0 0,.slice An mn cn,xu,.slice Ap mp cp,0,.slice none 0 0,.slice none 0 0,.slice none 0 0,.slice none 0 0,0⟩ q∧PHk q):=Hi (fun h=>by
      have hm:=HM.out;rcases hs:Bi lk with _|⟨n,u,kvs⟩
      ·rw[hs]at hm;rw[hm.1]at h;exact absurd h (by decide)
      rw[hs]at hm;obtain⟨_,hbn,hux,hkq,hko⟩:=hm;obtain⟨⟨s,hsu,hsl⟩,hw,hkv⟩:=CW hs;have hno:∀g,W3.heap.size≤g→g≠hb:=fun g hg=>by have:=HHB.out.2;omega
      have hko':KO (W3.heap.size≤·) (.slice Ap mp cp) kvs:=fun _=>hko;have u7:=((hux.uz.setH HR4.out (HV.all.trans rfl) HK5.out hno).setH HR5.out HFX5.out HK6.out hno).setH HR6.out HFX6.out HK7.out hno;have n7:=((hbn.setH HR4.out (HV.all.trans rfl) HK5.out).setH HR5.out HFX5.out HK6.out).setH HR6.out HFX6.out HK7.out
      have k7:=((hkq.setH HR4.out (HV.all.trans rfl) HK5.out (hko'.imp hno)).setH HR5.out HFX5.out HK6.out (hko'.imp hno)).setH HR6.out HFX6.out HK7.out (hko'.imp hno);have b7:=(((HBN.out.le HL4.out).setH HR4.out (HV.all.trans rfl) HK5.out).setH HR5.out HFX5.out HK6.out).setH HR6.out HFX6.out HK7.out;have hsz:∀g,W3.heap.size≤g→wr.heap.size≤g:=fun g hg=>by have:=HL3.out.size;omega
      exact⟨⟨tt,nmT tt,[],n,u,kvs,0,[],[],[],[],0⟩,⟨rfl,b7,Bv.nil _,n7,u7.imp hsz,k7,hko'.imp hsz,rfl,Bv.nil _,Bv.nil _,Bv.nil _,Bv.nil _,rfl⟩,hw,fun _=>FY hsu hw,FZ hsu,hkv,fun x h=>(by cases h),FX hsu (by omega)⟩)
     obtain⟨q1,hq1⟩:∃q,((y:Int) != 60)=q:=⟨_,rfl⟩;obtain⟨q2,hq2⟩:∃q,((y:Int) != 34)=q:=⟨_,rfl⟩;by_cases h1L:1<L.length
     ·have q3:decide (1<L.length)=true:=decide_eq_true h1L;cases q1<;>cases q2<;>
      ·go_wp2;go_meet;case rel=>first|exact⟨kd,_,rfl,HR7.out,HFX7.out,HL7.out,HEND.out⟩|exact⟨-2,_,rfl,HR7.out,HFX7.out,HL7.out,fun h=>absurd h (by decide)⟩
     ·have q3:decide (1<L.length)=false:=decide_eq_false h1L;cases q1<;>cases q2<;>
      ·go_wp2;go_meet;case rel=>first|exact⟨kd,_,rfl,HR7.out,HFX7.out,HL7.out,HEND.out⟩|exact⟨-2,_,rfl,HR7.out,HFX7.out,HL7.out,fun h=>absurd h (by decide)⟩
    have hb3:((tt:Int)==3)=false:=by rw[beq_eq_false_iff_ne];exact h3
    clear h3;go_wp2_with fail
    refine(JL tt _ lk W3 HTT.out.1 HTT.out.2 HY3.out hpos hkl).mono ?_;rintro e W4 ⟨x,kd,rfl,hle4,hfit,hz⟩;have HFT:=Hi hfit;have HZZ:=Hi hz;have HL4:=Hi hle4;have HR4:=Hi (hle4.heap HR3.out);clear hle4 hfit hz;go_wp2_with (refine AD rfl 37 (.tmp 10) (.tmp 37) rfl hb x.row rfl rfl 37 _ HR4.out AS rfl HFT.out.one ?_)
    intro W5 hz5 hk5;have HR5:=Hi hz5;have HK5:=Hi hk5;have HL5:Hid (Le wr W5):=Hi (Below.trans (Le.trans HL3.out HL4.out) (hk5.below HHB.out.1 (Le.trans HL3.out HL4.out).size));clear hz5 hk5;go_wp2;go_meet
    case rel=>exact⟨kd,x,rfl,HR5.out,HFT.out,HL5.out,fun h=>by
     obtain⟨p,hz,hpt,hk⟩:=HZZ.out h;exact⟨p,(hz.setH HR4.out (HV.all.trans rfl) HK5.out (fun g hg=>by have:=HHB.out.2;omega)).imp (fun g hg=>by have:=HL3.out.size;omega),hk⟩⟩
   case rest=>
   obtain⟨kd,x,rfl,hr,hfit,hle,hz⟩:=hcut;by_cases hk0:kd=0;case neg=>
    have hkb:(kd != 0)=true:=by rw[bne_iff_ne];exact hk0
    go_wp2
    go_ret2
    exact DE.fail w _ (Le.trans (Le.trans HL1.out HLE.out) hle) kd hk0
   case pos=>
   subst hk0
   rename World=>Wx
   obtain⟨q,hzq,hkq⟩:=hz rfl;have HRX:=Hi hr;have HFX:=Hi hfit;have HLX2:=Hi hle;have HZQ:=Hi hzq;have HKQ:=Hi hkq;have HOX:=Hi (Ds HO.out hle);obtain⟨i0,hi0,hz0,hz1,hz2⟩:=info_parts L3;have hszx:=(Le.trans HLE.out hle).size;clear hr hfit hle hz hzq hkq
   go_wp2_with (first|refine wpList_load_row rfl 37 (.tmp 10) rfl hb rfl 37 x.row (0,0) _ HRX.out Tryz.underlying37 rfl AS ?_ |refine Cf rfl 131 rfl (some 132) rfl x rfl ?_ |(at_builtin;refine wpList_append_lies _ rfl _ _ 50 rfl W1.heap.size 37 i0 HV.nil.val 21 400 Tryz.underlying50 hi0 hz0 hz1 hz2 rfl (by decide) _ _ _ rfl (HOX.out.alloc _) ⟨Wx.heap.size,0,none⟩ 1 1 x.row.toList rfl rfl ?c1 ?c2 ?c3 ?c4 ?c5 ?c6 (Wx.heap.size+1) ?c7 ?_))
   case c1=>exact fun j u hu=>by rw[B6,Nat.zero_add,AB (heap_alloc_new Wx _) j];simpa using hu
   case c2=>exact Mw HFX.out
   case c3=>omega
   case c4=>unfold maxLen;omega
   case c5=>omega
   case c6=>simp;omega
   case c7=>simp
   intro g2 cap2 w2 hown2 hgrow2 hat2 hlt2;have HLE2:Hid (Le W1 w2):=Hi (Below.grown' (Le.trans (Le.trans HLE.out HLX2.out) ((AC Wx).alloc _)) hgrow2 (NL _) (fun g hg=>(AK HO.out g hg).1));have HO2:Hid (w2.ownsRow W1.heap.size 37 21 (.slice (some ⟨g2,0,none⟩) (k+1) cap2) (k+1) (xs++x.row.toList)):=Hi hown2
   have HN2:Hid (k+1=1→∃y q,xs++x.row.toList=y.row.toList∧Hz (W1.heap.size≤·) w2 y q∧PHk q):=Hi (fun h=>by
    have hk0:k=0:=by omega
    subst hk0;have hxs:xs=[]:=by have:=HO.out.1;exact List.eq_nil_of_length_eq_zero (by simpa using this)
    subst hxs;have hov:=HOV.out rfl;rw[hov]at hgrow2;have hlx:Le Wx w2:=Le.trans ((AC Wx).alloc _) (Below.grown' (AC _) hgrow2 (NL _) (fun g hg=>by cases hg));exact⟨x,q,rfl,(HZQ.out.le hlx).imp (fun g hg=>by have:=HLE.out.size;omega),HKQ.out⟩)
   clear hown2 hgrow2 hat2 hlt2;go_wp2;go_roundg (gk-1)
   case measure=>omega
   case rel=>exact⟨k+1,_,by omega,by go_num,HO2.out,HLE2.out,fun h=>absurd h (by omega),fun h=>by obtain⟨x,q,e,h1,h2⟩:=HN2.out h;exact⟨x,q,e,h1,h2⟩⟩
def akS(b1 o1 b2 o2 n1 n2 c1 c2 kk:Nat)(y1 y2:Int):Nat→Value→World→Prop
 |0,v,_=>v=(.slice (some ⟨b1,o1,none⟩) n1 c1)
 |1,v,_=>v=(.slice (some ⟨b2,o2,none⟩) n2 c2)
 |5,v,_=>v=(.int .i64 (kk:Int))
 |17,v,_=>v=(.slice (some ⟨b1,o1,none⟩) n1 c1)
 |18,v,_=>v=(.int .i64 (kk:Int))
 |19,v,_=>v=(.pointer (some ⟨b1,o1+kk,none⟩))
 |20,v,_=>v=(.int .u8 y1)
 |21,v,_=>v=(.int .u8 (lwI y1))
 |22,v,_=>v=(.slice (some ⟨b2,o2,none⟩) n2 c2)
 |23,v,_=>v=(.int .i64 (kk:Int))
 |24,v,_=>v=(.pointer (some ⟨b2,o2+kk,none⟩))
 |25,v,_=>v=(.int .u8 y2)
 |26,v,_=>v=(.int .u8 (lwI y2))
 |27,v,_=>v=(.bool (lwI y1 != lwI y2))
 |_,_,_=>True
theorem ON(b1 o1 b2 o2 n1 n2 c1 c2 kk:Nat)(y1 y2:Int)(t:Nat)(v:Value)(w1 w2:World)(k:Le w1 w2)(h:akS b1 o1 b2 o2 n1 n2 c1 c2 kk y1 y2 t v w1):akS b1 o1 b2 o2 n1 n2 c1 c2 kk y1 y2 t v w2:=by
 unfold akS at h⊢;split at h<;>first|exact h
def Rk(w:World)(e:Ending)(w':World):Prop:=∃b,e= .returned (.bool b)∧Le w w'
theorem Mu(v1 v2:Value)(l1 l2:Tx)(w:World)(hv1:Bv w v1 l1)(hv2:Bv w v2 l2):Calls Tryz.prog 58 #[v1,v2] w (Rk w):=by
 have HV1:=Hi hv1;have HV2:=Hi hv2;obtain⟨A1,c1,rfl,h11,h12,h14⟩:=hv1;obtain⟨A2,c2,rfl,h21,h22,h24⟩:=hv2;have h13:=h14.1;have h23:=h24.1;clear h14 h24;by_cases hl:l1.length=l2.length;case neg=>
  have hb:((l1.length:Int) != (l2.length:Int))=true:=by rw[bne_iff_ne];omega
  go_enter Tryz.func58,Tryz.ntmps58;go_wp2;go_ret;exact⟨false,rfl,AC w⟩
 case pos=>
  have hb:((l1.length:Int) != (l2.length:Int))=false:=by rw[hl];simp
  have HLL:=Hi hl;clear hl;go_enter Tryz.func58,Tryz.ntmps58;go_wp2
  go_loopg [5] (l1.length) (fun n iv wr=>∃k:Nat,n+k=l1.length∧iv= .int .i64 k∧Le w wr)
  case atStart=>exact⟨0,by omega,rfl,AC w⟩
  case round=>
   obtain⟨k,hn,rfl,hd⟩:=hrel;have HD:=Hi hd;have HN:gk+k≤l1.length∧l1.length≤gk+k:=by omega
   clear hn
   rename World=>wr
   by_cases hlt:k<l1.length
   ·obtain⟨_,_,e1,_,_,r1⟩:=HV1.out;obtain⟨_,_,e2,_,_,r2⟩:=HV2.out;injection e1 with e1 e1b e1c
    injection e2 with e2 e2b e2c
    subst e1 e1c e2 e2c;clear e1b e2b;have hlt2:k<l2.length:=by have:=HLL.out;omega
    obtain⟨b1,o1,rfl,d1⟩:=(r1.le hd).at_ hlt;obtain⟨b2,o2,rfl,d2⟩:=(r2.le hd).at_ (k:=k) hlt2;have x1:l1[k].toNat<256:=l1[k].toNat_lt;have x2:l2[k].toNat<256:=l2[k].toNat_lt;generalize hx1:(l1[k].toNat:Int)=y1 at d1;generalize hx2:(l2[k].toNat:Int)=y2 at d2;have HY:=Hi (show(0≤y1∧y1≤255)∧0≤y2∧y2≤255 by omega);have HD1:=Hi d1;have HD2:=Hi d2;have HLT:=Hi (And.intro hlt hlt2)
    clear r1 r2 hd x1 x2 hx1 hx2 d1 d2 hlt2;go_upto_region 6 with fail
    have hm_ak:(Tryz.prog).follows .mixedOrders=true:=by kernel_rfl
    refine wp_region_grow_put (akS b1 o1 b2 o2 l1.length l2.length c1 c2 k y1 y2) (fun _ _=>True) (Le wr) 28 [17,18,19,20,21,22,23,24,25,26,27] hm_ak (by kernel_rfl) rfl rfl ?hG_ak ?hold_ak ?hs_ak ?hend_ak;case hG_ak=>exact(AC wr).drew
    case hold_ak=>
     intro t ht;simp only[List.mem_cons,List.mem_nil_iff,or_false,not_or]at ht;unfold akS;split<;>first|rfl|trivial|(exfalso;simp at ht)
    case hs_ak=>
     refine⟨?_,?_,?_,?_,?_,?_,?_,?_,?_,?_,?_,trivial⟩
     ·refine AA fun a W hg hop=>?_;have h0:_=_:=hq hop 0;have h0':=tg h0;refine⟨_,?_,rfl⟩;simp only[execOp,h0];go_simp
     ·refine AA fun a W hg hop=>?_;have h5:_=_:=hq hop 5;have h5':=tg h5;refine⟨_,?_,rfl⟩;simp only[execOp,h5];go_simp
     ·refine AA fun a W hg hop=>?_;have h17:_=_:=hq hop 17;have h17':=tg h17;have h18:_=_:=hq hop 18;have h18':=tg h18;refine⟨_,?_,rfl⟩;have hlt:=HLT.out.1;simp only[execOp,h17,h18];go_simp
     ·refine AA fun a W hg hop=>?_;have h19:_=_:=hq hop 19;have h19':=tg h19;have hc:W.cell? ⟨b1,o1+k,none⟩=some (.int .u8 y1):=hg.cell HD1.out;refine⟨_,?_,rfl⟩;simp only[execOp,h19];go_simp
     ·refine AG ?_ ?_ ?_ ?_
      ·exact fun t v w1 w2 kl h=>ON b1 o1 b2 o2 l1.length l2.length c1 c2 k y1 y2 t v w1 w2 kl h
      ·exact fun _ _ _ _ h=>h
      ·exact fun w1 w2 k h=>Le.trans h k
      ·intro a W hg hop;have h20:_=_:=hq hop 20;have h20':=tg h20;refine⟨81,#[.int .u8 y1],?_,((JH y1 HY.out.1.1 HY.out.1.2 W)).mono ?_⟩
       ·simp only[execOp,h20];go_simp
       ·rintro e w' ⟨rfl,rfl⟩;exact⟨_,rfl,AC _,rfl⟩
     ·refine AA fun a W hg hop=>?_;have h1:_=_:=hq hop 1;have h1':=tg h1;refine⟨_,?_,rfl⟩;simp only[execOp,h1];go_simp
     ·refine AA fun a W hg hop=>?_;have h5:_=_:=hq hop 5;have h5':=tg h5;refine⟨_,?_,rfl⟩;simp only[execOp,h5];go_simp
     ·refine AA fun a W hg hop=>?_;have h22:_=_:=hq hop 22;have h22':=tg h22;have h23:_=_:=hq hop 23;have h23':=tg h23;refine⟨_,?_,rfl⟩;have hlt:=HLT.out.2;simp only[execOp,h22,h23];go_simp
     ·refine AA fun a W hg hop=>?_;have h24:_=_:=hq hop 24;have h24':=tg h24;have hc:W.cell? ⟨b2,o2+k,none⟩=some (.int .u8 y2):=hg.cell HD2.out;refine⟨_,?_,rfl⟩;simp only[execOp,h24];go_simp
     ·refine AG ?_ ?_ ?_ ?_
      ·exact fun t v w1 w2 kl h=>ON b1 o1 b2 o2 l1.length l2.length c1 c2 k y1 y2 t v w1 w2 kl h
      ·exact fun _ _ _ _ h=>h
      ·exact fun w1 w2 k h=>Le.trans h k
      ·intro a W hg hop;have h25:_=_:=hq hop 25;have h25':=tg h25;refine⟨81,#[.int .u8 y2],?_,((JH y2 HY.out.2.1 HY.out.2.2 W)).mono ?_⟩
       ·simp only[execOp,h25];go_simp
       ·rintro e w' ⟨rfl,rfl⟩;exact⟨_,rfl,AC _,rfl⟩
     ·refine AA fun a W hg hop=>?_;have h21:_=_:=hq hop 21;have h21':=tg h21;have h26:_=_:=hq hop 26;have h26':=tg h26;refine⟨_,?_,rfl⟩;simp only[execOp,h21,h26];go_simp
    case hend_ak=>
     intro s_ wz hg hS hZ;have HLZ:=Hi (show Le wr wz from hg);have s27:s_ 27= .bool (lwI y1 != lwI y2):=hS 27 (by decide);clear hS hZ hg;simp only[Aj,Act.put,List.setIfInBounds_toArray,List.set_cons_zero,List.set_cons_succ];rw[s27];clear s27;obtain⟨q,hq⟩:∃q,(lwI y1 != lwI y2)=q:=⟨_,rfl⟩;rw[hq];clear hq;cases q
     ·go_wp2;go_roundg (gk-1)
      case measure=>omega
      case rel=>exact⟨k+1,by omega,by go_num,HD.out.trans HLZ.out⟩
     ·go_wp2;go_ret;exact⟨false,rfl,HD.out.trans HLZ.out⟩
   ·go_wp2;go_ret;exact⟨true,rfl,HD.out⟩
def RX(w:World)(e:Ending)(w':World):Prop:=∃t:Int,e= .returned (.int .i64 t)∧0≤t∧t≤14∧Le w w'
theorem Kz(v:Value)(l:Tx)(w:World)(hv:Bv w v l):Calls Tryz.prog 34 #[v] w (RX w):=by
 have HV:=Hi hv;obtain⟨A,c,rfl,h1,h2,h4⟩:=hv;have h3:=h4.1;have HR:=Hi h4;clear h4;go_enter Tryz.func34,Tryz.ntmps34;go_wp2
 go_loopg [3] (15) (fun n iv wr=>∃k:Nat,n+k=16∧1≤k∧iv= .int .i64 k∧Le w wr)
 case atStart=>exact⟨1,by omega,by omega,rfl,AC w⟩
 case round=>
  obtain⟨k,hn,hk1,rfl,hle⟩:=hrel;have HLE:=Hi hle;have HN:gk+k≤16∧16≤gk+k:=by omega
  clear hn hle
  rename World=>wr
  by_cases hlt:k≤14
  ·obtain⟨s,hs⟩:∃s,s=nmT (k:Int):=⟨_,rfl⟩;have hsl:s.length≤14:=by rw[hs];exact C3 _
   have HNM:Hid (Calls Tryz.prog 28 #[.int .i64 (k:Int)] wr fun e w'=>e= .returned (.string (st s))∧w'=wr):=Hi (by rw[hs];exact EG k (by omega) (by omega) wr);clear hs;go_wp2_with fail
   refine HNM.out.mono ?_;rintro e w' ⟨rfl,rfl⟩;obtain⟨B1,e1,W1,q1,le1,bt1⟩:=AT (base:=0) w' (st s) (Nat.zero_le _) (by rw[AF];omega);rw[AV]at bt1;have HB1:=Hi bt1.1;have HL1:=Hi (HLE.out.trans le1);clear le1 bt1;go_wp2_with fail
   refine(Mu _ _ l s W1 (HV.out.le HL1.out) HB1.out).mono ?_;rintro e w2 ⟨b,rfl,hd⟩;have HL2:=Hi (HL1.out.trans hd);clear hd q1;cases b
   ·go_wp2;go_roundg (gk-1)
    case measure=>omega
    case rel=>exact⟨k+1,by omega,by omega,by go_num,HL2.out⟩
   ·go_wp2;go_ret;exact⟨k,rfl,by omega,by omega,HL2.out⟩
  ·by_cases hl1:l.length=1
   ·have hb:((l.length:Int) != 1)=false:=by simp[hl1]
    obtain⟨b,o,rfl,d0⟩:=HR.out.at_ (k:=0) (by omega);have d1:=HLE.out.cell d0;rw[Nat.add_zero]at d1;have x1:(l[0]).toNat<256:=(l[0]).toNat_lt;generalize hx1:((l[0]).toNat:Int)=a1 at d1;clear d0;go_upto_region 9 with fail
    generalize bits BinOp.or IntKind.u8 a1 32=y;obtain⟨q116,hq116⟩:∃q,((y:Int)==116)=q:=⟨_,rfl⟩;cases q116;case true=>
     go_wp2;go_ret;exact⟨1,rfl,by omega,by omega,HLE.out⟩
    obtain⟨q102,hq102⟩:∃q,((y:Int)==102)=q:=⟨_,rfl⟩;cases q102;case true=>
     go_wp2;go_ret;exact⟨2,rfl,by omega,by omega,HLE.out⟩
    obtain⟨q109,hq109⟩:∃q,((y:Int)==109)=q:=⟨_,rfl⟩;cases q109;case true=>
     go_wp2;go_ret;exact⟨3,rfl,by omega,by omega,HLE.out⟩
    obtain⟨q105,hq105⟩:∃q,((y:Int)==105)=q:=⟨_,rfl⟩;cases q105;case true=>
     go_wp2;go_ret;exact⟨4,rfl,by omega,by omega,HLE.out⟩
    obtain⟨q108,hq108⟩:∃q,((y:Int)==108)=q:=⟨_,rfl⟩;cases q108;case true=>
     go_wp2;go_ret;exact⟨8,rfl,by omega,by omega,HLE.out⟩
    obtain⟨q118,hq118⟩:∃q,((y:Int)==118)=q:=⟨_,rfl⟩;cases q118;case true=>
     go_wp2;go_ret;exact⟨9,rfl,by omega,by omega,HLE.out⟩
    obtain⟨q99,hq99⟩:∃q,((y:Int)==99)=q:=⟨_,rfl⟩;cases q99;case true=>
     go_wp2;go_ret;exact⟨10,rfl,by omega,by omega,HLE.out⟩
    go_wp2;go_ret;exact⟨0,rfl,by omega,by omega,HLE.out⟩
   ·have hb:((l.length:Int) != 1)=true:=by simp;omega
    go_wp2;go_ret;exact⟨0,rfl,by omega,by omega,HLE.out⟩
end Go.Proofs.YtejhpdcjafbklaaGreatDoor
