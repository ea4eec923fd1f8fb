/- The law FnHeadWritten: HwZ. -/
import Derived.Test.YtejhpdcjafbklaaGreatDoorHwJ
set_option linter.all false
set_option maxHeartbeats 16000000
set_option maxRecDepth 8000
namespace Go.Proofs.YtejhpdcjafbklaaGreatDoor
open Go.RowKit
theorem MB{u v:PU}(h:gv u=some v)(hw:u.wild=false):v.wild=false:=by
 by_cases hr:u.raw=[]
 ·unfold gv at h;rw[if_pos hr]at h;injection h with h
  rw[←h];exact hw
 ·have e:=(RI h hr).1;rw[e];rfl
theorem Pt{p:PH}{v:PU}(h:HSz {p with uri:=v}):(hTx p v).length≤2100000000:=by
 have h1:(vTx p v).length≤2000000100:=H7 h;have h2:p.name.length≤1000000:=h.name;have h3:=C3 p.t;unfold hTx nTx;split<;>simp only[LA,LC]<;>omega
def Rc(p:PH)(w:World)(e:Ending)(w':World):Prop:=∃b:Bool,e= .returned (.bool b)∧Le w w'∧(b=true→∃v,Rgt p v)
def haS(W4:World)(b:Nat)(AL:Option Addr)(nL cL:Nat)(kd:Int)(gB:Nat)(x y:HV)(p q:PH)(u0:PU):Nat→Value→World→Prop
 |1,v,_=>v=(.pointer (some ⟨b,0,none⟩))
 |2,v,_=>v=(.bool false)
 |7,v,_=>v=(.slice AL nL cL)
 |8,v,_=>v=(.int .i64 kd)
 |42,v,_=>v=(.int .i64 kd)
 |43,v,_=>v=(.bool false)
 |44,v,_=>v=(.bool false)
 |48,v,_=>v=(.bool false)
 |49,v,_=>v=(.bool false)
 |55,v,_=>v=(.bool false)
 |_,_,_=>True
def hbS(W4:World)(b:Nat)(AL:Option Addr)(nL cL:Nat)(kd:Int)(gB:Nat)(x y:HV)(p q:PH)(u0:PU):Nat→Value→World→Prop
 |1,v,_=>v=(.pointer (some ⟨b,0,none⟩))
 |2,v,_=>v=(.bool false)
 |7,v,_=>v=(.slice AL nL cL)
 |8,v,_=>v=(.int .i64 kd)
 |42,v,_=>v=(.int .i64 kd)
 |43,v,_=>v=(.bool true)
 |44,v,_=>v=(.bool true)
 |45,v,_=>v=(.slice AL nL cL)
 |46,v,_=>v=(.int .i64 (nL:Int))
 |47,v,_=>v=(.bool false)
 |48,v,_=>v=(.bool false)
 |49,v,_=>v=(.bool false)
 |55,v,_=>v=(.bool false)
 |_,_,_=>True
def hcS(W4:World)(b:Nat)(AL:Option Addr)(nL cL:Nat)(kd:Int)(gB:Nat)(x y:HV)(p q:PH)(u0:PU):Nat→Value→World→Prop
 |1,v,_=>v=(.pointer (some ⟨b,0,none⟩))
 |2,v,w_=>∃k:Bool,v= .bool k∧(k=true→nmd q q.uri=nmd p u0)
 |7,v,_=>v=(.slice (some ⟨gB,0,none⟩) 1 cL)
 |8,v,_=>v=(.int .i64 kd)
 |42,v,_=>v=(.int .i64 kd)
 |43,v,_=>v=(.bool true)
 |44,v,_=>v=(.bool true)
 |45,v,_=>v=(.slice (some ⟨gB,0,none⟩) 1 cL)
 |46,v,_=>v=(.int .i64 1)
 |47,v,_=>v=(.bool true)
 |48,v,_=>v=(.bool true)
 |49,v,_=>v=(.bool true)
 |50,v,_=>v=(.slice (some ⟨gB,0,none⟩) 1 cL)
 |51,v,_=>v=(.pointer (some ⟨gB,0,none⟩))
 |52,v,_=>v=y.val
 |53,v,_=>v=x.val
 |54,v,w_=>∃k:Bool,v= .bool k∧(k=true→nmd q q.uri=nmd p u0)
 |55,v,w_=>∃k:Bool,v= .bool k∧(k=true→nmd q q.uri=nmd p u0)
 |_,_,_=>True
theorem RH(W4:World)(b:Nat)(AL:Option Addr)(nL cL:Nat)(kd:Int)(gB:Nat)(x y:HV)(p q:PH)(u0:PU)(t:Nat)(v:Value)(w1 w2:World)(k:Le w1 w2)(h:hcS W4 b AL nL cL kd gB x y p q u0 t v w1):hcS W4 b AL nL cL kd gB x y p q u0 t v w2:=by
 unfold hcS at h⊢;split at h<;>first|exact h|exact h
theorem K3(ψ:Nat→Prop)(x:HV)(p:PH)(w:World)(hx:Hz ψ w x p)(hs:∀v,gv p.uri=some v→HSz {p with uri:=v})(hl:p.uri.scheme.length+p.uri.raw.length≤1099511626000)(hL:BW w):
 Calls Tryz.prog 6 #[x.val] w (Rc p w):=by
 have HX:=Hi hx;have HS:=Hi hs;have HLN:=Hi hl;have HL:=Hi hL;clear hx hs hl hL;change Calls _ _ #[.agg x.row] _ _;go_enter Tryz.func6,Tryz.ntmps6;go_upto_region 1 with fail
 change Code.wp _ _ _ _ (w.alloc (Obj.cells x.row 37));have HB:=Hi (heap_alloc_new w (Obj.cells x.row 37));have HL0:Hid (Le w (w.alloc (Obj.cells x.row 37))):=Hi ((AC w).alloc _);generalize w.alloc (Obj.cells x.row 37)=W0 at HB HL0⊢;obtain⟨b,hb⟩:∃b,b=w.heap.size:=⟨_,rfl⟩;rw[←hb]at HB⊢;clear hb
 go_wp2_with (refine BN rfl 35 (.tmp 10) rfl b 4 rfl 37 x.row x.uri.row (0,0) _ HB.out (CF x) Tryz.underlying35 rfl AI ?_)
 refine(Ir ψ x.uri p.uri W0 (HX.out.uri.le HL0.out) (fun _=>HLN.out)).mono ?_;rintro e W1 ⟨y,ok,rfl,hle1,hone,hok,huz⟩;have HY1:=Hi hone;have HOK:=Hi hok;have HL1:Hid (Le w W1):=Hi (HL0.out.trans hle1);have HR1:=Hi (hle1.heap HB.out);clear hle1 hone hok huz
 go_upto_region 2 with(refine AD rfl 35 (.tmp 3) (.tmp 13) rfl W1.heap.size y.row rfl rfl 35 Ai (heap_alloc_new W1 _) AI rfl HY1.out ?_)
 intro W2 hz2 hk2;have HL12:Hid (Le W1 W2):=Hi (Below.trans ((AC W1).alloc _) (hk2.below (NL _) ((AC W1).alloc _).size));have HL2:Hid (Le w W2):=Hi (HL1.out.trans HL12.out);have HR2:=Hi (HL12.out.heap HR1.out);have HX2:=Hi (HX.out.le HL2.out);clear hz2 hk2;obtain⟨tt,htt⟩:∃t,t=x.t:=⟨_,rfl⟩;have HTT:Hid (tt=p.t):=Hi (by rw[htt,HX.out.t])
 obtain⟨xw,hxw⟩:∃t,t=x.uri.wild:=⟨_,rfl⟩;have HXW:Hid (xw=p.uri.wild):=Hi (by rw[hxw,HX.out.uri.toUq.wild]);have g0:W2.cell? ⟨b,0,none⟩=some (.int .i64 tt):=by rw[AB HR2.out 0,htt];rfl
 have g6:W2.cell? ⟨b,6,none⟩=some (.bool xw):=by rw[AB HR2.out 6,hxw];rfl
 clear htt hxw;cases ok;case false=>
  go_wp2;go_ret;exact⟨false,rfl,HL2.out,fun h=>by cases h⟩
 by_cases h0:tt<0
 ·have d0:decide (tt<0)=true:=decide_eq_true h0;clear h0;go_wp2;go_ret;exact⟨false,rfl,HL2.out,fun h=>by cases h⟩
 have d0:decide (tt<0)=false:=decide_eq_false h0;by_cases h1:14<tt
 ·have d1:decide (14<tt)=true:=decide_eq_true h1;clear h0 h1;go_wp2;go_ret;exact⟨false,rfl,HL2.out,fun h=>by cases h⟩
 have d1:decide (14<tt)=false:=decide_eq_false h1;have HTR:Hid (0≤p.t∧p.t≤14):=Hi (by have:=HTT.out;omega);clear h0 h1;cases xw;case true=>
  go_wp2;go_ret;exact⟨false,rfl,HL2.out,fun h=>by cases h⟩
 have HPW:Hid (p.uri.wild=false):=Hi HXW.out.symm;obtain⟨u0,hu0⟩:=Option.isSome_iff_exists.1 (HOK.out.1 rfl);have HGV:=Hi hu0;have HSV:=Hi (HS.out u0 hu0);clear hu0;go_wp2_with (refine wpList_load_row rfl 37 (.tmp 1) rfl b rfl 37 x.row (0,0) _ HR2.out Tryz.underlying37 rfl AS ?_)
 refine(JI ψ x p u0 W2 HX2.out HGV.out HLN.out (MB HGV.out HPW.out) HSV.out HTR.out (HL.out.le HL2.out)).mono ?_;rintro e W3 ⟨va,vb,rfl,hba,hbb,hle3⟩;have HBA:=Hi hba;have HL3:=Hi hle3;have HHL:=Hi (Pt HSV.out);obtain⟨Aa,ca,rfl⟩:=hba.form;obtain⟨Ab,cb,rfl⟩:=hbb.form;generalize hna:(hTx p u0).length=na at HBA HHL⊢;generalize hnb:(vTx p u0).length=nb at⊢
 have HNA:=Hi hna;clear hba hbb hle3 g0 g6 d0 d1 hna hnb;go_wp2_with fail
 refine(G0 (.slice Aa na ca) (hTx p u0) W3 HBA.out (by have:=HHL.out;have:=HNA.out;omega)).mono ?_;rintro e W4 ⟨AL,nL,cL,kd,rfl,hle4,hnc,hcm,hqq⟩;have HQ:=Hi hqq;have HL4:Hid (Le w W4):=Hi ((HL2.out.trans HL3.out).trans hle4);have HR4:=Hi (hle4.heap (HL3.out.heap HR2.out));have HX4:=Hi ((HX2.out.le HL3.out).le hle4);clear hle4 hnc hcm hqq;go_upto_region 6 with fail
 by_cases hk0:kd=0;case neg=>
  have HKD:Hid ((kd==0)=false):=Hi (by rw[beq_eq_false_iff_ne];exact hk0);clear hk0;have hm_ha:(Tryz.prog).follows .mixedOrders=true:=by kernel_rfl
  refine G2.wp_region_grow_put (haS W4 b AL nL cL kd 0 x x p p u0) (fun _ _=>True) ((Le W4)) 56 [42,43,44,45,46,47,48,49,50,51,52,53,54,55,2] hm_ha (by kernel_rfl) rfl rfl ?hG_ha ?hold_ha ?hs_ha ?hend_ha;case hG_ha=>exact(AC W4).drew
  case hold_ha=>
   intro t ht;simp only[List.mem_cons,List.mem_nil_iff,or_false,not_or]at ht;unfold haS;split<;>first|exact True.intro|(exfalso;simp at ht;done)|rfl
  case hs_ha=>
   refine⟨?_,?_,?_,?_,?_,?_,?_,?_,?_,?_,?_,?_,?_,?_,?_,trivial⟩
   ·refine .free (AA ?_) rfl;intro a W hg hop;have h8:_=_:=hq hop 8;have h8':=tg h8;refine⟨_,?_,rfl⟩;simp only[execOp,h8];go_simp
   ·refine .free (AA ?_) rfl;intro a W hg hop;have h42:_=_:=hq hop 42;have h42':=tg h42;refine⟨_,?_,rfl⟩;have hkd:=HKD.out;simp only[execOp,h42];go_simp
   ·refine .free (AA ?_) rfl;intro a W hg hop;have h43:_=_:=hq hop 43;have h43':=tg h43;refine⟨_,?_,rfl⟩;simp only[execOp,h43];go_simp
   ·refine .inr ⟨⟨2,true,_,44,rfl,rfl,rfl,by kernel_rfl,?_⟩,fun _ _=>trivial⟩;intro a W _ ha;obtain rfl:a= .bool false:=ha;rfl
   ·refine .inr ⟨⟨2,true,_,44,rfl,rfl,rfl,by kernel_rfl,?_⟩,fun _ _=>trivial⟩;intro a W _ ha;obtain rfl:a= .bool false:=ha;rfl
   ·refine .inr ⟨⟨2,true,_,44,rfl,rfl,rfl,by kernel_rfl,?_⟩,fun _ _=>trivial⟩;intro a W _ ha;obtain rfl:a= .bool false:=ha;rfl
   ·refine .free (AA ?_) rfl;intro a W hg hop;have h44:_=_:=hq hop 44;have h44':=tg h44;refine⟨_,?_,rfl⟩;simp only[execOp,h44];go_simp
   ·refine .free (AA ?_) rfl;intro a W hg hop;have h48:_=_:=hq hop 48;have h48':=tg h48;refine⟨_,?_,rfl⟩;simp only[execOp,h48];go_simp
   ·refine .inr ⟨⟨7,true,_,49,rfl,rfl,rfl,by kernel_rfl,?_⟩,fun _ _=>trivial⟩;intro a W _ ha;obtain rfl:a= .bool false:=ha;rfl
   ·refine .inr ⟨⟨7,true,_,49,rfl,rfl,rfl,by kernel_rfl,?_⟩,fun _ _=>trivial⟩;intro a W _ ha;obtain rfl:a= .bool false:=ha;rfl
   ·refine .inr ⟨⟨7,true,_,49,rfl,rfl,rfl,by kernel_rfl,?_⟩,fun _ _=>trivial⟩;intro a W _ ha;obtain rfl:a= .bool false:=ha;rfl
   ·refine .inr ⟨⟨7,true,_,49,rfl,rfl,rfl,by kernel_rfl,?_⟩,fun _ _=>trivial⟩;intro a W _ ha;obtain rfl:a= .bool false:=ha;rfl
   ·refine .inr ⟨⟨7,true,_,49,rfl,rfl,rfl,by kernel_rfl,?_⟩,fun _ _=>trivial⟩;intro a W _ ha;obtain rfl:a= .bool false:=ha;rfl
   ·refine .free (AA ?_) rfl;intro a W hg hop;have h49:_=_:=hq hop 49;have h49':=tg h49;refine⟨_,?_,rfl⟩;simp only[execOp,h49];go_simp
   ·refine .free (AA ?_) rfl;intro a W hg hop;have h55:_=_:=hq hop 55;have h55':=tg h55;refine⟨_,?_,rfl⟩;simp only[execOp,h55];go_simp
  case hend_ha=>
   intro s_ wz hg hS hZ;have s2:s_ 2= .bool false:=hS 2 (by decide);have HLZ:=Hi (show Le W4 wz from hg);clear hS hZ hg;simp only[Aj,Act.put,List.setIfInBounds_toArray,List.set_cons_zero,List.set_cons_succ];rw[s2];clear s2;go_wp2;go_ret;exact⟨false,rfl,HL4.out.trans HLZ.out,fun h=>by cases h⟩
 subst hk0;have HKD:Hid True:=Hi trivial;by_cases hn1:nL=1;case neg=>
  have HNL:Hid (((nL:Int)==1)=false):=Hi (by rw[beq_eq_false_iff_ne];omega);clear hn1;have hm_hb:(Tryz.prog).follows .mixedOrders=true:=by kernel_rfl
  refine G2.wp_region_grow_put (hbS W4 b AL nL cL 0 0 x x p p u0) (fun _ _=>True) ((Le W4)) 56 [42,43,44,45,46,47,48,49,50,51,52,53,54,55,2] hm_hb (by kernel_rfl) rfl rfl ?hG_hb ?hold_hb ?hs_hb ?hend_hb;case hG_hb=>exact(AC W4).drew
  case hold_hb=>
   intro t ht;simp only[List.mem_cons,List.mem_nil_iff,or_false,not_or]at ht;unfold hbS;split<;>first|exact True.intro|(exfalso;simp at ht;done)|rfl
  case hs_hb=>
   refine⟨?_,?_,?_,?_,?_,?_,?_,?_,?_,?_,?_,?_,?_,?_,?_,trivial⟩
   ·refine .free (AA ?_) rfl;intro a W hg hop;have h8:_=_:=hq hop 8;have h8':=tg h8;refine⟨_,?_,rfl⟩;simp only[execOp,h8];go_simp
   ·refine .free (AA ?_) rfl;intro a W hg hop;have h42:_=_:=hq hop 42;have h42':=tg h42;refine⟨_,?_,rfl⟩;have hkd:=HKD.out;simp only[execOp,h42];go_simp
   ·refine .free (AA ?_) rfl;intro a W hg hop;have h43:_=_:=hq hop 43;have h43':=tg h43;refine⟨_,?_,rfl⟩;simp only[execOp,h43];go_simp
   ·refine .inl ⟨AA ?_,.inr ⟨2,true,_,44,rfl,rfl,rfl,by kernel_rfl,?_⟩⟩
    ·intro a W hg hop;have h7:_=_:=hq hop 7;have h7':=tg h7;refine⟨_,?_,rfl⟩;simp only[execOp,h7];go_simp
    ·intro a W _ ha;obtain rfl:a= .bool true:=ha;rfl
   ·refine .inl ⟨AA ?_,.inr ⟨2,true,_,44,rfl,rfl,rfl,by kernel_rfl,?_⟩⟩
    ·intro a W hg hop;have h45:_=_:=hq hop 45;have h45':=tg h45;refine⟨_,?_,rfl⟩;simp only[execOp,h45];go_simp
    ·intro a W _ ha;obtain rfl:a= .bool true:=ha;rfl
   ·refine .inl ⟨AA ?_,.inr ⟨2,true,_,44,rfl,rfl,rfl,by kernel_rfl,?_⟩⟩
    ·intro a W hg hop;have h46:_=_:=hq hop 46;have h46':=tg h46;refine⟨_,?_,rfl⟩;have hnl:=HNL.out;simp only[execOp,h46];go_simp
    ·intro a W _ ha;obtain rfl:a= .bool true:=ha;rfl
   ·refine .free (AA ?_) rfl;intro a W hg hop;have h44:_=_:=hq hop 44;have h44':=tg h44;have h47:_=_:=hq hop 47;have h47':=tg h47;refine⟨_,?_,rfl⟩;simp only[execOp,h44,h47];go_simp
   ·refine .free (AA ?_) rfl;intro a W hg hop;have h48:_=_:=hq hop 48;have h48':=tg h48;refine⟨_,?_,rfl⟩;simp only[execOp,h48];go_simp
   ·refine .inr ⟨⟨7,true,_,49,rfl,rfl,rfl,by kernel_rfl,?_⟩,fun _ _=>trivial⟩;intro a W _ ha;obtain rfl:a= .bool false:=ha;rfl
   ·refine .inr ⟨⟨7,true,_,49,rfl,rfl,rfl,by kernel_rfl,?_⟩,fun _ _=>trivial⟩;intro a W _ ha;obtain rfl:a= .bool false:=ha;rfl
   ·refine .inr ⟨⟨7,true,_,49,rfl,rfl,rfl,by kernel_rfl,?_⟩,fun _ _=>trivial⟩;intro a W _ ha;obtain rfl:a= .bool false:=ha;rfl
   ·refine .inr ⟨⟨7,true,_,49,rfl,rfl,rfl,by kernel_rfl,?_⟩,fun _ _=>trivial⟩;intro a W _ ha;obtain rfl:a= .bool false:=ha;rfl
   ·refine .inr ⟨⟨7,true,_,49,rfl,rfl,rfl,by kernel_rfl,?_⟩,fun _ _=>trivial⟩;intro a W _ ha;obtain rfl:a= .bool false:=ha;rfl
   ·refine .free (AA ?_) rfl;intro a W hg hop;have h49:_=_:=hq hop 49;have h49':=tg h49;refine⟨_,?_,rfl⟩;simp only[execOp,h49];go_simp
   ·refine .free (AA ?_) rfl;intro a W hg hop;have h55:_=_:=hq hop 55;have h55':=tg h55;refine⟨_,?_,rfl⟩;simp only[execOp,h55];go_simp
  case hend_hb=>
   intro s_ wz hg hS hZ;have s2:s_ 2= .bool false:=hS 2 (by decide);have HLZ:=Hi (show Le W4 wz from hg);clear hS hZ hg;simp only[Aj,Act.put,List.setIfInBounds_toArray,List.set_cons_zero,List.set_cons_succ];rw[s2];clear s2;go_wp2;go_ret;exact⟨false,rfl,HL4.out.trans HLZ.out,fun h=>by cases h⟩
 subst hn1;obtain⟨gB,yq,q,rfl,hcl,hzq,hkq⟩:=HQ.out rfl rfl;have HCL:=Hi hcl;have HZQ:=Hi hzq;have HKQ:=Hi hkq;have HSQ:Hid (q.uri.raw≠[]→q.uri.scheme.length+q.uri.raw.length≤1099511626000):=Hi hkq.sz;clear hcl hzq hkq HQ;have hm_hc:(Tryz.prog).follows .mixedOrders=true:=by kernel_rfl
 refine G2.wp_region_grow_put (hcS W4 b (some ⟨gB,0,none⟩) 1 cL 0 gB x yq p q u0) (fun _ _=>True) ((Le W4)) 56 [42,43,44,45,46,47,48,49,50,51,52,53,54,55,2] hm_hc (by kernel_rfl) rfl rfl ?hG_hc ?hold_hc ?hs_hc ?hend_hc;case hG_hc=>exact(AC W4).drew
 case hold_hc=>
  intro t ht;simp only[List.mem_cons,List.mem_nil_iff,or_false,not_or]at ht;unfold hcS;split<;>first|exact True.intro|(exfalso;simp at ht;done)|rfl
 case hs_hc=>
  refine⟨?_,?_,?_,?_,?_,?_,?_,?_,?_,?_,?_,?_,?_,?_,?_,trivial⟩
  ·refine .free (AA ?_) rfl;intro a W hg hop;have h8:_=_:=hq hop 8;have h8':=tg h8;refine⟨_,?_,rfl⟩;simp only[execOp,h8];go_simp
  ·refine .free (AA ?_) rfl;intro a W hg hop;have h42:_=_:=hq hop 42;have h42':=tg h42;refine⟨_,?_,rfl⟩;have hkd:=HKD.out;simp only[execOp,h42];go_simp
  ·refine .free (AA ?_) rfl;intro a W hg hop;have h43:_=_:=hq hop 43;have h43':=tg h43;refine⟨_,?_,rfl⟩;simp only[execOp,h43];go_simp
  ·refine .inl ⟨AA ?_,.inr ⟨2,true,_,44,rfl,rfl,rfl,by kernel_rfl,?_⟩⟩
   ·intro a W hg hop;have h7:_=_:=hq hop 7;have h7':=tg h7;refine⟨_,?_,rfl⟩;simp only[execOp,h7];go_simp
   ·intro a W _ ha;obtain rfl:a= .bool true:=ha;rfl
  ·refine .inl ⟨AA ?_,.inr ⟨2,true,_,44,rfl,rfl,rfl,by kernel_rfl,?_⟩⟩
   ·intro a W hg hop;have h45:_=_:=hq hop 45;have h45':=tg h45;refine⟨_,?_,rfl⟩;simp only[execOp,h45];go_simp
   ·intro a W _ ha;obtain rfl:a= .bool true:=ha;rfl
  ·refine .inl ⟨AA ?_,.inr ⟨2,true,_,44,rfl,rfl,rfl,by kernel_rfl,?_⟩⟩
   ·intro a W hg hop;have h46:_=_:=hq hop 46;have h46':=tg h46;refine⟨_,?_,rfl⟩;simp only[execOp,h46];go_simp
   ·intro a W _ ha;obtain rfl:a= .bool true:=ha;rfl
  ·refine .free (AA ?_) rfl;intro a W hg hop;have h44:_=_:=hq hop 44;have h44':=tg h44;have h47:_=_:=hq hop 47;have h47':=tg h47;refine⟨_,?_,rfl⟩;simp only[execOp,h44,h47];go_simp
  ·refine .free (AA ?_) rfl;intro a W hg hop;have h48:_=_:=hq hop 48;have h48':=tg h48;refine⟨_,?_,rfl⟩;simp only[execOp,h48];go_simp
  ·refine .inl ⟨AA ?_,.inr ⟨7,true,_,49,rfl,rfl,rfl,by kernel_rfl,?_⟩⟩
   ·intro a W hg hop;have h7:_=_:=hq hop 7;have h7':=tg h7;refine⟨_,?_,rfl⟩;simp only[execOp,h7];go_simp
   ·intro a W _ ha;obtain rfl:a= .bool true:=ha;rfl
  ·refine .inl ⟨AA ?_,.inr ⟨7,true,_,49,rfl,rfl,rfl,by kernel_rfl,?_⟩⟩
   ·intro a W hg hop;have h50:_=_:=hq hop 50;have h50':=tg h50;refine⟨_,?_,rfl⟩;simp only[execOp,h50];go_simp
   ·intro a W _ ha;obtain rfl:a= .bool true:=ha;rfl
  ·refine .inl ⟨AA ?_,.inr ⟨7,true,_,49,rfl,rfl,rfl,by kernel_rfl,?_⟩⟩
   ·intro a W hg hop;have h51:_=_:=hq hop 51;have h51':=tg h51;refine⟨_,?_,rfl⟩;have hs:=G9 (P:=Tryz.prog) W gB 0 37 yq.row _ (fun k u hu=>by rw[Nat.zero_add];exact hg.cell (HCL.out k u hu)) Tryz.underlying37 rfl AS;simp only[execOp,h51,hs,Sem.run_bind,Sem.run_pure,Result.andThen,Sem.run_map];try rfl
   ·intro a W _ ha;obtain rfl:a= .bool true:=ha;rfl
  ·refine .inl ⟨AA ?_,.inr ⟨7,true,_,49,rfl,rfl,rfl,by kernel_rfl,?_⟩⟩
   ·intro a W hg hop;have h1:_=_:=hq hop 1;have h1':=tg h1;refine⟨_,?_,rfl⟩;have hs:=Bc (P:=Tryz.prog) (hg.heap HR4.out) Tryz.underlying37 rfl AS;simp only[execOp,h1,hs,Sem.run_bind,Sem.run_pure,Result.andThen,Sem.run_map];try rfl
   ·intro a W _ ha;obtain rfl:a= .bool true:=ha;rfl
  ·refine .inl ⟨AG ?_ ?_ ?_ ?_,.inr ⟨7,true,_,49,rfl,rfl,rfl,by kernel_rfl,?_⟩⟩
   ·exact fun t v w1 w2 kl h=>RH W4 b (some ⟨gB,0,none⟩) 1 cL 0 gB x yq p q u0 t v w1 w2 kl h
   ·exact fun _ _ _ _ h=>h
   ·exact fun w1 w2 k h=>Le.trans h k
   ·intro a W hg hop;have h52:_=_:=hq hop 52;have h52':=tg h52;have h53:_=_:=hq hop 53;have h53':=tg h53;refine⟨18,#[yq.val,x.val],?_,(Oz _ _ yq x q p q.uri u0 W (HZQ.out.le hg) (HX4.out.le hg) HKQ.out.gv HGV.out HSQ.out (fun _=>HLN.out)).mono ?_⟩
    ·simp only[execOp,h52,h53];go_simp
    ·rintro e w' ⟨k,rfl,hle,hk⟩;exact⟨_,rfl,hle,k,rfl,hk⟩
   ·intro a W _ ha;obtain rfl:a= .bool true:=ha;rfl
  ·refine .free (AA ?_) rfl;intro a W hg hop;have h49:_=_:=hq hop 49;have h49':=tg h49;have h54:∃k:Bool,(a.eval (.tmp 54))= .bool k∧(k=true→nmd q q.uri=nmd p u0):=(hq hop 54);obtain⟨k5,e54,hk5⟩:=h54;have e54':=tg e54;refine⟨.bool k5,?_,⟨k5,rfl,hk5⟩⟩;simp only[execOp,h49,e54];go_simp
  ·refine .free (AA ?_) rfl;intro a W hg hop;have h55:∃k:Bool,(a.eval (.tmp 55))= .bool k∧(k=true→nmd q q.uri=nmd p u0):=(hq hop 55);obtain⟨k5,e55,hk5⟩:=h55;have e55':=tg e55;refine⟨.bool k5,?_,⟨k5,rfl,hk5⟩⟩;simp only[execOp,e55];go_simp
 case hend_hc=>
  intro s_ wz hg hS hZ;obtain⟨k2,s2,hk2⟩:∃k:Bool,s_ 2= .bool k∧(k=true→nmd q q.uri=nmd p u0):=hS 2 (by decide);have HLZ:=Hi (show Le W4 wz from hg);have HK2:=Hi hk2;clear hS hZ hg hk2;simp only[Aj,Act.put,List.setIfInBounds_toArray,List.set_cons_zero,List.set_cons_succ];rw[s2];clear s2;go_wp2;go_ret
  exact⟨k2,rfl,HL4.out.trans HLZ.out,fun h=>⟨u0,Qb HTR.out.1 HTR.out.2 HPW.out HGV.out HKQ.out (HK2.out h)⟩⟩
end Go.Proofs.YtejhpdcjafbklaaGreatDoor
