/- The law FnHeadWritten: SAf HwR Oph. -/
import Derived.Deep.Cut
import Derived.Test.YtejhpdcjafbklaaGreatDoorSAe
set_option linter.all false
set_option maxHeartbeats 16000000
set_option maxRecDepth 100000
namespace Go.Proofs.YtejhpdcjafbklaaGreatDoor
open Go.RowKit
theorem J0{l:Tx}(h:¬BC l 60<l.length):Bi l=Dy l:=by unfold Bi;rw[if_neg h]
theorem G1{l:Tx}{k:Nat}(hk:BC l 60=k)(hkl:k<l.length)(h:¬(BC l 62<l.length∧k≤BC l 62)):Bi l= .open_:=by
 unfold Bi;rw[hk,if_pos hkl,if_neg h]
theorem Mv{l:Tx}{k e:Nat}(hk:BC l 60=k)(hkl:k<l.length)(he:BC l 62=e)(hel:e<l.length)(hke:k≤e):Bi l=
 match Jv (l.take k)with
 |none=> .open_
 |some n=>
  match By ((l.take e).drop (k+1))with
  | .val u=>(match C7 (l.drop (e+1))with|some kvs=>if u.wild=true then .open_ else .val n u kvs|none=> .open_)
  |_=> .open_:=by
 unfold Bi;rw[hk,he,if_pos hkl,if_pos ⟨hel,hke⟩];rfl
theorem K6{l n:Tx}{u:PU}{kvs:KVs}(h:Dy l= .val n u kvs):n=[]∧kvs=[]∧By l= .val u:=by
 unfold Dy at h;split at h
 ·split at h
  ·rename_i u' hu
   split at h
   ·cases h
   ·injection h with h1 h2 h3
    exact⟨h1.symm,h3.symm,by rw[hu,h2]⟩
  ·cases h
 ·cases h
theorem NE{l:Tx}{k e:Nat}(hk:BC l 60=k)(hkl:k<l.length)(he:BC l 62=e)(hel:e<l.length):k≠e:=by
 rintro rfl;have a1:=List.findIdx_getElem (p:=(·==(60:UInt8))) (xs:=l) (w:=by rw[show List.findIdx (·==(60:UInt8)) l=k from hk];exact hkl);have a2:=List.findIdx_getElem (p:=(·==(62:UInt8))) (xs:=l) (w:=by rw[show List.findIdx (·==(62:UInt8)) l=k from he];exact hkl);simp only[beq_iff_eq]at a1 a2
 have e1:l[List.findIdx (·==(60:UInt8)) l]'(by rw[show List.findIdx (·==(60:UInt8)) l=k from hk];exact hkl)=l[k]:=by congr 1
 have e2:l[List.findIdx (·==(62:UInt8)) l]'(by rw[show List.findIdx (·==(62:UInt8)) l=k from he];exact hkl)=l[k]:=by congr 1
 rw[e1]at a1;rw[e2,a1]at a2;exact absurd a2 (by decide)
theorem Mt{l:Tx}{k:Nat}(hk:k≤l.length)(h0:0<k):Jv (l.take k)=
 if l[0]'(by omega)=34∧3<k∧l[k-1]'(by omega)=32∧l[k-2]'(by omega)=34∧JP ((l.take (k-2)).drop 1)=true then some ((l.take (k-2)).drop 1)
 else if l[k-1]'(by omega)=32∧D8 (l.take (k-1))=true then some (l.take (k-1))else none:=by
 have hl:(l.take k).length=k:=by rw[List.length_take];omega
 have hne:l.take k≠[]:=by intro h;rw[h]at hl;simp at hl;omega
 have e1:(l.take k).head? =some (l[0]'(by omega)):=by rw[List.head?_eq_getElem?,List.getElem?_eq_getElem (by omega)];simp
 have e2:(l.take k).getLast? =some (l[k-1]'(by omega)):=by rw[List.getLast?_eq_getElem?,List.getElem?_eq_getElem (by omega)];simp[hl]
 have e3:(l.take k)[k-2]? =some (l[k-2]'(by omega)):=by rw[List.getElem?_eq_getElem (by omega)];simp
 have t1:(l.take k).take (k-2)=l.take (k-2):=by rw[List.take_take];congr 1;omega
 have t2:(l.take k).take (k-1)=l.take (k-1):=by rw[List.take_take];congr 1;omega
 unfold Jv;rw[if_neg hne,hl,e1,e2,e3,t1,t2];simp only[Option.some.injEq]
theorem Iv{w:World}{A:Option Addr}{n c:Nat}{l:Tx}(h:Bv w (.slice A n c) l){lo hi:Nat}(h1:lo≤hi)(h2:hi≤l.length){z1 z2:Int}(e1:z1=lo)(e2:z2=hi):
 ∃v,Bv w v ((l.take hi).drop lo)∧(∀W,(Instr.slice 22 (.slice A n c) (some (.int .i64 z1)) (some (.int .i64 z2)) none).run Tryz.prog W= .ok v W)∧
  (∀W,(Instr.sliceAt 22 (.slice A n c) (some (.int .i64 z1)) (some (.int .i64 z2)) none).run Tryz.prog W= .ok v W):=by
 obtain⟨A',c',e,h3,_⟩:=id h;injection e with e3 e4 e5
 subst e3;subst e4;subst e5;subst e1;subst e2;have hb:=CD h h2 (m:=c) (by omega) (NL _);have hl:(l.take hi).length=hi:=by rw[List.length_take];omega
 have hb':Bv w (.slice A (l.take hi).length c) (l.take hi):=by rw[hl];exact hb
 have hf:=Iy hb' (k:=lo) (by omega);rw[hl]at hf;have h5:hi≤c:=by omega
 have q:∀W,(Instr.slice 22 (.slice A l.length c) (some (.int .i64 (lo:Int))) (some (.int .i64 (hi:Int))) none).run Tryz.prog W= .ok (.slice (if c=lo then A else A.map (·.add (lo*1))) (hi-lo) (c-lo)) W:=fun W=>by go_simp
 exact⟨_,hf,q,fun W=>by go_simp⟩
theorem Jk{w:World}{A:Option Addr}{n c:Nat}{l:Tx}(h:Bv w (.slice A n c) l){lo hi:Nat}(h1:lo≤hi)(h2:hi≤l.length){z1 z2:Int}(e1:z1=lo)(e2:z2=hi):
 ∃v,Bv w v ((l.take hi).drop lo)∧(∀W,(Instr.slice 22 (.slice A n c) (some (.int .i64 z1)) (some (.int .i64 z2)) (some (.int .i64 z2))).run Tryz.prog W= .ok v W)∧
  (∀W,(Instr.sliceAt 22 (.slice A n c) (some (.int .i64 z1)) (some (.int .i64 z2)) (some (.int .i64 z2))).run Tryz.prog W= .ok v W):=by
 obtain⟨A',c',e,h3,_⟩:=id h;injection e with e3 e4 e5
 subst e3;subst e4;subst e5;subst e1;subst e2;have hb:=CD h h2 (m:=hi) (by omega) (by omega);have hl:(l.take hi).length=hi:=by rw[List.length_take];omega
 have hb':Bv w (.slice A (l.take hi).length hi) (l.take hi):=by rw[hl];exact hb
 have hf:=Iy hb' (k:=lo) (by omega);rw[hl]at hf;have h5:hi≤c:=by omega
 have q:∀W,(Instr.slice 22 (.slice A l.length c) (some (.int .i64 (lo:Int))) (some (.int .i64 (hi:Int))) (some (.int .i64 (hi:Int)))).run Tryz.prog W= .ok (.slice (if hi=lo then A else A.map (·.add (lo*1))) (hi-lo) (hi-lo)) W:=fun W=>by go_simp
 exact⟨_,hf,q,fun W=>by go_simp⟩
theorem Eh{l:Tx}{w W WZ:World}(hs:Bi l= .open_)(hb:PB w W)(hz:WZ.heap[w.heap.size]? =some (.cells Ai 35 (0,0)))(hk:Kp w.heap.size W WZ):
 Ma (Bi l) w (.returned (.tuple #[.slice none 0 0,UV.nil.val,.slice none 0 0,.int .i64 (-2)])) WZ:=by
 rw[hs];exact⟨_,_,UV.nil,_,rfl,Below.trans hb.1 (hk.below (NL _) hb.1.size),AP,rfl,rfl,rfl,rfl⟩
theorem Ky{l:Tx}{kvs:KVs}(h:C7 l=some kvs):∀x∈kvs,x.1≠[]:=by
 unfold C7 at h;split at h
 ·injection h with h;subst h;simp
 ·split at h
  ·split at h
   ·rename_i hp
    split at h
    ·injection h with h;subst h;exact Ej hp
    ·cases h
   ·cases h
  ·cases h
def saS(b c:Nat)(nv pv:Value)(row:Array Value):Nat→Value→World→Prop
 |2,v,_=>v=nv
 |3,v,_=>v= .pointer (some ⟨b,0,none⟩)
 |4,v,_=>v=pv
 |5,v,_=>v= .int .i64 0
 |8,v,_=>v=nv
 |10,v,_=>v= .pointer (some ⟨c,0,none⟩)
 |12,v,_=>v=pv
 |127,v,_=>v=nv
 |128,v,_=>v= .agg row
 |129,v,_=>v=pv
 |_,_,_=>True
theorem Ot(b c:Nat)(nv pv:Value)(row:Array Value)(t:Nat)(v:Value)(w w':World)(h:saS b c nv pv row t v w):saS b c nv pv row t v w':=by
 unfold saS at h⊢;split at h<;>exact h
theorem FW(v:Value)(l:Tx)(w:World)(hv:Bv w v l)(hl:l.length≤1099511627000):
 Calls Tryz.prog 59 #[v] w (Ma (Bi l) w):=by
 have HV:=Hi hv;obtain⟨A,cc,rfl,h1,h2,h4⟩:=hv;have h3:=h4.1;clear h4;go_enter Tryz.func59,Tryz.ntmps59;go_upto_region 1 with fail
 have HPB:Hid (PB w (w.alloc (Obj.cells Ai 35))):=Hi ⟨(AC w).alloc _,heap_alloc_new w _⟩;have hzr:Ai= #[(.slice none 0 0),(.slice none 0 0),.bool false,.bool false,(.slice none 0 0),(.slice none 0 0),(.slice none 0 0),.int .i64 0,(.slice none 0 0),(.slice none 0 0)]:=rfl;rw[hzr]at HPB
 generalize w.alloc (Obj.cells #[(.slice none 0 0),(.slice none 0 0),.bool false,.bool false,(.slice none 0 0),(.slice none 0 0),(.slice none 0 0),.int .i64 0,(.slice none 0 0),(.slice none 0 0)] 35)=W0 at HPB⊢;clear hzr;have CI:=Hi (Br _ l 60 W0 (HV.out.le HPB.out.1));go_wp2_with fail
 refine CI.out.mono ?_;rintro e w' ⟨rfl,rfl⟩;clear CI;rcases Bo l 60 with⟨k,e1,hk,e2⟩|⟨e1,e2⟩;case inr=>
  rw[e1];have HS:=Hi (J0 e2);clear e1 e2;go_wp2_with fail
  refine(RS _ l W0 (HV.out.le HPB.out.1) hl).mono ?_;rintro e w1 ⟨nv,pv,x,kd,rfl,hle1,hone,hm⟩;have HM:=Hi hm;have HONE:=Hi hone;have HPB1:=Hi (HPB.out.to hle1);have HSZ0:=Hi HPB.out.1.size;clear hle1 hm hone HPB;go_wp2_with (refine AD rfl 35 (.tmp 3) (.tmp 21) rfl w.heap.size x.row rfl rfl 35 Ai HPB1.out.2 AI rfl HONE.out ?_)
  intro WZ hz hkz;have HLZ:Hid (Le w WZ):=Hi (Below.trans HPB1.out.1 (hkz.below (NL _) HPB1.out.1.size));have HZ:=Hi hz;have HKZ:=Hi hkz;clear hz hkz;go_wp2;refine bodyPost_ret (v:= .tuple #[nv,x.val,pv,.int .i64 kd]) (BV rfl HZ.out rfl rfl rfl rfl) rfl ⟨_,_,x,_,rfl,HLZ.out,HONE.out,?_⟩;rw[HS.out];have hm:=HM.out;rcases hb:Dy l with _|⟨n,u,kvs⟩
  ·rw[hb]at hm;exact hm
  ·rw[hb]at hm;obtain⟨m1,m2,m3,m4,m5⟩:=hm;obtain⟨rfl,rfl,hu⟩:=K6 hb;have hkey:=EE hu;have hkp:∀g,g≠w.heap.size→g<w1.heap.size→WZ.heap[g]? =w1.heap[g]? :=fun g hne hg=>HKZ.out.block g hg (fun e=>hne (by injection e))
   exact⟨m1,m2.keepZ HPB1.out.2 hkp,⟨m3.toUq.keepZ HPB1.out.2 hkp hkey.1 hkey.2,(m3.base HSZ0.out).op,(m3.base HSZ0.out).oh⟩,m4.keepZ HPB1.out.2 hkp (by simp),fun g e=>Nat.le_trans HSZ0.out (m5 g e)⟩
 rw[e1];have CI:=Hi (Br _ l 62 W0 (HV.out.le HPB.out.1));go_wp2_with fail
 refine CI.out.mono ?_;rintro e w' ⟨rfl,rfl⟩;clear CI;rcases Bo l 62 with⟨e,e3,he,e4⟩|⟨e3,e4⟩;case inr=>
  rw[e3];have HS:=Hi (G1 e2 hk (fun h=>e4 h.1));clear e1 e2 e3 e4;go_wp2_with (first|refine AH rfl 35 rfl (some 29) rfl Ai Af ?_ |refine AD rfl 35 (.tmp 3) (.tmp 29) rfl w.heap.size Ai rfl rfl 35 Ai HPB.out.2 AI rfl AP ?_)
  intro WZ hz hkz;have HZ:=Hi hz;have HKZ:=Hi hkz;clear hz hkz;go_wp2;exact bodyPost_ret (BV rfl HZ.out rfl rfl rfl rfl) rfl (Eh HS.out HPB.out HZ.out HKZ.out)
 rw[e3];by_cases hke:e<k
 ·have HS:=Hi (G1 e2 hk (fun h=>by have:=h.2;omega));have hke':(e:Int)<k:=by omega
  clear e1 e2 e3 e4;go_wp2_with (first|refine AH rfl 35 rfl (some 29) rfl Ai Af ?_ |refine AD rfl 35 (.tmp 3) (.tmp 29) rfl w.heap.size Ai rfl rfl 35 Ai HPB.out.2 AI rfl AP ?_)
  intro WZ hz hkz;have HZ:=Hi hz;have HKZ:=Hi hkz;clear hz hkz;go_wp2;exact bodyPost_ret (BV rfl HZ.out rfl rfl rfl rfl) rfl (Eh HS.out HPB.out HZ.out HKZ.out)
 have hke':(k:Int)≤e:=by omega
 have hne:=NE e2 hk e4 he;have HS:=Hi (Mv e2 hk e4 he (by omega));clear e1 e2 e3 e4;have HNM:=Hi (fun h=>Mt (l:=l) (k:=k) (by omega) h)
 go_upto_block 0 with fail
 go_cut [8]from 36 (fun s8 wx=>∃n,Jv (l.take k)=some n∧Bv wx s8 n∧PB w wx)
 case first=>
  by_cases h0:k=0
  ·subst h0;have HB0:=Hi (CD HV.out (k:=0) (m:=0) (by omega) (by omega) (by omega));go_wp2;go_meet;case rel=>exact⟨[],by rw[List.take_zero];unfold Jv;rw[if_pos rfl],by have h:=HB0.out.le HPB.out.1;rw[List.take_zero]at h;exact h,HPB.out⟩
  have hpos:0<k:=by omega
  have hz:((k:Int)==0)=false:=by simp;omega
  have HSN:=Hi (HNM.out hpos);have HN:=Hi (CD (HV.out.le HPB.out.1) (k:=k) (m:=k) (by omega) (by omega) (by omega));have t1:(l.take k).take (k-2)=l.take (k-2):=by rw[List.take_take];congr 1;omega
  have t2:(l.take k).take (k-1)=l.take (k-1):=by rw[List.take_take];congr 1;omega
  have hlk:(l.take k).length=k:=by rw[List.length_take];omega
  have T1:=Hi t1;have T2:=Hi t2;have HLK:=Hi hlk;clear t1 t2 hlk h0;obtain⟨b,o,hA,d1⟩:=(HV.out.le HPB.out.1).at' (show 0<l.length by omega);subst hA;rw[Nat.add_zero]at d1;obtain⟨b',o',e',d2⟩:=(HV.out.le HPB.out.1).at' (show k-1<l.length by omega);injection e' with e';injection e' with e1 e2;subst e1;subst e2
  obtain⟨b',o',e',d3⟩:=(HV.out.le HPB.out.1).at' (show k-2<l.length by omega);injection e' with e';injection e' with e1 e2;subst e1;subst e2
  obtain⟨x0,hx0⟩:∃x,x=l[0]'(by omega):=⟨_,rfl⟩;obtain⟨x1,hx1⟩:∃x,x=l[k-1]'(by omega):=⟨_,rfl⟩;obtain⟨x2,hx2⟩:∃x,x=l[k-2]'(by omega):=⟨_,rfl⟩;rw[←hx0]at d1;rw[←hx1]at d2;rw[←hx2]at d3;rw[←hx0,←hx1,←hx2]at HSN;clear hx0 hx1 hx2;go_upto_region 11 with fail
  go_cut [40]from 36 (fun s40 wx=>∃q:Bool,s40= .bool q∧W0=wx∧(q=true↔x0=34∧3<k∧x1=32∧x2=34∧JP ((l.take (k-2)).drop 1)=true))
  case first=>
   by_cases c1:x0=34;case neg=>
    have b1:((x0.toNat:Int)==34)=false:=by simpa using fun h=>c1 (Dw (n:=34) h (by decide))
    have HC:=Hi c1;clear c1;generalize(x0.toNat:Int)=y0 at d1 b1;go_wp2;go_meet;case rel=>exact⟨false,rfl,rfl,by simp[HC.out]⟩
   have b1:((x0.toNat:Int)==34)=true:=by rw[c1];rfl
   have HC1:=Hi c1;clear c1;generalize(x0.toNat:Int)=y0 at d1 b1;by_cases c2:3<k;case neg=>
    have b2:(k:Int)≤3:=by omega
    have HC:=Hi c2;clear c2;go_wp2;go_meet;case rel=>exact⟨false,rfl,rfl,by simp[HC.out]⟩
   have b2:(3:Int)<k:=by omega
   have HC2:=Hi c2;by_cases c3:x1=32;case neg=>
    have b3:((x1.toNat:Int)==32)=false:=by simpa using fun h=>c3 (Dw (n:=32) h (by decide))
    have HC:=Hi c3;clear c3;generalize(x1.toNat:Int)=y1 at d2 b3;go_wp2;go_meet;case rel=>exact⟨false,rfl,rfl,by simp[HC.out]⟩
   have b3:((x1.toNat:Int)==32)=true:=by rw[c3];rfl
   have HC3:=Hi c3;clear c3;generalize(x1.toNat:Int)=y1 at d2 b3;by_cases c4:x2=34;case neg=>
    have b4:((x2.toNat:Int)==34)=false:=by simpa using fun h=>c4 (Dw (n:=34) h (by decide))
    have HC:=Hi c4;clear c4;generalize(x2.toNat:Int)=y2 at d3 b4;go_wp2;go_meet;case rel=>exact⟨false,rfl,rfl,by simp[HC.out]⟩
   have b4:((x2.toNat:Int)==34)=true:=by rw[c4];rfl
   have HC4:=Hi c4;clear c4;generalize(x2.toNat:Int)=y2 at d3 b4;obtain⟨v5,hb5,q1,q2⟩:=Iv HN.out (lo:=1) (hi:=k-2) (z1:=1) (z2:=(k:Int)-2) (by omega) (by rw[HLK.out];omega) rfl (by omega);rw[T1.out]at hb5;obtain⟨r,hr⟩:∃r,JP ((l.take (k-2)).drop 1)=r:=⟨_,rfl⟩;have CQ:=NF v5 _ W0 hb5;rw[hr]at CQ;have CI:=Hi CQ;have HR:=Hi hr;clear hb5 CQ hr
   go_wp2_with (go_at_call 83;refine CI.out.mono ?_;rintro e w' ⟨rfl,rfl⟩)
   go_meet;case rel=>exact⟨r,rfl,rfl,by rw[HR.out];simp[HC1.out,HC2.out,HC3.out,HC4.out]⟩
  case rest=>
   obtain⟨q,rfl,rfl,hqq⟩:=hcut;rcases q with _|_;case true=>
    have hqq:=hqq.1 rfl;rw[if_pos hqq]at HSN;have b2:(3:Int)<k:=by have:=hqq.2.1;omega
    obtain⟨v5,hb5,q1,q2⟩:=Jk HN.out (lo:=1) (hi:=k-2) (z1:=1) (z2:=(k:Int)-2) (by omega) (by rw[HLK.out];omega) rfl (by omega);rw[T1.out]at hb5;have HB5:=Hi hb5;clear hb5 hqq;go_wp2;go_meet;case rel=>exact⟨_,HSN.out,HB5.out,HPB.out⟩
   have hq':¬(x0=34∧3<k∧x1=32∧x2=34∧JP ((l.take (k-2)).drop 1)=true):=fun h=>by cases hqq.2 h
   rw[if_neg hq']at HSN;clear hqq hq' d1 d3;go_upto_region 13 with fail
   go_cut [78]from 36 (fun s78 wx=>∃q:Bool,s78= .bool q∧Le W0 wx∧(q=true↔x1=32∧D8 (l.take (k-1))=true))
   case first=>
    by_cases c3:x1=32;case neg=>
     have b3:((x1.toNat:Int)==32)=false:=by simpa using fun h=>c3 (Dw (n:=32) h (by decide))
     have HC:=Hi c3;clear c3;generalize(x1.toNat:Int)=y1 at d2 b3;go_wp2;go_meet;case rel=>exact⟨false,rfl,AC _,by simp[HC.out]⟩
    have b3:((x1.toNat:Int)==32)=true:=by rw[c3];rfl
    have HC3:=Hi c3;clear c3;generalize(x1.toNat:Int)=y1 at d2 b3;have hb5:=CD HN.out (k:=k-1) (m:=k) (by rw[HLK.out];omega) (by omega) (by omega);rw[T2.out]at hb5;obtain⟨r,hr⟩:∃r,D8 (l.take (k-1))=r:=⟨_,rfl⟩;have CQ:=LX _ _ W0 W0 (AC _) hb5 (by rw[List.length_take];omega);rw[hr]at CQ;have CI:=Hi CQ;have HR:=Hi hr;clear hb5 CQ hr
    go_wp2_with (go_at_call 84;refine CI.out.mono ?_;rintro e w' ⟨rfl,hlw⟩)
    have HLW:=Hi hlw;clear hlw;go_wp2;go_meet;case rel=>exact⟨r,rfl,HLW.out,by rw[HR.out];simp[HC3.out]⟩
   case rest=>
    obtain⟨q,rfl,hlw,hqq⟩:=hcut;have HPBc:=Hi (HPB.out.to hlw);have HLW:=Hi hlw;clear hlw;rcases q with _|_;case true=>
     have hqq:=hqq.1 rfl;rw[if_pos hqq]at HSN;have hb5:=CD HN.out (k:=k-1) (m:=k-1) (by rw[HLK.out];omega) (by omega) (by omega);rw[T2.out]at hb5;have HB5:=Hi hb5;clear hb5 hqq;go_wp2;go_meet;case rel=>exact⟨_,HSN.out,HB5.out.le HLW.out,HPBc.out⟩
    have hq':¬(x1=32∧D8 (l.take (k-1))=true):=fun h=>by cases hqq.2 h
    rw[if_neg hq']at HSN;have hx:=HS.out;rw[HSN.out]at hx;have HX:Hid (Bi l= .open_):=Hi hx;clear hx hqq hq';go_wp2_with (first|refine AH rfl 35 rfl (some 36) rfl Ai Af ?_ |refine AD rfl 35 (.tmp 3) (.tmp 36) rfl w.heap.size Ai rfl rfl 35 Ai HPBc.out.2 AI rfl AP ?_)
    intro WZ hz hkz;have HZ:=Hi hz;have HKZ:=Hi hkz;clear hz hkz;go_wp2;exact bodyPost_ret (BV rfl HZ.out rfl rfl rfl rfl) rfl (Eh HX.out HPBc.out HZ.out HKZ.out)
 case rest=>
  obtain⟨n,hn,hbn,hpb⟩:=hcut;have hs:=HS.out;rw[hn]at hs;have HSA:Hid (Bi l=(match By ((l.take e).drop (k+1))with
   | .val u=>(match C7 (l.drop (e+1))with|some kvs=>if u.wild=true then .open_ else .val n u kvs|none=> .open_)
   |_=> .open_)):=Hi hs
  have HBN:=Hi hbn;have HPBc:=Hi hpb;obtain⟨An,mn,cn,rfl⟩:∃A m c,u8= .slice A m c:=by obtain⟨A,c,rfl,_⟩:=hbn;exact⟨_,_,_,rfl⟩
  obtain⟨v5,hb5,q1,q2⟩:=Jk (HV.out.le hpb.1) (lo:=k+1) (hi:=e) (z1:=(k:Int)+1) (z2:=(e:Int)) (by omega) (by omega) (by omega) rfl;have HB5:=Hi hb5;clear hn hbn hpb hs hb5 HNM HS HPB;go_wp2_with fail
  refine(IK v5 _ wc HB5.out (by rw[List.length_drop,List.length_take];omega)).mono ?_;rintro e5 w1 ⟨x,kd,rfl,hle1,hone,hm⟩;have HM:=Hi hm;have hsz0:=HPBc.out.1.size;have HONE:=Hi hone;have HPB1:=Hi (HPBc.out.to hle1);have HBN1:=Hi (HBN.out.le hle1);clear hle1 hm hone q1 q2 HPBc HBN HB5
  go_upto_region 16 with(first|refine AD rfl 35 (.tmp 10) (.tmp 106) rfl w1.heap.size x.row rfl rfl 35 Ai (heap_alloc_new w1 _) AI rfl HONE.out ?_)
  intro W2 hz2 hk2;have hle2:Le w1 W2:=Below.trans ((AC w1).alloc _) (hk2.below (NL _) ((AC w1).alloc _).size);have HPB2:=Hi (HPB1.out.to hle2);have HLE2:=Hi hle2;have HZ2:=Hi hz2;have HBN2:=Hi (HBN1.out.le hle2);obtain⟨v6,hb6,q3,q4⟩:=Bb (HV.out.le HPB2.out.1) (k:=e+1) (z:=(e:Int)+1) (by omega) (by omega);have HB6:=Hi hb6
  clear hz2 hk2 hle2 hb6 HBN1;go_wp2_with fail
  refine(N1 v6 _ W2 W2 (AC _) HB6.out (by rw[List.length_drop];omega)).mono ?_;rintro e6 w3 ⟨pv,ok,rfl,hle3,⟨A3,m3,c3,rfl⟩,hp⟩;have g2:w3.cell? ⟨w1.heap.size,2,none⟩=some (.bool x.wild):=AB (hle3.heap HZ2.out) 2;have HPB3:=Hi (HPB2.out.to hle3);have HP:=Hi hp;have HLE3:=Hi hle3;have HZ3:=Hi (hle3.heap HZ2.out);have HBN3:=Hi (HBN2.out.le hle3)
  clear hle3 hp q3 q4 HB6 HBN2;by_cases hk0:kd=0;case neg=>
   have HX:Hid (Bi l= .open_):=Hi (by
    rw[HSA.out];have h:=HM.out;rcases hs:By ((l.take e).drop (k+1))with _|_|u;all_goals (simp only[hs]at h;first|rfl|exact(hk0 h.1).elim))
   have hkb:(kd != 0)=true:=by simpa using hk0
   clear hk0 g2;go_wp2_with (first|refine AH rfl 35 rfl (some 126) rfl Ai Af ?_ |refine AD rfl 35 (.tmp 3) (.tmp 126) rfl w.heap.size Ai rfl rfl 35 Ai HPB3.out.2 AI rfl AP ?_)
   intro WZ hz hkz;have HZ:=Hi hz;have HKZ:=Hi hkz;clear hz hkz;go_wp2;exact bodyPost_ret (BV rfl HZ.out rfl rfl rfl rfl) rfl (Eh HX.out HPB3.out HZ.out HKZ.out)
  subst hk0;obtain⟨u,hu,hx⟩:∃u,By ((l.take e).drop (k+1))= .val u∧Ux w.heap.size w1 x u:=by
   have h:=HM.out;rcases hs:By ((l.take e).drop (k+1))with _|_|u;all_goals (rw[hs]at h;first|exact⟨_,rfl,h.2.base hsz0⟩|(exfalso;simp at h))
  have HSU:Hid (Bi l=(match C7 (l.drop (e+1))with|some kvs=>if u.wild=true then .open_ else .val n u kvs|none=> .open_)):=Hi (by rw[HSA.out,hu]);have HU:=Hi hx.toUq;have HXO:=Hi (And.intro hx.op hx.oh);have HKEY:=Hi (EE hu);rw[hx.wild]at g2;rcases hw:u.wild with _|_;case true=>
   rw[hw]at g2 HSU;have HX:Hid (Bi l= .open_):=Hi (by rw[HSU.out];cases C7 (l.drop (e+1))<;>rfl);clear hw hu hx;go_wp2_with (first|refine AH rfl 35 rfl (some 126) rfl Ai Af ?_ |refine AD rfl 35 (.tmp 3) (.tmp 126) rfl w.heap.size Ai rfl rfl 35 Ai HPB3.out.2 AI rfl AP ?_)
   intro WZ hz hkz;have HZ:=Hi hz;have HKZ:=Hi hkz;clear hz hkz;go_wp2;exact bodyPost_ret (BV rfl HZ.out rfl rfl rfl rfl) rfl (Eh HX.out HPB3.out HZ.out HKZ.out)
  rw[hw]at g2 HSU;clear hw hu hx;cases ok;case false=>
   have hp:=HP.out;rw[if_neg (by simp)]at hp;have HX:Hid (Bi l= .open_):=Hi (by rw[HSU.out,hp]);clear hp;go_wp2_with (first|refine AH rfl 35 rfl (some 126) rfl Ai Af ?_ |refine AD rfl 35 (.tmp 3) (.tmp 126) rfl w.heap.size Ai rfl rfl 35 Ai HPB3.out.2 AI rfl AP ?_)
   intro WZ hz hkz;have HZ:=Hi hz;have HKZ:=Hi hkz;clear hz hkz;go_wp2;exact bodyPost_ret (BV rfl HZ.out rfl rfl rfl rfl) rfl (Eh HX.out HPB3.out HZ.out HKZ.out)
  obtain⟨kvs,hp1,hp2,hp3⟩:∃kvs,C7 (l.drop (e+1))=some kvs∧kvs.length≤1099511627776∧KrS W2 w3 W2.heap.size (.slice A3 m3 c3) kvs:=by
   have hp:=HP.out;rw[if_pos rfl]at hp;exact hp
  have HX:Hid (Bi l= .val n u kvs):=Hi (by rw[HSU.out,hp1];rfl);have HTK:=Hi (Ky hp1);have HKQ:=Hi (hp3.kq HLE3.out hp2);have HKO:Hid (∀g,(Value.slice A3 m3 c3).ownBlock=some g→w.heap.size≤g):=Hi (fun g e=>Nat.le_trans HPB2.out.1.size (hp3.own g e));clear hp1 hp2 hp3 HP;go_upto_region 19 with fail
  have hm:(Tryz.prog).follows .mixedOrders=true:=by kernel_rfl
  have hne:w1.heap.size≠w.heap.size:=by have:=AQ HPB1.out.2;omega
  refine Bk (saS w.heap.size w1.heap.size (.slice An mn cn) (.slice A3 m3 c3) x.row) (fun _ W=>W.heap[w.heap.size]? =some (.cells x.row 35 (0,0))) (baG w3 w.heap.size w1.heap.size x.row) 130 hm (by kernel_rfl) rfl rfl ?hG ((List.range 130).filter fun t=> ![2,4,5,127,128,129].contains t) (by kernel_rfl) ?hold ?hs ?hend
  case hG=>exact⟨(Kp.refl _ _).le (AC _).drew,HZ3.out,_,rfl,HPB3.out.2⟩
  case hold=>
   intro t ht;unfold saS;split<;>first|trivial|rfl|(exfalso;revert ht;decide)
  case hs=>
   refine⟨?_,?_,?_,?_,?_,?_,?_,trivial⟩
   ·refine AA fun a W hg hop=>?_;have h1:_=_:=hq hop 8;refine⟨_,?_,rfl⟩;simp only[execOp,h1];go_simp
   ·refine AA fun a W hg hop=>?_;have h1:_=_:=hq hop 10;refine⟨_,?_,rfl⟩;have hs:=Bc (P:=Tryz.prog) hg.2.1 Tryz.underlying35 rfl AI;simp only[execOp,h1,hs,Sem.run_bind,Sem.run_pure,Result.andThen,Sem.run_map]
   ·refine AA fun a W hg hop=>?_;have h1:_=_:=hq hop 12;refine⟨_,?_,rfl⟩;simp only[execOp,h1];go_simp
   ·refine AA fun a W hg hop=>?_;have h1:_=_:=hq hop 127;refine⟨_,?_,rfl⟩;simp only[execOp,h1];go_simp
   ·refine GrowStep.store ?_ rfl;intro a W hg hop;have h1:_=_:=hq hop 3;have h2:_=_:=hq hop 128;obtain⟨h3,h4,cs,h5,h6⟩:=hg;refine⟨W.setRow w.heap.size x.row,?_,⟨h3.trans (Bd W _ _),(setRow_other W _ _ _ hne).trans h4,x.row,rfl,setRow_heap W _ _ _ _ _ h6⟩,fun t v hv=>Ot _ _ _ _ _ t v W _ hv,fun j _ _=>setRow_heap W _ _ _ _ _ h6,setRow_heap W _ _ _ _ _ h6⟩
    have hs:=run_storeVar_row (P:=Tryz.prog) W w.heap.size 35 35 cs x.row h6 AI h5 HONE.out;simp only[execOp,h1,h2,Instr.storeAt,Instr.sureAddr,Sem.run_bind,Sem.run_pure,Result.andThen];rw[hs]
   ·refine AA fun a W hg hop=>?_;have h1:_=_:=hq hop 129;refine⟨_,?_,rfl⟩;simp only[execOp,h1];go_simp
   ·refine AA fun a W hg hop=>?_;refine⟨_,?_,rfl⟩;simp only[execOp];go_simp
  case hend=>
   intro a' w' hg hd hn hS hZ;have hz:=hZ 4 _ rfl rfl;have h2:a'.eval (.tmp 2)= .slice An mn cn:=hS 2 (by decide);have h3:a'.eval (.tmp 3)= .pointer (some ⟨w.heap.size,0,none⟩):=hS 3 (by decide);have h4:a'.eval (.tmp 4)= .slice A3 m3 c3:=hS 4 (by decide);have h5:a'.eval (.tmp 5)= .int .i64 0:=hS 5 (by decide);have HG:=Hi hg
   have hkp:∀g,g≠w.heap.size→g<w3.heap.size→w'.heap[g]? =w3.heap[g]? :=fun g hne hg=>HG.out.1.block g hg (fun e=>hne (by injection e));have HKP:=Hi hkp;clear hS hZ hg hkp;go_wp2
   refine bodyPost_ret (v:= .tuple #[.slice An mn cn,x.val,.slice A3 m3 c3,.int .i64 0]) (BV rfl hz h2 h3 h4 h5) hd ⟨_,_,x,_,rfl,Below.trans HPB3.out.1 (HG.out.1.below (NL _) HPB3.out.1.size),HONE.out,?_⟩;rw[HX.out]
   exact⟨rfl,HBN3.out.keepZ HPB3.out.2 HKP.out,⟨(HU.out.le (HLE2.out.trans HLE3.out)).keepZ HPB3.out.2 HKP.out HKEY.out.1 HKEY.out.2,HXO.out.1,HXO.out.2⟩,HKQ.out.keepZ HPB3.out.2 HKP.out HTK.out,HKO.out⟩
def KL(cs:Array Value)(o:Nat):List Value→Array Value
 |[]=>cs
 |v::r=>KL (cs.setIfInBounds o v) (o+1) r
theorem G8(vs:List Value):∀(cs:Array Value) (o:Nat),(KL cs o vs).size=cs.size:=by
 induction vs with
 |nil=>intros;rfl
 |cons v r ih=>intro cs o;unfold KL;rw[ih];simp
section
variable {P:Program} {ops:Array Oper} {rest:List Oper} {o:Oper} {a:Act} {w:World} {Q:Exit→Act→World→Prop}
theorem B9(g j:Nat)(t:TypeId):∀(vs:List Value) (i:Nat) (w:World) (cs:Array Value),w.heap[g]? =some (.cells cs t (0,0))→(∀v∈vs,v.oneCell'=true)→j+i+vs.length≤cs.size→
 ∃w',(storeCells ⟨g,j,none⟩ vs i).run P w= .ok () w'∧w'.heap[g]? =some (.cells (KL cs (j+i) vs) t (0,0))∧Kp g w w'
 |[],i,w,cs,h,_,_=>⟨w,by simp[storeCells],h,Kp.refl g w⟩
 |v::r,i,w,cs,h,h1,hl=>by
  simp only[LC]at hl;have c1:w.cell? ⟨g,j+i,none⟩=some cs[j+i]:=by rw[AB h (j+i),Array.getElem?_eq_getElem (by omega)]
  have z1:=AN h (j+i);obtain⟨w',h2,h3,h4⟩:=B9 g j t r (i+1) (w.setCell ⟨g,j+i,none⟩ v) _ (AX h (j+i) v) (fun u hu=>h1 u (by simp[hu])) (by simp;omega);refine⟨w',?_,h3,(BK w g (j+i) v).trans h4⟩;rw[storeCells];simp only[Sem.run_bind,B6,run_store P w _ v _ (h1 v (by simp)),stored,c1,z1];simpa using h2
theorem BG(hgd:o.guard=none)(ty:TypeId)(x y:Operand)(ho:o.op= .store ty x y)
 (g j:Nat)(cells:Array Value)(hx:a.eval x= .pointer (some ⟨g,j,none⟩))(hy:a.eval y= .agg cells)
 (t:TypeId)(old:Array Value)(hg:w.heap[g]? =some (.cells old t (0,0)))(hi:(P.info? ty).map (·.size)=some cells.size)
 (hj:j+cells.size≤old.size)(h1:cells.all (·.oneCell')=true)
 (h:∀w',w'.heap[g]? =some (.cells (KL old j cells.toList) t (0,0))→Kp g w w'→wpList P ops Q rest (a.put o.dst undef) w'):wpList P ops Q (o::rest) a w:=by
 refine wpList_plain hgd fun K hK=>?_
 obtain⟨w',r1,r2,r3⟩:=B9 (P:=P) g j t cells.toList 0 w old hg (fun v hv=>by
  have:=Array.all_eq_true.1 h1;obtain⟨i,hi,e⟩:=List.getElem_of_mem hv;have:=this i (by simpa using hi);rw[←e];simpa using this) (by simpa using hj)
 have hr:(storeVar ty ⟨g,j,none⟩ (.agg cells)).run P w= .ok () w':=by
  cases hqq:P.info? ty with
  |none=>simp[hqq]at hi
  |some i=>
   have hs:i.size=cells.size:=by simpa[hqq]using hi
   simp[storeVar,sizeOf,typeInfo,hqq,hs,Value.cells,r1]
 unfold Oper.wp execOp;simp only[ho,hx,hy,Instr.storeAt,Instr.sureAddr,Sem.run_bind,Sem.run_pure,Result.andThen_ok,hr];exact hK _ _ (h _ (by simpa using r2) r3)
theorem Ch(w:World)(g j:Nat)(t ty:TypeId)(cs part:Array Value)(fr:Nat×Nat)(d:TypeDesc)(hg:w.heap[g]? =some (.cells cs t fr))(hp:∀k v,part[k]? =some v→cs[j+k]? =some v)
 (hu:P.underlying ty=some d)(hd:(match d with| .struct _| .array _ _=>true|_=>false)=true)(hi:(P.info? ty).map (·.size)=some part.size):
 (loadVar ty ⟨g,j,none⟩).run P w= .ok (.agg part) w:=by
 have hl:(loadCells ⟨g,j,none⟩ part.toList.length).run P w= .ok part.toList.toArray w:=
  run_loadCells_list (P:=P) w ⟨g,j,none⟩ part.toList (fun k v hv=>by
   rw[B6,cell_of_row w g (j+k) cs t fr hg];exact hp k v (by simpa using hv))
 cases hqq:P.info? ty with
 |none=>simp[hqq]at hi
 |some i=>
  have hs:i.size=part.size:=by simpa[hqq]using hi
  have hagg:(isAgg ty).run P w= .ok true w:=by
   unfold isAgg;rw[Sem.run_bind,run_underlying hu w];cases d<;>simp_all
  simp only[Array.length_toList,Array.toArray_toList]at hl;simp[loadVar,Sem.run_bind,hagg,sizeOf,typeInfo,hqq,hs,hl]
theorem DL(W:World)(g j:Nat)(t ty:TypeId)(cs part:Array Value)(fr:Nat×Nat)(d:TypeDesc)(hg:W.heap[g]? =some (.cells cs t fr))(hp:∀k v,part[k]? =some v→cs[j+k]? =some v)
 (hu:P.underlying ty=some d)(hd:(match d with| .struct _| .array _ _=>true|_=>false)=true)(hi:(P.info? ty).map (·.size)=some part.size):
 (Instr.loadAt ty (.pointer (some ⟨g,j,none⟩))).run P W= .ok (.agg part) W:=by
 simp only[Instr.loadAt,Instr.sureAddr,Sem.run_bind,Sem.run_pure,Result.andThen_ok,Ch W g j t ty cs part fr d hg hp hu hd hi]
theorem BN(hgd:o.guard=none)(ty:TypeId)(x:Operand)(ho:o.op= .load ty x)
 (g j:Nat)(hx:a.eval x= .pointer (some ⟨g,j,none⟩))(t:TypeId)(cs part:Array Value)(fr:Nat×Nat)(d:TypeDesc)(hg:w.heap[g]? =some (.cells cs t fr))(hp:∀k v,part[k]? =some v→cs[j+k]? =some v)
 (hu:P.underlying ty=some d)(hd:(match d with| .struct _| .array _ _=>true|_=>false)=true)(hi:(P.info? ty).map (·.size)=some part.size)
 (h:wpList P ops Q rest (a.put o.dst (.agg part)) w):wpList P ops Q (o::rest) a w:=
 wpList_plain hgd fun K hK=>by
  unfold Oper.wp execOp;simp only[ho,hx,Instr.loadAt,Instr.sureAddr,Sem.run_bind,Sem.run_pure,Result.andThen_ok,Ch w g j t ty cs part fr d hg hp hu hd hi];exact hK _ _ h
end
def Eq:Value→Bool
 | .int .u8 _=>false
 |_=>true
theorem Bv.setH{w w':World}{b:Nat}{row:Array Value}{T:TypeId}{fz:Nat×Nat}{v:Value}{l:Tx}(h:Bv w v l)(hb:w.heap[b]? =some (.cells row T fz))(hn:row.all Eq=true)
 (k:Kp b w w'):Bv w' v l:=by
 obtain⟨A,c,rfl,h1,h2,h3,h4⟩:=h;refine⟨A,c,rfl,h1,h2,h3,fun hp=>?_⟩;obtain⟨g,o,rfl,hc⟩:=h4 hp;refine⟨g,o,rfl,fun j hj=>?_⟩;have h0:=hc j hj;refine(World.cell?_of_block (a:=⟨g,o+j,none⟩) (k.block g (Az h0) ?_)).trans h0;rintro e;injection e with e
 subst e;rw[AB hb]at h0;obtain⟨hlt,e⟩:=Array.getElem?_eq_some_iff.1 h0;have:=Array.all_eq_true.1 hn _ hlt;rw[e]at this;cases this
def KO(ψ:Nat→Prop)(v:Value)(l:KVs):Prop:=l≠[]→∀g,v.ownBlock=some g→ψ g
theorem KO.imp{ψ χ:Nat→Prop}{v:Value}{l:KVs}(h:KO ψ v l)(k:∀g,ψ g→χ g):KO χ v l:=fun hn g hg=>k g (h hn g hg)
theorem KO.nil(ψ:Nat→Prop)(v:Value):KO ψ v []:=fun h=>absurd rfl h
theorem Kq.ko{w:World}{v:Value}{l:KVs}(h:Kq (fun _=>True) w v l):KO (·<w.heap.size) v l:=by
 intro hn g hg;obtain⟨A,c,rfl,_,_,_,h4⟩:=h;obtain⟨g',o,rfl,_,hc⟩:=h4 (List.length_pos_iff.2 hn);obtain⟨x,y,hx,_⟩:=hc 0 (List.length_pos_iff.2 hn);simp only[Value.ownBlock,Option.some.injEq]at hg;subst hg;exact Az hx
theorem Kq.setH{w w':World}{b:Nat}{row:Array Value}{T:TypeId}{fz:Nat×Nat}{v:Value}{l:KVs}(h:Kq (fun _=>True) w v l)(hb:w.heap[b]? =some (.cells row T fz))(hn:row.all Eq=true)
 (k:Kp b w w')(ho:KO (·≠b) v l):Kq (fun _=>True) w' v l:=by
 obtain⟨A,c,e,h1,h2,h3,h4⟩:=h;refine⟨A,c,e,h1,h2,h3,fun hp=>?_⟩;obtain⟨g,o,e2,hg,hc⟩:=h4 hp;have hgb:g≠b:=ho (List.length_pos_iff.1 hp) g (by rw[e,e2];rfl);refine⟨g,o,e2,hg,fun j hj=>?_⟩;obtain⟨x,y,hx,hy,hx2,hy2⟩:=hc j hj;have hk:=k.block g (Az hx) (fun e=>hgb (by injection e))
 exact⟨x,y,(World.cell?_of_block (a:=⟨g,o+j*2,none⟩) hk).trans hx,(World.cell?_of_block (a:=⟨g,o+j*2+1,none⟩) hk).trans hy,⟨hx2.1.setH hb hn k,hx2.2⟩,⟨hy2.1.setH hb hn k,hy2.2⟩⟩
structure Uz(ψ:Nat→Prop)(w:World)(x:UV)(u:PU):Prop extends Uq (fun _=>True) w x u where
 op:KO ψ x.ps u.ps
 oh:KO ψ x.hs u.hs
theorem Uz.le{ψ:Nat→Prop}{w w':World}{x:UV}{u:PU}(h:Uz ψ w x u)(k:Le w w'):Uz ψ w' x u:=⟨h.toUq.le k,h.op,h.oh⟩
theorem Uz.imp{ψ χ:Nat→Prop}{w:World}{x:UV}{u:PU}(h:Uz ψ w x u)(k:∀g,ψ g→χ g):Uz χ w x u:=⟨h.toUq,h.op.imp k,h.oh.imp k⟩
theorem Uq.uz{w:World}{x:UV}{u:PU}(h:Uq (fun _=>True) w x u):Uz (·<w.heap.size) w x u:=⟨h,h.ps.ko,h.hs.ko⟩
theorem Ux.uz{b:Nat}{w:World}{x:UV}{u:PU}(h:Ux b w x u):Uz (b≤·) w x u:=⟨h.toUq,fun _=>h.op,fun _=>h.oh⟩
theorem RQ{w:World}{v:Value}{l:Tx}(h:Bv w v l):Bq (fun _=>True) w v l:=⟨h,fun _ _=>trivial⟩
theorem Uz.setH{ψ:Nat→Prop}{w w':World}{b:Nat}{row:Array Value}{T:TypeId}{fz:Nat×Nat}{x:UV}{u:PU}(h:Uz ψ w x u)(hb:w.heap[b]? =some (.cells row T fz))(hn:row.all Eq=true)
 (k:Kp b w w')(ho:∀g,ψ g→g≠b):Uz ψ w' x u:=
 ⟨⟨RQ (h.scheme.1.setH hb hn k),RQ (h.raw.1.setH hb hn k),h.wild,h.slash,RQ (h.user.1.setH hb hn k),RQ (h.pass.1.setH hb hn k),RQ (h.host.1.setH hb hn k),h.port,h.ps.setH hb hn k (h.op.imp ho),h.hs.setH hb hn k (h.oh.imp ho)⟩,h.op,h.oh⟩
structure Hz(ψ:Nat→Prop)(w:World)(x:HV)(p:PH):Prop where
 t:x.t=p.t
 name:Bv w x.name p.name
 text:Bv w x.text p.text
 disp:Bv w x.disp p.disp
 uri:Uz ψ w x.uri p.uri
 ps:Kq (fun _=>True) w x.ps p.ps
 op:KO ψ x.ps p.ps
 num:x.num=p.num
 proto:Bv w x.proto p.proto
 ver:Bv w x.ver p.ver
 tr:Bv w x.tr p.tr
 host:Bv w x.host p.host
 port:x.port=p.port
theorem Hz.le{ψ:Nat→Prop}{w w':World}{x:HV}{p:PH}(h:Hz ψ w x p)(k:Le w w'):Hz ψ w' x p:=
 ⟨h.t,h.name.le k,h.text.le k,h.disp.le k,h.uri.le k,h.ps.le k,h.op,h.num,h.proto.le k,h.ver.le k,h.tr.le k,h.host.le k,h.port⟩
theorem Hz.imp{ψ χ:Nat→Prop}{w:World}{x:HV}{p:PH}(h:Hz ψ w x p)(k:∀g,ψ g→χ g):Hz χ w x p:=
 ⟨h.t,h.name,h.text,h.disp,h.uri.imp k,h.ps,h.op.imp k,h.num,h.proto,h.ver,h.tr,h.host,h.port⟩
theorem Hz.now{ψ:Nat→Prop}{w:World}{x:HV}{p:PH}(h:Hz ψ w x p):Hz (·<w.heap.size) w x p:=
 ⟨h.t,h.name,h.text,h.disp,h.uri.toUq.uz,h.ps,h.ps.ko,h.num,h.proto,h.ver,h.tr,h.host,h.port⟩
theorem Hz.setH{ψ:Nat→Prop}{w w':World}{b:Nat}{row:Array Value}{T:TypeId}{fz:Nat×Nat}{x:HV}{p:PH}(h:Hz ψ w x p)(hb:w.heap[b]? =some (.cells row T fz))(hn:row.all Eq=true)
 (k:Kp b w w')(ho:∀g,ψ g→g≠b):Hz ψ w' x p:=
 ⟨h.t,h.name.setH hb hn k,h.text.setH hb hn k,h.disp.setH hb hn k,h.uri.setH hb hn k ho,h.ps.setH hb hn k (h.op.imp ho),h.op,h.num,h.proto.setH hb hn k,h.ver.setH hb hn k,h.tr.setH hb hn k,h.host.setH hb hn k,h.port⟩
theorem Bv.nou{w:World}{v:Value}{l:Tx}(h:Bv w v l):Eq v=true:=by obtain⟨A,c,rfl,_⟩:=h;rfl
theorem Bv.one1{w:World}{v:Value}{l:Tx}(h:Bv w v l):v.oneCell'=true:=by obtain⟨A,c,rfl,_⟩:=h;rfl
theorem Kq.nou{φ:Nat→Prop}{w:World}{v:Value}{l:KVs}(h:Kq φ w v l):Eq v=true:=by obtain⟨A,c,rfl,_⟩:=h;rfl
structure Gs(x:HV):Prop where
 one:x.row.all (·.oneCell')=true
 nou:x.row.all Eq=true
 ps:∃A n c,x.ps= .slice A n c
theorem Hz.fit{ψ:Nat→Prop}{w:World}{x:HV}{p:PH}(h:Hz ψ w x p):Gs x:=by
 refine⟨?_,?_,by obtain⟨A,c,e,_⟩:=h.ps;exact⟨A,_,c,e⟩⟩
 ·unfold HV.row;simp only[List.all_toArray,List.all_cons,List.all_nil,h.name.one1,h.text.one1,h.disp.one1,h.uri.scheme.1.one1,h.uri.raw.1.one1,h.uri.user.1.one1,h.uri.pass.1.one1,h.uri.host.1.one1,h.uri.ps.one,h.uri.hs.one,h.ps.one,h.proto.one1,h.ver.one1,h.tr.one1,h.host.one1,Bool.and_true,Bool.true_and];rfl
 ·unfold HV.row;simp only[List.all_toArray,List.all_cons,List.all_nil,h.name.nou,h.text.nou,h.disp.nou,h.uri.scheme.1.nou,h.uri.raw.1.nou,h.uri.user.1.nou,h.uri.pass.1.nou,h.uri.host.1.nou,h.uri.ps.nou,h.uri.hs.nou,h.ps.nou,h.proto.nou,h.ver.nou,h.tr.nou,h.host.nou,Bool.and_true,Bool.true_and];rfl
def HV.nil:HV:=⟨0,.slice none 0 0,.slice none 0 0,.slice none 0 0,UV.nil,.slice none 0 0,0,.slice none 0 0,.slice none 0 0,.slice none 0 0,.slice none 0 0,0⟩
theorem Hz.nil(ψ:Nat→Prop)(w:World):Hz ψ w HV.nil PH.zero:=
 ⟨rfl,Bv.nil w,Bv.nil w,Bv.nil w,⟨⟨Bq.nil _ _,Bq.nil _ _,rfl,rfl,Bq.nil _ _,Bq.nil _ _,Bq.nil _ _,rfl,Kq.nil _ _,Kq.nil _ _⟩,KO.nil _ _,KO.nil _ _⟩,Kq.nil _ _,KO.nil _ _,rfl,Bv.nil w,Bv.nil w,Bv.nil w,Bv.nil w,rfl⟩
theorem AS:((Tryz.prog).info? 37).map (·.size)=some 21:=by kernel_rfl
theorem DH:(Tryz.prog).built 37 []=some HV.nil.row:=by kernel_rfl
end Go.Proofs.YtejhpdcjafbklaaGreatDoor
namespace Go.Proofs.YtejhpdcjafbklaaGreatDoor
open Go.ChangeShapes Go.WideShapes Go.ChangeAt Go.RowKit
structure Hw(w:World)(x:HV)(p:PH):Prop where
 t:x.t=p.t
 name:Bv w x.name p.name
 text:Bv w x.text p.text
 disp:Bv w x.disp p.disp
 uri:Uw w x.uri p.uri
 ps:Kw w x.ps p.ps
 num:x.num=p.num
 nlt:p.num<4294967296
 proto:Bv w x.proto p.proto
 ver:Bv w x.ver p.ver
 tr:Bv w x.tr p.tr
 host:Bv w x.host p.host
 port:x.port=p.port
 lo: -9223372036854775808≤p.port
 hi:p.port≤9223372036854775807
theorem Hw.le{w w':World}{x:HV}{p:PH}(h:Hw w x p)(k:Le w w'):Hw w' x p:=
 ⟨h.t,h.name.le k,h.text.le k,h.disp.le k,h.uri.le k,h.ps.le k,h.num,h.nlt,h.proto.le k,h.ver.le k,h.tr.le k,h.host.le k,h.port,h.lo,h.hi⟩
theorem cU32:Tryz.prog.cellsOf 26=1:=by kernel_rfl
theorem cHead:Tryz.prog.cellsOf 28=21:=by kernel_rfl
theorem Qu{α:Type}{l:List α}(h:l.length=12):∃a b c d e f g i j k m n,l=[a,b,c,d,e,f,g,i,j,k,m,n]:=by
 match l,h with
 |[a,b,c,d,e,f,g,i,j,k,m,n],_=>exact⟨a,b,c,d,e,f,g,i,j,k,m,n,rfl⟩
theorem Qt{α:Type}{l:List α}(h:l.length=21):∃a0 a1 a2 a3 a4 a5 a6 a7 a8 a9 a10 a11 a12 a13 a14 a15 a16 a17 a18 a19 a20,l=[a0,a1,a2,a3,a4,a5,a6,a7,a8,a9,a10,a11,a12,a13,a14,a15,a16,a17,a18,a19,a20]:=by
 match l,h with
 |[a0,a1,a2,a3,a4,a5,a6,a7,a8,a9,a10,a11,a12,a13,a14,a15,a16,a17,a18,a19,a20],_=>exact⟨a0,a1,a2,a3,a4,a5,a6,a7,a8,a9,a10,a11,a12,a13,a14,a15,a16,a17,a18,a19,a20,rfl⟩
section
variable {H:Type} {enc:TypeId×Value→H}
theorem PD{W:World}{held:Bool}{fuel:Nat}{c0 c1 c2 c3 c4 c5 c6 c7 c8 c9:Value}{x:DataW H×List MemPlace}(hf:DataW.trod enc Tryz.prog W 0 (fun _=>true) held fuel 25 [c0,c1,c2,c3,c4,c5,c6,c7,c8,c9]=some x)
 (hw:(x.1.weights Tryz.prog 25).all (·≤reachBytes)=true):∃(x:UV) (u:PU),[c0,c1,c2,c3,c4,c5,c6,c7,c8,c9]=x.row.toList∧Uw W x u:=by
 obtain⟨xs,n,_,hx,_,hlen,hfld⟩:=DataW.trod_struct Tryz.underlying25 hf;obtain⟨y0,y1,y2,y3,y4,y5,y6,y7,y8,y9,rfl⟩:=Qv hlen;subst hx
 have he2:(DataW.agg (H:=H) ([y0,y1,y2,y3,y4,y5,y6,y7,y8,y9].map (·.1))).weights Tryz.prog 25=DataW.weightsEach Tryz.prog [22,22,4,4,22,22,22,3,23,23] [y0.1,y1.1,y2.1,y3.1,y4.1,y5.1,y6.1,y7.1,y8.1,y9.1]:=by
  simp only[DataW.weights,Tryz.underlying25];rfl
 rw[he2]at hw;have hw':=fun n hn=>of_decide_eq_true (List.all_eq_true.1 hw n hn)
 have g0:DataW.trod enc Tryz.prog W 0 (fun _=>true) held n 22 [c0]=some y0:=by
  have e:([c0,c1,c2,c3,c4,c5,c6,c7,c8,c9].drop 0).take (Tryz.prog.cellsOf 22)=[c0]:=by rw[cSl];rfl
  rw[←e];exact hfld 0 _ rfl
 have g1:DataW.trod enc Tryz.prog W 0 (fun _=>true) held n 22 [c1]=some y1:=by
  have e:([c0,c1,c2,c3,c4,c5,c6,c7,c8,c9].drop 1).take (Tryz.prog.cellsOf 22)=[c1]:=by rw[cSl];rfl
  rw[←e];exact hfld 1 _ rfl
 have g2:DataW.trod enc Tryz.prog W 0 (fun _=>true) held n 4 [c2]=some y2:=by
  have e:([c0,c1,c2,c3,c4,c5,c6,c7,c8,c9].drop 2).take (Tryz.prog.cellsOf 4)=[c2]:=by rw[P1];rfl
  rw[←e];exact hfld 2 _ rfl
 have g3:DataW.trod enc Tryz.prog W 0 (fun _=>true) held n 4 [c3]=some y3:=by
  have e:([c0,c1,c2,c3,c4,c5,c6,c7,c8,c9].drop 3).take (Tryz.prog.cellsOf 4)=[c3]:=by rw[P1];rfl
  rw[←e];exact hfld 3 _ rfl
 have g4:DataW.trod enc Tryz.prog W 0 (fun _=>true) held n 22 [c4]=some y4:=by
  have e:([c0,c1,c2,c3,c4,c5,c6,c7,c8,c9].drop 4).take (Tryz.prog.cellsOf 22)=[c4]:=by rw[cSl];rfl
  rw[←e];exact hfld 4 _ rfl
 have g5:DataW.trod enc Tryz.prog W 0 (fun _=>true) held n 22 [c5]=some y5:=by
  have e:([c0,c1,c2,c3,c4,c5,c6,c7,c8,c9].drop 5).take (Tryz.prog.cellsOf 22)=[c5]:=by rw[cSl];rfl
  rw[←e];exact hfld 5 _ rfl
 have g6:DataW.trod enc Tryz.prog W 0 (fun _=>true) held n 22 [c6]=some y6:=by
  have e:([c0,c1,c2,c3,c4,c5,c6,c7,c8,c9].drop 6).take (Tryz.prog.cellsOf 22)=[c6]:=by rw[cSl];rfl
  rw[←e];exact hfld 6 _ rfl
 have g7:DataW.trod enc Tryz.prog W 0 (fun _=>true) held n 3 [c7]=some y7:=by
  have e:([c0,c1,c2,c3,c4,c5,c6,c7,c8,c9].drop 7).take (Tryz.prog.cellsOf 3)=[c7]:=by rw[cIn];rfl
  rw[←e];exact hfld 7 _ rfl
 have g8:DataW.trod enc Tryz.prog W 0 (fun _=>true) held n 23 [c8]=some y8:=by
  have e:([c0,c1,c2,c3,c4,c5,c6,c7,c8,c9].drop 8).take (Tryz.prog.cellsOf 23)=[c8]:=by rw[cKs];rfl
  rw[←e];exact hfld 8 _ rfl
 have g9:DataW.trod enc Tryz.prog W 0 (fun _=>true) held n 23 [c9]=some y9:=by
  have e:([c0,c1,c2,c3,c4,c5,c6,c7,c8,c9].drop 9).take (Tryz.prog.cellsOf 23)=[c9]:=by rw[cKs];rfl
  rw[←e];exact hfld 9 _ rfl
 obtain⟨l0,hl0⟩:=CL g0 (List.all_eq_true.2 fun n hn=>decide_eq_true (hw' n (DataW.weights_mem_each (j:=0) rfl rfl n hn)));obtain⟨l1,hl1⟩:=CL g1 (List.all_eq_true.2 fun n hn=>decide_eq_true (hw' n (DataW.weights_mem_each (j:=1) rfl rfl n hn)));obtain⟨b2,hb2,_⟩:=DataW.trod_bool Tryz.underlying4 g2;injection hb2 with hb2
 subst hb2;obtain⟨b3,hb3,_⟩:=DataW.trod_bool Tryz.underlying4 g3;injection hb3 with hb3
 subst hb3;obtain⟨l4,hl4⟩:=CL g4 (List.all_eq_true.2 fun n hn=>decide_eq_true (hw' n (DataW.weights_mem_each (j:=4) rfl rfl n hn)));obtain⟨l5,hl5⟩:=CL g5 (List.all_eq_true.2 fun n hn=>decide_eq_true (hw' n (DataW.weights_mem_each (j:=5) rfl rfl n hn)));obtain⟨l6,hl6⟩:=CL g6 (List.all_eq_true.2 fun n hn=>decide_eq_true (hw' n (DataW.weights_mem_each (j:=6) rfl rfl n hn)))
 obtain⟨z7,hz7,_,hwf⟩:=DataW.trod_int Tryz.underlying3 g7;injection hz7 with hz7
 subst hz7;obtain⟨l8,hl8⟩:=IM g8 (List.all_eq_true.2 fun n hn=>decide_eq_true (hw' n (DataW.weights_mem_each (j:=8) rfl rfl n hn)));obtain⟨l9,hl9⟩:=IM g9 (List.all_eq_true.2 fun n hn=>decide_eq_true (hw' n (DataW.weights_mem_each (j:=9) rfl rfl n hn)));have hlo: -9223372036854775808≤z7∧z7≤9223372036854775807:=by
  have e1:IntKind.i64.min= -9223372036854775808:=rfl;have e2:IntKind.i64.max=9223372036854775807:=rfl;simpa[Lit.wf,e1,e2]using hwf
 exact⟨⟨c0,c1,b2,b3,c4,c5,c6,z7,c8,c9⟩,⟨l0,l1,b2,b3,l4,l5,l6,z7,l8,l9⟩,rfl,⟨hl0,hl1,rfl,rfl,hl4,hl5,hl6,rfl,hlo.1,hlo.2,hl8,hl9⟩⟩
theorem PE{W:World}{held:Bool}{base:Nat}{v:Value}{d:DataW H}{p:List MemPlace}(hk:Value.okWide Tryz.prog W .any base 28 v)(h:DataW.Trod enc Tryz.prog W 0 (fun _=>true) held 28 v d p)
 (hw:(d.weights Tryz.prog 28).all (·≤reachBytes)=true):∃(x:HV) (u:PH),v=x.val∧Hw W x u:=by
 obtain⟨cs,rfl,hsz⟩:=okWide_struct Tryz.underlying28 hk;rw[cHead]at hsz;obtain⟨l⟩:=cs;obtain⟨c0,c1,c2,c3,c4,c5,c6,c7,c8,c9,c10,c11,c12,c13,c14,c15,c16,c17,c18,c19,c20,rfl⟩:=Qt hsz;obtain⟨fuel,hf⟩:=h;obtain⟨xs,n,_,hx,_,hlen,hfld⟩:=DataW.trod_struct Tryz.underlying28 hf;obtain⟨y0,y1,y2,y3,y4,y5,y6,y7,y8,y9,y10,y11,rfl⟩:=Qu hlen;injection hx with hd _
 subst hd
 have he2:(DataW.agg (H:=H) ([y0,y1,y2,y3,y4,y5,y6,y7,y8,y9,y10,y11].map (·.1))).weights Tryz.prog 28=DataW.weightsEach Tryz.prog [3,22,22,22,25,23,26,22,22,22,22,3] [y0.1,y1.1,y2.1,y3.1,y4.1,y5.1,y6.1,y7.1,y8.1,y9.1,y10.1,y11.1]:=by
  simp only[DataW.weights,Tryz.underlying28];rfl
 rw[he2]at hw;have hw':=fun n hn=>of_decide_eq_true (List.all_eq_true.1 hw n hn)
 have g0:DataW.trod enc Tryz.prog W 0 (fun _=>true) held n 3 [c0]=some y0:=by
  have e:([c0,c1,c2,c3,c4,c5,c6,c7,c8,c9,c10,c11,c12,c13,c14,c15,c16,c17,c18,c19,c20].drop 0).take (Tryz.prog.cellsOf 3)=[c0]:=by rw[cIn];rfl
  rw[←e];exact hfld 0 _ rfl
 have g1:DataW.trod enc Tryz.prog W 0 (fun _=>true) held n 22 [c1]=some y1:=by
  have e:([c0,c1,c2,c3,c4,c5,c6,c7,c8,c9,c10,c11,c12,c13,c14,c15,c16,c17,c18,c19,c20].drop 1).take (Tryz.prog.cellsOf 22)=[c1]:=by rw[cSl];rfl
  rw[←e];exact hfld 1 _ rfl
 have g2:DataW.trod enc Tryz.prog W 0 (fun _=>true) held n 22 [c2]=some y2:=by
  have e:([c0,c1,c2,c3,c4,c5,c6,c7,c8,c9,c10,c11,c12,c13,c14,c15,c16,c17,c18,c19,c20].drop 2).take (Tryz.prog.cellsOf 22)=[c2]:=by rw[cSl];rfl
  rw[←e];exact hfld 2 _ rfl
 have g3:DataW.trod enc Tryz.prog W 0 (fun _=>true) held n 22 [c3]=some y3:=by
  have e:([c0,c1,c2,c3,c4,c5,c6,c7,c8,c9,c10,c11,c12,c13,c14,c15,c16,c17,c18,c19,c20].drop 3).take (Tryz.prog.cellsOf 22)=[c3]:=by rw[cSl];rfl
  rw[←e];exact hfld 3 _ rfl
 have g4:DataW.trod enc Tryz.prog W 0 (fun _=>true) held n 25 [c4,c5,c6,c7,c8,c9,c10,c11,c12,c13]=some y4:=by
  have e:([c0,c1,c2,c3,c4,c5,c6,c7,c8,c9,c10,c11,c12,c13,c14,c15,c16,c17,c18,c19,c20].drop 4).take (Tryz.prog.cellsOf 25)=[c4,c5,c6,c7,c8,c9,c10,c11,c12,c13]:=by rw[cUri];rfl
  rw[←e];exact hfld 4 _ rfl
 have g5:DataW.trod enc Tryz.prog W 0 (fun _=>true) held n 23 [c14]=some y5:=by
  have e:([c0,c1,c2,c3,c4,c5,c6,c7,c8,c9,c10,c11,c12,c13,c14,c15,c16,c17,c18,c19,c20].drop 14).take (Tryz.prog.cellsOf 23)=[c14]:=by rw[cKs];rfl
  rw[←e];exact hfld 5 _ rfl
 have g6:DataW.trod enc Tryz.prog W 0 (fun _=>true) held n 26 [c15]=some y6:=by
  have e:([c0,c1,c2,c3,c4,c5,c6,c7,c8,c9,c10,c11,c12,c13,c14,c15,c16,c17,c18,c19,c20].drop 15).take (Tryz.prog.cellsOf 26)=[c15]:=by rw[cU32];rfl
  rw[←e];exact hfld 6 _ rfl
 have g7:DataW.trod enc Tryz.prog W 0 (fun _=>true) held n 22 [c16]=some y7:=by
  have e:([c0,c1,c2,c3,c4,c5,c6,c7,c8,c9,c10,c11,c12,c13,c14,c15,c16,c17,c18,c19,c20].drop 16).take (Tryz.prog.cellsOf 22)=[c16]:=by rw[cSl];rfl
  rw[←e];exact hfld 7 _ rfl
 have g8:DataW.trod enc Tryz.prog W 0 (fun _=>true) held n 22 [c17]=some y8:=by
  have e:([c0,c1,c2,c3,c4,c5,c6,c7,c8,c9,c10,c11,c12,c13,c14,c15,c16,c17,c18,c19,c20].drop 17).take (Tryz.prog.cellsOf 22)=[c17]:=by rw[cSl];rfl
  rw[←e];exact hfld 8 _ rfl
 have g9:DataW.trod enc Tryz.prog W 0 (fun _=>true) held n 22 [c18]=some y9:=by
  have e:([c0,c1,c2,c3,c4,c5,c6,c7,c8,c9,c10,c11,c12,c13,c14,c15,c16,c17,c18,c19,c20].drop 18).take (Tryz.prog.cellsOf 22)=[c18]:=by rw[cSl];rfl
  rw[←e];exact hfld 9 _ rfl
 have g10:DataW.trod enc Tryz.prog W 0 (fun _=>true) held n 22 [c19]=some y10:=by
  have e:([c0,c1,c2,c3,c4,c5,c6,c7,c8,c9,c10,c11,c12,c13,c14,c15,c16,c17,c18,c19,c20].drop 19).take (Tryz.prog.cellsOf 22)=[c19]:=by rw[cSl];rfl
  rw[←e];exact hfld 10 _ rfl
 have g11:DataW.trod enc Tryz.prog W 0 (fun _=>true) held n 3 [c20]=some y11:=by
  have e:([c0,c1,c2,c3,c4,c5,c6,c7,c8,c9,c10,c11,c12,c13,c14,c15,c16,c17,c18,c19,c20].drop 20).take (Tryz.prog.cellsOf 3)=[c20]:=by rw[cIn];rfl
  rw[←e];exact hfld 11 _ rfl
 obtain⟨z0,hz0,_,hwf0⟩:=DataW.trod_int Tryz.underlying3 g0;injection hz0 with hz0
 subst hz0;have hlo0: -9223372036854775808≤z0∧z0≤9223372036854775807:=by
  have e1:IntKind.i64.min= -9223372036854775808:=rfl;have e2:IntKind.i64.max=9223372036854775807:=rfl;simpa[Lit.wf,e1,e2]using hwf0
 obtain⟨l1,hl1⟩:=CL g1 (List.all_eq_true.2 fun n hn=>decide_eq_true (hw' n (DataW.weights_mem_each (j:=1) rfl rfl n hn)));obtain⟨l2,hl2⟩:=CL g2 (List.all_eq_true.2 fun n hn=>decide_eq_true (hw' n (DataW.weights_mem_each (j:=2) rfl rfl n hn)));obtain⟨l3,hl3⟩:=CL g3 (List.all_eq_true.2 fun n hn=>decide_eq_true (hw' n (DataW.weights_mem_each (j:=3) rfl rfl n hn)))
 obtain⟨xu,pu,hxu,hlu⟩:=PD g4 (List.all_eq_true.2 fun n hn=>decide_eq_true (hw' n (DataW.weights_mem_each (j:=4) rfl rfl n hn)));injection hxu with e4 hxu
 injection hxu with e5 hxu
 injection hxu with e6 hxu
 injection hxu with e7 hxu
 injection hxu with e8 hxu
 injection hxu with e9 hxu
 injection hxu with e10 hxu
 injection hxu with e11 hxu
 injection hxu with e12 hxu
 injection hxu with e13 hxu
 subst e4 e5 e6 e7 e8 e9 e10 e11 e12 e13;obtain⟨l5,hl5⟩:=IM g5 (List.all_eq_true.2 fun n hn=>decide_eq_true (hw' n (DataW.weights_mem_each (j:=5) rfl rfl n hn)));obtain⟨z6,hz6,_,hwf6⟩:=DataW.trod_int Tryz.underlying26 g6;injection hz6 with hz6
 subst hz6;have hlo6:0≤z6∧z6≤4294967295:=by
  have e1:IntKind.u32.min=0:=rfl;have e2:IntKind.u32.max=4294967295:=rfl;simpa[Lit.wf,e1,e2]using hwf6
 obtain⟨nn,rfl⟩:∃nn:Nat,z6=nn:=⟨z6.toNat,by omega⟩;obtain⟨l7,hl7⟩:=CL g7 (List.all_eq_true.2 fun n hn=>decide_eq_true (hw' n (DataW.weights_mem_each (j:=7) rfl rfl n hn)));obtain⟨l8,hl8⟩:=CL g8 (List.all_eq_true.2 fun n hn=>decide_eq_true (hw' n (DataW.weights_mem_each (j:=8) rfl rfl n hn)))
 obtain⟨l9,hl9⟩:=CL g9 (List.all_eq_true.2 fun n hn=>decide_eq_true (hw' n (DataW.weights_mem_each (j:=9) rfl rfl n hn)));obtain⟨l10,hl10⟩:=CL g10 (List.all_eq_true.2 fun n hn=>decide_eq_true (hw' n (DataW.weights_mem_each (j:=10) rfl rfl n hn)));obtain⟨z11,hz11,_,hwf11⟩:=DataW.trod_int Tryz.underlying3 g11;injection hz11 with hz11
 subst hz11;have hlo11: -9223372036854775808≤z11∧z11≤9223372036854775807:=by
  have e1:IntKind.i64.min= -9223372036854775808:=rfl;have e2:IntKind.i64.max=9223372036854775807:=rfl;simpa[Lit.wf,e1,e2]using hwf11
 exact⟨⟨z0,c1,c2,c3,xu,c14,nn,c16,c17,c18,c19,z11⟩,⟨z0,l1,l2,l3,pu,l5,nn,l7,l8,l9,l10,z11⟩,rfl,⟨rfl,hl1,hl2,hl3,hlu,hl5,rfl,by show nn<4294967296;omega,hl7,hl8,hl9,hl10,rfl,hlo11.1,hlo11.2⟩⟩
end
end Go.Proofs.YtejhpdcjafbklaaGreatDoor
