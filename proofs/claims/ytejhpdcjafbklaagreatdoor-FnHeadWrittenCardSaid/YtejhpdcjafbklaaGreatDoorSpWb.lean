/- The law FnHeadWritten: SpWb. -/
import Derived.Test.YtejhpdcjafbklaaGreatDoorKnown
set_option linter.all false
set_option maxHeartbeats 2000000
set_option maxRecDepth 4000
namespace Go.Proofs.YtejhpdcjafbklaaGreatDoor
open Go.RowKit
def anB(c:Int):Bool:=alB c||nmB c
theorem Gp(x:UInt8):anB (x.toNat:Int)=Du x:=by unfold anB Du;rw[←Ge,←DP]
theorem Dk(c:Int)(w:World):Calls Tryz.prog 56 #[.int .u8 c] w fun e w'=>e= .returned (.bool (anB c))∧w=w':=JZ c w
theorem Eo(x:UInt8)(n:Nat)(hn:n<256):((x.toNat:Int) != (n:Int))= !decide (x=UInt8.ofNat n):=by
 have e:(UInt8.ofNat n).toNat=n:=by rw[UInt8.toNat_ofNat',Nat.mod_eq_of_lt hn]
 have h:=Gl x (UInt8.ofNat n);rw[e]at h;rw[bne,h]
theorem ET(x:UInt8)(n:Nat)(hn:n<256):((x.toNat:Int)==(n:Int))=decide (x=UInt8.ofNat n):=by
 have e:(UInt8.ofNat n).toNat=n:=by rw[UInt8.toNat_ofNat',Nat.mod_eq_of_lt hn]
 have h:=Gl x (UInt8.ofNat n);rw[e]at h;exact h
def hch(c:UInt8):Bool:=Du c||c==45||c==46
theorem GK{l:Tx}(h:0<l.length):Bp l=(l.all hch&&(Du l[0]&&Du (l[l.length-1]'(by omega)))):=by
 unfold Bp;cases l with
 |nil=>simp at h
 |cons x r=>
  rw[List.head?_cons,List.getLast?_eq_getElem?,List.getElem?_eq_getElem (by omega)];rfl
theorem NH(v:Value)(l:Tx)(w:World)(hv:Bv w v l):Calls Tryz.prog 103 #[v] w fun e w'=>e= .returned (.bool (Bp l))∧w=w':=by
 obtain⟨A,cc,rfl,h1,h2,h4⟩:=hv;have h3:=h4.1;have HR:=Hi h4;clear h4;go_enter Tryz.func103,Tryz.ntmps103;go_wp2
 go_loop [3] (fun i=>∃k:Nat,k≤l.length∧i= .int .i64 k∧(l.take k).all hch=true) (fun i=>l.length-(intOf i).toNat)
 case atStart=>exact⟨0,Nat.zero_le _,rfl,rfl⟩
 case round=>
  obtain⟨k,hk,rfl,hq⟩:=hrel;have HQ:=Hi hq;clear hq;by_cases hlt:k<l.length
  ·obtain⟨b,o,rfl,d1⟩:=HR.out.at_ hlt;have a1:=Gp l[k];have a2:=Eo l[k] 45 (by omega);have a3:=Eo l[k] 46 (by omega);by_cases hc:hch l[k]=true
   ·have HX:Hid ((l.take (k+1)).all hch=true):=Hi (by rw[List.take_succ_eq_append_getElem hlt,List.all_append,HQ.out];simpa using hc);by_cases ha:Du l[k]=true
    ·rw[ha]at a1;clear a2 a3 ha hc;generalize(l[k].toNat:Int)=x at d1 a1;go_wp2_with (go_at_call 56;refine(Dk _ _).mono ?_;rintro e w' ⟨rfl,rfl⟩)
     go_round
     case rel=>exact⟨k+1,by omega,by go_num,HX.out⟩
     case measure=>simp[intOf];omega
    ·have ha':Du l[k]=false:=by simpa using ha
     rw[ha']at a1;by_cases h45:l[k]=45
     ·rw[decide_eq_true (show l[k]=UInt8.ofNat 45 from h45)]at a2;clear a3 ha hc ha' h45;generalize(l[k].toNat:Int)=x at d1 a1 a2;have a2':(x != 45)=false:=a2;clear a2;go_wp2_with (go_at_call 56;refine(Dk _ _).mono ?_;rintro e w' ⟨rfl,rfl⟩)
      go_round
      case rel=>exact⟨k+1,by omega,by go_num,HX.out⟩
      case measure=>simp[intOf];omega
     ·have h46:l[k]=46:=by
       unfold hch at hc;rw[ha']at hc;simpa[h45]using hc
      rw[decide_eq_false (show ¬l[k]=UInt8.ofNat 45 from h45)]at a2;rw[decide_eq_true (show l[k]=UInt8.ofNat 46 from h46)]at a3;clear ha hc ha' h45 h46;generalize(l[k].toNat:Int)=x at d1 a1 a2 a3;have a2':(x != 45)=true:=a2;have a3':(x != 46)=false:=a3;clear a2 a3;go_wp2_with (go_at_call 56;refine(Dk _ _).mono ?_;rintro e w' ⟨rfl,rfl⟩)
      go_round
      case rel=>exact⟨k+1,by omega,by go_num,HX.out⟩
      case measure=>simp[intOf];omega
   ·have hc':hch l[k]=false:=by simpa using hc
    have HX:Hid (Bp l=false):=Hi (by
     rw[GK (by omega)];have:l.all hch=false:=List.all_eq_false.2 ⟨l[k],List.getElem_mem hlt,hc⟩;rw[this];rfl)
    unfold hch at hc';simp only[Bool.or_eq_false_iff,beq_eq_false_iff_ne,ne_eq]at hc';rw[hc'.1.1]at a1;rw[decide_eq_false (show ¬l[k]=UInt8.ofNat 45 from hc'.1.2)]at a2;rw[decide_eq_false (show ¬l[k]=UInt8.ofNat 46 from hc'.2)]at a3;clear hc hc';generalize(l[k].toNat:Int)=x at d1 a1 a2 a3;have a2':(x != 45)=true:=a2;have a3':(x != 46)=true:=a3;clear a2 a3
    go_wp2_with (go_at_call 56;refine(Dk _ _).mono ?_;rintro e w' ⟨rfl,rfl⟩)
    go_ret;exact⟨by rw[HX.out];rfl,rfl⟩
  ·have HA:Hid (l.all hch=true):=Hi (by have:=HQ.out;rw[List.take_of_length_le (by omega)]at this;exact this);by_cases h0:0<l.length
   ·obtain⟨b,o,rfl,d1⟩:=HR.out.at_ h0;obtain⟨b',o',e',d2⟩:=HR.out.at_ (k:=l.length-1) (by omega);obtain⟨rfl,rfl⟩:b=b'∧o=o':=by injection e' with e';injection e' with e1 e2;exact⟨e1,e2⟩
    clear e';have a1:=Gp l[0];have a2:=Gp (l[l.length-1]'(by omega));obtain⟨r1,e1⟩:∃r,Du l[0]=r:=⟨_,rfl⟩;obtain⟨r2,e2⟩:∃r,Du (l[l.length-1]'(by omega))=r:=⟨_,rfl⟩;have HE:Hid (Bp l=(r1&&r2)):=Hi (by rw[GK h0,HA.out,e1,e2];rfl);rw[Nat.add_zero]at d1;rw[e1]at a1;rw[e2]at a2;clear e1 e2;generalize(l[0].toNat:Int)=x at d1 a1
    generalize((l[l.length-1]'(by omega)).toNat:Int)=y at d2 a2;have HN:Hid (((l.length:Int)-1).toNat=l.length-1):=Hi (by omega);cases r1
    ·go_wp2_with (go_at_call 56;refine(Dk _ _).mono ?_;rintro e w' ⟨rfl,rfl⟩)
     go_ret;exact⟨by rw[HE.out];rfl,rfl⟩
    ·go_wp2_with (go_at_call 56;refine(Dk _ _).mono ?_;rintro e w' ⟨rfl,rfl⟩)
     go_ret;exact⟨by rw[HE.out];rfl,rfl⟩
   ·obtain rfl:l=[]:=List.eq_nil_of_length_eq_zero (by omega);go_wp2;go_ret;exact⟨rfl,rfl⟩
theorem B6(b o k:Nat):(⟨b,o,none⟩:Addr).add k=⟨b,o+k,none⟩:=by cases k<;>simp[Addr.add]
theorem Jb{l:Tx}(h:0<l.length)(n:UInt8):(l.head? ==some n)=decide (l[0]=n):=by
 cases l with
 |nil=>simp at h
 |cons x r=>
  show(some x==some n)=decide (x=n);by_cases e:x=n
  ·subst e;simp
  ·rw[decide_eq_false e];simpa using e
theorem Iy{w:World}{A:Option Addr}{c:Nat}{l:Tx}(h:Bv w (.slice A l.length c) l){k:Nat}(hk:k≤l.length):
 Bv w (.slice (if c=k then A else A.map (·.add (k*1))) (l.length-k) (c-k)) (l.drop k):=by
 obtain⟨A',c',e,h1,h2,h3,h4⟩:=h;injection e with e1 e2 e3
 subst e1;subst e3;refine⟨_,_,by rw[List.length_drop],by rw[List.length_drop];omega,by omega,by rw[List.length_drop];omega,fun hn=>?_⟩;rw[List.length_drop]at hn;obtain⟨b,o,rfl,hc⟩:=h4 (by omega);refine⟨b,o+k,?_,fun j hj=>?_⟩
 ·rw[if_neg (by omega)];simp[B6]
 ·rw[List.length_drop]at hj;have e:=hc (k+j) (by omega);rw[List.getElem_drop,←e]
  congr 2
  omega
theorem Bb{w:World}{A:Option Addr}{n c:Nat}{l:Tx}(h:Bv w (.slice A n c) l){k:Nat}(hk:k≤l.length){z:Int}(hz:z=k):
 ∃v,Bv w v (l.drop k)∧(∀W,(Instr.slice 22 (.slice A n c) (some (.int .i64 z)) none none).run Tryz.prog W= .ok v W)∧
  (∀W,(Instr.sliceAt 22 (.slice A n c) (some (.int .i64 z)) none none).run Tryz.prog W= .ok v W):=by
 obtain rfl:n=l.length:=by obtain⟨A',c',e,_⟩:=h;injection e
 subst hz;have q:∀W,(Instr.slice 22 (.slice A l.length c) (some (.int .i64 (k:Int))) none none).run Tryz.prog W= .ok (.slice (if c=k then A else A.map (·.add (k*1))) (l.length-k) (c-k)) W:=fun W=>by go_simp
 exact⟨_,Iy h hk,q,fun W=>by go_simp⟩
theorem CD{w:World}{A:Option Addr}{n c:Nat}{l:Tx}(h:Bv w (.slice A n c) l){k:Nat}(hk:k≤l.length){m:Nat}(hm:k≤m)(hm2:m≤c):
 Bv w (.slice A k m) (l.take k):=by
 obtain⟨A',c',e,h1,h2,h3,h4⟩:=h;injection e with e1 e2 e3
 subst e1;subst e3;have hl:(l.take k).length=k:=by rw[List.length_take];omega
 refine⟨_,_,by rw[hl],by rw[hl];exact hm,by omega,by omega,fun hn=>?_⟩;rw[hl]at hn;obtain⟨b,o,rfl,hc⟩:=h4 (by omega);refine⟨b,o,rfl,fun j hj=>?_⟩;rw[hl]at hj;rw[List.getElem_take];exact hc j (by omega)
theorem MI(l:Tx)(x:UInt8):Iu (l++[x])=10*Iu l+(x.toNat-48):=by unfold Iu;rw[List.foldl_append];rfl
theorem MJ(l r:Tx):Iu l≤Iu (l++r):=by
 unfold Iu;rw[List.foldl_append];generalize List.foldl _ 0 l=n;induction r generalizing n with
 |nil=>exact NL _
 |cons x r ih=>rw[List.foldl_cons];exact Nat.le_trans (by omega) (ih _)
def Np(l:Tx)(w:World)(e:Ending)(w':World):Prop:=
 ∃(n:Nat) (ok:Bool),e= .returned (.tuple #[.int .i64 n,.bool ok])∧n≤655359∧FE l=(if ok then some n else none)∧w=w'
theorem Qo{c:UInt8}:GA c=true→48≤(c.toNat:Int)∧(c.toNat:Int)≤57:=by
 intro h;have e1:(48:UInt8).toNat=48:=rfl;have e2:(57:UInt8).toNat=57:=rfl;simp only[GA,Bool.and_eq_true,decide_eq_true_eq,UInt8.le_iff_toNat_le]at h;omega
theorem Mx(v:Value)(l:Tx)(w:World)(hv:Bv w v l):Calls Tryz.prog 104 #[v] w (Np l w):=by
 obtain⟨A,cc,rfl,h1,h2,h4⟩:=hv;have h3:=h4.1;have HR:=Hi h4;clear h4;go_enter Tryz.func104,Tryz.ntmps104;go_wp2
 go_loop [4,5] (fun n i=>∃(k:Nat) (z:Int),k≤l.length∧i= .int .i64 k∧n= .int .i64 z∧0≤z∧z≤655359∧Hid (z=(Iu (l.take k):Int))∧(l.take k).all GA=true) (fun n i=>l.length-(intOf i).toNat)
 case atStart=>exact⟨0,0,Nat.zero_le _,rfl,rfl,by omega,by omega,Hi rfl,rfl⟩
 case round=>
  obtain⟨k,z,hk,rfl,rfl,hz0,hz1,HZ,hq⟩:=hrel;have HQ:=Hi hq;clear hq;by_cases hlt:k<l.length
  ·obtain⟨b,o,rfl,d1⟩:=HR.out.at_ hlt;have a1:=Ge l[k];by_cases hn:GA l[k]=true
   ·have hr:=Qo hn;by_cases hz:z≤65535
    ·have HZ2:Hid (10*z+((l[k].toNat:Int)-48)=(Iu (l.take (k+1)):Int)):=Hi (by
      rw[List.take_succ_eq_append_getElem hlt,MI];have:=HZ.out;omega)
     have HX:Hid ((l.take (k+1)).all GA=true):=Hi (by rw[List.take_succ_eq_append_getElem hlt,List.all_append,HQ.out];simpa using hn);rw[hn]at a1;clear hn;generalize(l[k].toNat:Int)=x at d1 a1 hr HZ2;obtain⟨hr1,hr2⟩:=hr;go_wp2_with (go_at_call 80;refine(Cs _ _).mono ?_;rintro e w' ⟨rfl,rfl⟩)
     go_round
     case rel=>exact⟨k+1,10*z+(x-48),by omega,by go_num,rfl,by omega,by omega,HZ2,HX.out⟩
     case measure=>simp[intOf];omega
    ·have HX:Hid (FE l=none):=Hi (by
      unfold FE;have h1:=MJ (l.take k) (l.drop k);rw[List.take_append_drop]at h1;have:=HZ.out;rw[if_neg];simp only[Bool.and_eq_true,decide_eq_true_eq];omega)
     rw[hn]at a1;clear hn;generalize(l[k].toNat:Int)=x at d1 a1 hr;go_wp2_with (go_at_call 80;refine(Cs _ _).mono ?_;rintro e w' ⟨rfl,rfl⟩)
     go_ret2
     exact⟨0,false,rfl,by omega,HX.out,rfl⟩
   ·have hn':GA l[k]=false:=by simpa using hn
    have HX:Hid (FE l=none):=Hi (by
     unfold FE;rw[if_neg];simp only[Bool.and_eq_true];rintro⟨⟨⟨h,_⟩,_⟩,_⟩;exact hn (List.all_eq_true.1 h _ (List.getElem_mem hlt)))
    rw[hn']at a1;clear hn hn';generalize(l[k].toNat:Int)=x at d1 a1;go_wp2_with (go_at_call 80;refine(Cs _ _).mono ?_;rintro e w' ⟨rfl,rfl⟩)
    go_ret2
    exact⟨0,false,rfl,by omega,HX.out,rfl⟩
  ·have hkl:l.take k=l:=List.take_of_length_le (by omega);have HA:Hid (l.all GA=true):=Hi (by have:=HQ.out;rw[hkl]at this;exact this);have HD:Hid (z=(Iu l:Int)):=Hi (by have:=HZ.out;rw[hkl]at this;exact this);clear hkl HZ HQ;by_cases h0:0<l.length
   ·obtain⟨b,o,rfl,d1⟩:=HR.out.at_ h0;have hne:l≠[]:=List.length_pos_iff.1 h0;have a1:=Eo l[0] 48 (by omega);have hhd:(l.head? ==some 48)=decide (l[0]=48):=Jb h0 48;have HP:Hid (FE l=if(!decide (l[0]=48)&&decide (z≤65535))=true then some z.toNat else none):=Hi (by
     unfold FE;have he:l.isEmpty=false:=by simpa using hne
     have hz:=HD.out;rw[HA.out,he,hhd];have hdd:decide (Iu l≤65535)=decide (z≤65535):=by rw[Bool.eq_iff_iff];simp only[decide_eq_true_eq];omega
     rw[hdd,show z.toNat=Iu l from by omega];rfl)
    clear hhd hne;rw[Nat.add_zero]at d1;by_cases h48:l[0]=48
    ·rw[decide_eq_true (show l[0]=UInt8.ofNat 48 from h48)]at a1;rw[decide_eq_true h48]at HP;clear h48;generalize(l[0].toNat:Int)=x at d1 a1;have a1':(x != 48)=false:=a1;clear a1;go_wp2
     go_ret2
     exact⟨z.toNat,false,by rw[Int.toNat_of_nonneg hz0];rfl,by omega,HP.out,rfl⟩
    ·rw[decide_eq_false (show ¬l[0]=UInt8.ofNat 48 from h48)]at a1;rw[decide_eq_false h48]at HP;clear h48;generalize(l[0].toNat:Int)=x at d1 a1;have a1':(x != 48)=true:=a1;clear a1;obtain⟨r,hr⟩:∃r,decide (z≤65535)=r:=⟨_,rfl⟩;rw[hr]at HP;go_wp2
     go_ret2
     exact⟨z.toNat,r,by rw[Int.toNat_of_nonneg hz0];rfl,by omega,HP.out,rfl⟩
   ·obtain rfl:l=[]:=List.eq_nil_of_length_eq_zero (by omega);go_wp2
    go_ret2
    exact⟨z.toNat,false,by rw[Int.toNat_of_nonneg hz0];rfl,by omega,rfl,rfl⟩
theorem JY(v:Value)(l:Tx)(w:World)(b:Bool)(hb:Bp l=b)(hv:Bv w v l):Calls Tryz.prog 103 #[v] w fun e w'=>e= .returned (.bool b)∧w'=w:=by
 subst hb;exact(NH v l w hv).mono fun e w' ⟨h1,h2⟩=>⟨h1,h2.symm⟩
def Rg(w0:World)(l:Tx)(w:World)(e:Ending)(w':World):Prop:=
 ∃(v:Value) (n:Nat) (ok:Bool),e= .returned (.tuple #[v,.int .i64 n,.bool ok])∧Dr w w'∧(∃A m c,v= .slice A m c)∧n≤655359∧if ok=true then ∃h,BF l=some (h,n)∧Bv w0 v h else BF l=none
theorem Bo(l:Tx)(c:UInt8):(∃i:Nat,ixI l c=i∧i<l.length∧BC l c=i)∨(ixI l c= -1∧¬BC l c<l.length):=by
 unfold ixI;by_cases h:BC l c<l.length
 ·exact .inl ⟨BC l c,by rw[if_pos h],h,rfl⟩
 ·exact .inr ⟨by rw[if_neg h],h⟩
theorem GN(v:Value)(l:Tx)(w0 w:World)(h0:Le w0 w)(hv:Bv w0 v l):Calls Tryz.prog 79 #[v] w (Rg w0 l w):=by
 have HV:=Hi hv;have H0:=Hi h0;obtain⟨A,cc,rfl,h1,h2,h4⟩:=hv;have h3:=h4.1;clear h4 h0;have ci:=Br _ l 58 w (HV.out.le H0.out);rcases Bo l 58 with⟨i,e1,hi,e2⟩|⟨e1,e2⟩
 ·rw[e1]at ci;have CI:=Hi ci;obtain⟨v2,hb2,q1,q2⟩:=Bb (k:=i+1) (z:=(i:Int)+1) HV.out hi (by omega);have HB2:=Hi hb2;have hb3:=CD (k:=i) HV.out (by omega) (NL i) (by omega);have hb4:=CD (k:=i) HV.out (by omega) (m:=cc) (by omega) (NL _);have HB3:=Hi hb3;have HB4:=Hi hb4
  have HS:Hid (BF l=(match FE (l.drop (i+1))with|some n=>if Bp (l.take i)then some (l.take i,n)else none|none=>none)):=Hi (by unfold BF;rw[e2,if_pos hi];rfl);clear hb2 hb3 hb4 e1 e2 ci;go_enter Tryz.func79,Tryz.ntmps79;go_wp2_with fail
  refine CI.out.mono ?_;rintro e w' ⟨rfl,rfl⟩;go_wp2_with fail
  refine(Mx v2 _ _ (HB2.out.le H0.out)).mono ?_;rintro e w' ⟨n,ok,rfl,hn,hp,rfl⟩;have HP:=Hi hp;clear hp q1 q2;cases ok
  ·go_wp2
   go_quiet (fail)
   go_wp2
   go_ret3
   refine⟨_,n,false,rfl,⟨_,rfl⟩,⟨_,_,_,rfl⟩,hn,?_⟩;have hp:=HP.out;have hs:=HS.out;rw[hp]at hs;rw[if_neg (by decide)];exact hs
  ·obtain⟨r,hr⟩:∃r,Bp (l.take i)=r:=⟨_,rfl⟩;have HR:=Hi hr;clear hr;go_wp2
   go_quiet ((go_at_call 103;exact Calls.quiet_of_same (JY _ _ _ _ HR.out ((HB4.out.le H0.out).dn _))))
   go_wp2
   go_ret3
   refine⟨_,n,r,rfl,⟨_,rfl⟩,⟨_,_,_,rfl⟩,hn,?_⟩;have hp:=HP.out;have hs:=HS.out;rw[hp]at hs;have hr:=HR.out;simp only[hr]at hs;cases r
   ·rw[if_neg (by decide)];exact hs
   ·rw[if_pos rfl];exact⟨_,hs,HB3.out⟩
 ·rw[e1]at ci;have CI:=Hi ci;have HS:Hid (BF l=if Bp l then some (l,0)else none):=Hi (by unfold BF;rw[if_neg e2]);obtain⟨r,hr⟩:∃r,Bp l=r:=⟨_,rfl⟩;have HR:=Hi hr;clear hr e1 e2 ci;go_enter Tryz.func79,Tryz.ntmps79;go_wp2_with fail
  refine CI.out.mono ?_;rintro e w' ⟨rfl,rfl⟩;go_wp2_with fail
  refine(JY _ _ _ _ HR.out (HV.out.le H0.out)).mono ?_;rintro e w' ⟨rfl,rfl⟩;go_wp2
  go_ret3
  refine⟨_,0,r,rfl,Dr.refl _,⟨_,_,_,rfl⟩,by omega,?_⟩;have hs:=HS.out;have hr:=HR.out;rw[hr]at hs;cases r
  ·rw[if_neg (by decide)];exact hs
  ·rw[if_pos rfl];exact⟨_,hs,HV.out⟩
end Go.Proofs.YtejhpdcjafbklaaGreatDoor
namespace Go.Proofs.YtejhpdcjafbklaaGreatDoor
open Go.RowKit
def pch(c:UInt8):Bool:=33≤c&&c≤126&&c != 60&&c != 62&&c != 34&&c != 44
theorem Qm(c:UInt8):pch c=(decide (33≤(c.toNat:Int))&&decide ((c.toNat:Int)≤126)&& !Hf (bs ⟨#[60,62,34,44]⟩) c):=by
 have e1:(33:UInt8).toNat=33:=rfl;have e2:(126:UInt8).toNat=126:=rfl;have h1:decide ((33:UInt8)≤c)=decide (33≤(c.toNat:Int)):=by
  rw[Bool.eq_iff_iff];simp only[decide_eq_true_eq,UInt8.le_iff_toNat_le];omega
 have h2:decide (c≤(126:UInt8))=decide ((c.toNat:Int)≤126):=by
  rw[Bool.eq_iff_iff];simp only[decide_eq_true_eq,UInt8.le_iff_toNat_le];omega
 have h3:Hf (bs ⟨#[60,62,34,44]⟩) c=(c==60||(c==62||(c==34||(c==44||false)))):=rfl;unfold pch;rw[h1,h2,h3];cases h60:(c==60)<;>cases h62:(c==62)<;>cases h34:(c==34)<;>cases h44:(c==44)<;>simp[bne,h60,h62,h34,h44]
theorem IY(v:Value)(l:Tx)(w:World)(hv:Bv w v l):Calls Tryz.prog 54 #[v] w fun e w'=>e= .returned (.bool (prB l))∧w=w':=by
 have hprb:prB l=l.all pch:=rfl;have HPB:=Hi hprb;clear hprb;obtain⟨A,cc,rfl,h1,h2,h4⟩:=hv;have h3:=h4.1;have HR:=Hi h4;clear h4;go_enter Tryz.func54,Tryz.ntmps54;go_wp2
 go_loop [3] (fun i=>∃k:Nat,k≤l.length∧i= .int .i64 k∧(l.take k).all pch=true) (fun i=>l.length-(intOf i).toNat)
 case atStart=>exact⟨0,Nat.zero_le _,rfl,rfl⟩
 case round=>
  obtain⟨k,hk,rfl,hq⟩:=hrel;have HQ:=Hi hq;clear hq;by_cases hlt:k<l.length
  ·obtain⟨b,o,rfl,d1⟩:=HR.out.at_ hlt;have ci:=Ha l[k] ⟨#[60,62,34,44]⟩ w (by decide);have HPC:=Hi (Qm l[k]);by_cases hp:pch l[k]=true
   ·have HX:Hid ((l.take (k+1)).all pch=true):=Hi (by rw[List.take_succ_eq_append_getElem hlt,List.all_append,HQ.out];simpa using hp);have hp2:=HPC.out;rw[hp]at hp2;have hp3:=hp2.symm;simp only[Bool.and_eq_true,decide_eq_true_eq,Bool.not_eq_true']at hp3;obtain⟨⟨n1,n2⟩,n3⟩:=hp3;have CI:=Hi (AW ci n3);clear ci hp hp2 n3 HPC;generalize(l[k].toNat:Int)=x at d1 CI n1 n2
    go_wp2_with (go_at_call 57;refine CI.out.mono ?_;rintro e w' ⟨rfl,rfl⟩)
    go_round
    case rel=>exact⟨k+1,by omega,by go_num,HX.out⟩
    case measure=>simp[intOf];omega
   ·have HX:Hid (prB l=false):=Hi (by rw[HPB.out];exact List.all_eq_false.2 ⟨l[k],List.getElem_mem hlt,hp⟩);have hp2:pch l[k]=false:=by simpa using hp
    rw[HPC.out]at hp2;by_cases n1:33≤(l[k].toNat:Int)
    ·by_cases n2:(l[k].toNat:Int)≤126
     ·have n3:Hf (bs ⟨#[60,62,34,44]⟩) l[k]=true:=by simpa[n1,n2]using hp2
      have CI:=Hi (AW ci n3);clear ci hp hp2 n3 HPC;generalize(l[k].toNat:Int)=x at d1 CI n1 n2;go_wp2_with (go_at_call 57;refine CI.out.mono ?_;rintro e w' ⟨rfl,rfl⟩)
      go_ret;exact⟨by rw[HX.out];rfl,rfl⟩
     ·clear ci hp hp2 HPC;generalize(l[k].toNat:Int)=x at d1 n1 n2;have n2':126<x:=by omega
      go_wp2;go_ret;exact⟨by rw[HX.out];rfl,rfl⟩
    ·clear ci hp hp2 HPC;generalize(l[k].toNat:Int)=x at d1 n1;have n1':x<33:=by omega
     go_wp2;go_ret;exact⟨by rw[HX.out];rfl,rfl⟩
  ·have HX:Hid (prB l=true):=Hi (by have:=HQ.out;rw[List.take_of_length_le (by omega)]at this;rw[HPB.out];exact this);go_wp2;go_ret;exact⟨by rw[HX.out];rfl,rfl⟩
theorem As{w:World}{v:Value}{l:Tx}(h:Bv w v l):∃A c,v= .slice A l.length c∧l.length≤140737488355328:=by
 obtain⟨A,c,e,_,_,h4⟩:=h;exact⟨A,c,e,h4.1⟩
theorem I0(φ:Nat→Prop)(v:Value)(l:KVs)(w:World)(hv:Kq φ w v l):Calls Tryz.prog 78 #[v] w fun e w'=>e= .returned (.bool (DV l))∧w=w':=by
 have HV:=Hi hv;obtain⟨A,cc,rfl,h1,h2,h3,_⟩:=hv;go_enter Tryz.func78,Tryz.ntmps78;go_wp2
 go_loop [3] (fun i=>∃k:Nat,k≤l.length∧i= .int .i64 k∧(l.take k).all (fun x=> !x.2.isEmpty)=true) (fun i=>l.length-(intOf i).toNat)
 case atStart=>exact⟨0,Nat.zero_le _,rfl,rfl⟩
 case round=>
  obtain⟨k,hk,rfl,hq⟩:=hrel;have HQ:=Hi hq;clear hq;by_cases hlt:k<l.length
  ·obtain⟨g,o,rfl,x,y,d1,d2,X,Y⟩:=HV.out.at_ hlt;obtain⟨A2,c2,rfl,hyl⟩:=As Y.out;clear d1;by_cases he:l[k].2=[]
   ·have HX:Hid (DV l=false):=Hi (by
     unfold DV;exact List.all_eq_false.2 ⟨l[k],List.getElem_mem hlt,by rw[he];simp⟩)
    have el:l[k].2.length=0:=by rw[he];rfl
    rw[el]at d2;clear he el hyl;go_wp2;go_ret;exact⟨by rw[HX.out];rfl,rfl⟩
   ·have HX:Hid ((l.take (k+1)).all (fun x=> !x.2.isEmpty)=true):=Hi (by
     rw[List.take_succ_eq_append_getElem hlt,List.all_append,HQ.out];simpa using he)
    have el:0<l[k].2.length:=List.length_pos_iff.2 he;generalize l[k].2.length=m at d2 el hyl;have el':((m:Int)==0)=false:=by simp;omega
    clear he;go_wp2
    go_round
    case rel=>exact⟨k+1,by omega,by go_num,HX.out⟩
    case measure=>simp[intOf];omega
  ·have HX:Hid (DV l=true):=Hi (by have:=HQ.out;rw[List.take_of_length_le (by omega)]at this;exact this);go_wp2;go_ret;exact⟨by rw[HX.out];rfl,rfl⟩
def u8s(l:Tx):List Value:=l.map fun c=>Value.int .u8 (c.toNat:Int)
def AY(base:Nat)(w:World)(v:Value)(l:Tx):Prop:=w.ownsRow base 5 1 v l.length (u8s l)
theorem FT:((Tryz.prog).info? 5).map (fun i=>(i.zero,i.size,i.bytes))=some (some (.int .u8 0),1,1):=by kernel_rfl
theorem AY.nil(base:Nat)(w:World):AY base w (.slice none 0 0) []:=World.ownsRow_nil _ _ _ _
theorem AY.le{base:Nat}{w w':World}{v:Value}{l:Tx}(h:AY base w v l)(k:Le w w'):AY base w' v l:=Ds h k
theorem AY.bv{base:Nat}{w:World}{v:Value}{l:Tx}(h:AY base w v l)(hl:l.length≤140737488355328):Bv w v l:=by
 have h0:=h;obtain⟨_,h2⟩:=h;rcases h2 with⟨rfl,hn⟩|⟨g,cap,cur,rfl,hg,hh,hle,hm,hs,ht⟩
 ·obtain rfl:l=[]:=List.eq_nil_of_length_eq_zero hn;exact Bv.nil w
 ·unfold maxLen at hm;refine⟨_,_,rfl,hle,hm,hl,fun _=>⟨g,0,rfl,fun j hj=>?_⟩⟩;have:=h0.cells (g:=g) rfl j (.int .u8 (l[j].toNat:Int)) (by unfold u8s;simp[List.getElem?_eq_getElem hj]);rw[B6]at this;exact this
theorem Cj{w:World}{base:Nat}{v x:Value}{l m:Tx}(hown:AY base w v l)(hx:Bv w x m)(hl:l.length+m.length≤140737488355328)(hbase:base≤w.heap.size)(ty:TypeId):
 ∃v' w',(Builtin.append_ #[22,22] ty #[v,x]).run Tryz.prog w= .ok v' w'∧AY base w' v' (l++m)∧w.grownBy w' v.ownBlock:=by
 obtain⟨i0,hi0,hz0,hz1,hz2⟩:=info_parts FT;obtain⟨A,c,rfl,h1,h2,h3,h4⟩:=hx;cases A with
 |none=>
  have hm:m.length=0:=by
   rcases Nat.eq_zero_or_pos m.length with h|h
   ·exact h
   ·obtain⟨_,_,e,_⟩:=h4 h;cases e
  obtain rfl:m=[]:=List.eq_nil_of_length_eq_zero hm;refine⟨v,w,?_,by rw[List.append_nil];exact hown,World.grownBy.refl w _⟩;rcases hown.2 with⟨rfl,h5⟩|⟨g,cap,cur,rfl,_,_,hnc,_⟩
  ·simp[Builtin.append_,run_underlying Tryz.underlying22,sizeOf,typeInfo,hi0,Builtin.lenOf,Builtin.firstCells]
  ·simp[Builtin.append_,run_underlying Tryz.underlying22,sizeOf,typeInfo,hi0,Builtin.lenOf,Builtin.firstCells,hnc,storeCells]
 |some ad=>
  obtain⟨v',w',q,k1,k2,_⟩:=run_append_own (P:=Tryz.prog) w base 22 ty 5 i0 (.int .u8 0) 1 1 Tryz.underlying22 hi0 hz0 hz1 hz2 rfl (by decide) v l.length (u8s l) hown ad m.length c (u8s m) (by unfold u8s;simp) (fun j u hu=>by
   unfold u8s at hu;rw[List.getElem?_map]at hu;have hj:j<m.length:=by
    rcases Nat.lt_or_ge j m.length with h|h
    ·exact h
    ·rw[List.getElem?_eq_none h]at hu;cases hu
   rw[List.getElem?_eq_getElem hj,Option.map_some,Option.some.injEq]at hu;subst hu;obtain⟨b,o,e,hc⟩:=h4 (by omega);injection e with e
   subst e;rw[B6];exact hc j hj) (fun u hu=>by
   unfold u8s at hu;obtain⟨_,_,rfl⟩:=List.mem_map.1 hu;rfl) (by unfold maxLen;omega) (by omega) hbase
  refine⟨v',w',q,?_,k2⟩;unfold AY;rw[LA];unfold u8s at k1⊢;rw[List.map_append];exact k1
theorem AJ{w:World}{ops:Array Oper}{rest:List Oper}{o:Oper}{a:Act}{Q:Exit→Act→World→Prop}(hgd:o.guard=none)(s x:Operand)
 (ho:o.op= .call {callee:= .builtin .append,args:= #[s,x],argTypes:= #[22,22]}){base:Nat}{v xv:Value}{l m:Tx}(hs:a.eval s=v)(hx:a.eval x=xv)
 (hown:AY base w v l)(hm:Bv w xv m)(hl:l.length+m.length≤140737488355328)(hbase:base≤w.heap.size)
 (h:∀v' w',AY base w' v' (l++m)→w.grownBy w' v.ownBlock→wpList Tryz.prog ops Q rest (a.put o.dst v') w'):wpList Tryz.prog ops Q (o::rest) a w:=by
 refine wpList_plain hgd fun K hK=>?_;obtain⟨v',w',q,k1,k2⟩:=Cj hown hm hl hbase o.type;unfold Oper.wp execOp;simp only[ho,resolve,invoke,builtin,Sem.run_bind,Sem.run_pure,Result.andThen_ok,List.map_toArray,List.map_cons,List.map_nil,hs,hx,q];exact hK _ _ (h v' w' k1 k2)
end Go.Proofs.YtejhpdcjafbklaaGreatDoor
namespace Go.Proofs.YtejhpdcjafbklaaGreatDoor
open Go.RowKit
theorem PI{c:UInt8}(h1:65≤(c.toNat:Int))(h2:(c.toNat:Int)≤90):((Bf c).toNat:Int)=(c.toNat:Int)+32:=by
 have e1:(65:UInt8).toNat=65:=rfl;have e2:(90:UInt8).toNat=90:=rfl;have e3:(32:UInt8).toNat=32:=rfl;have h:(65≤c&&c≤90)=true:=by simp only[Bool.and_eq_true,decide_eq_true_eq,UInt8.le_iff_toNat_le];omega
 unfold Bf;rw[if_pos h,UInt8.toNat_add,e3,Nat.mod_eq_of_lt (by omega)];omega
theorem PJ{c:UInt8}(h:¬(65≤(c.toNat:Int)∧(c.toNat:Int)≤90)):Bf c=c:=by
 have e1:(65:UInt8).toNat=65:=rfl;have e2:(90:UInt8).toNat=90:=rfl;have h':¬(65≤c&&c≤90)=true:=by simp only[Bool.and_eq_true,decide_eq_true_eq,UInt8.le_iff_toNat_le];omega
 unfold Bf;rw[if_neg h']
def H4(f:UInt8→UInt8)(l:Tx)(k:Nat):Tx:=(l.take k).map f++l.drop k
theorem Jd(f:UInt8→UInt8)(l:Tx)(k:Nat):(H4 f l k).length=l.length:=by unfold H4;simp only[LA,List.length_map,List.length_take,List.length_drop];omega
theorem Ps(f:UInt8→UInt8){l:Tx}{k:Nat}(h:k<l.length):(H4 f l k)[k]? =some l[k]:=by
 unfold H4;rw[List.getElem?_append_right (by simp only[List.length_map,List.length_take];omega)];have e:k-((l.take k).map f).length=0:=by simp only[List.length_map,List.length_take];omega
 rw[e,List.getElem?_drop,Nat.add_zero,List.getElem?_eq_getElem h]
theorem L9(f:UInt8→UInt8){l:Tx}{k:Nat}(h:k<l.length):H4 f l (k+1)=(H4 f l k).set k (f l[k]):=by
 unfold H4;have e:((l.take k).map f).length=k:=by simp only[List.length_map,List.length_take];omega
 rw[List.set_append_right _ _ (by omega),e,Nat.sub_self,List.drop_eq_getElem_cons h,List.set_cons_zero,List.take_succ_eq_append_getElem h,List.map_append,List.append_assoc];rfl
theorem MA(f:UInt8→UInt8){l:Tx}{k:Nat}(h:k<l.length)(hf:f l[k]=l[k]):H4 f l (k+1)=H4 f l k:=by
 unfold H4;rw[List.drop_eq_getElem_cons h,List.take_succ_eq_append_getElem h,List.map_append,List.append_assoc,List.map_cons,List.map_nil,hf];rfl
theorem NU(f:UInt8→UInt8)(l:Tx){k:Nat}(h:l.length≤k):H4 f l k=l.map f:=by
 unfold H4;rw[List.take_of_length_le h,List.drop_eq_nil_of_le h,List.append_nil]
theorem Oe(l:Tx)(k:Nat)(c:UInt8):(u8s l).set k (.int .u8 (c.toNat:Int))=u8s (l.set k c):=by unfold u8s;rw[List.map_set]
theorem QS{l:Tx}{k:Nat}{c:UInt8}(h:l[k]? =some c):(u8s l)[k]? =some (.int .u8 (c.toNat:Int)):=by unfold u8s;rw[List.getElem?_map,h];rfl
def QC(l:Tx)(w:World)(e:Ending)(w':World):Prop:=∃v,e= .returned v∧AY w.heap.size w' v (l.map Bf)∧Le w w'
theorem Fi(v:Value)(l:Tx)(w:World)(hv:Bv w v l):Calls Tryz.prog 53 #[v] w (QC l w):=by
 have HV:=Hi hv;obtain⟨A0,c0,hv0,hl0⟩:=As hv;clear hv0 hv;go_enter Tryz.func53,Tryz.ntmps53;go_wp2_with (at_builtin;refine AJ rfl (.const (.slice none 0 0)) (.tmp 5) rfl (base:=w.heap.size) rfl rfl (AY.nil _ _) HV.out ?_ (NL _) ?_)
 ·simp only[LN];omega
 intro v1 w1 hown hgrow;have hle1:Le w w1:=Below.grown' (AC w) hgrow (NL _) (fun g hg=>by simp[Value.ownBlock]at hg);obtain⟨A,c,rfl,_⟩:=As (hown.bv hl0);have HOWN:=Hi hown;have HLE:=Hi hle1;clear hown hgrow hle1;go_wp2
 go_loopg [4] (l.length) (fun n i wr=>∃k:Nat,n+k=l.length∧i= .int .i64 k∧Le w wr∧AY w.heap.size wr (.slice A l.length c) (H4 Bf l k))
 case atStart=>exact⟨0,by omega,rfl,HLE.out,by have:=HOWN.out;unfold H4;rw[List.take_zero,List.map_nil,List.drop_zero,List.nil_append];exact this⟩
 case round=>
  obtain⟨k,hn,rfl,hle,hown⟩:=hrel;have HO:=Hi hown;have HL:=Hi hle;have HN:gk+k≤l.length∧l.length≤gk+k:=by omega
  clear hn hle;by_cases hlt:k<l.length
  ·have hown':=hown;unfold AY at hown';rw[Jd]at hown';obtain⟨g,cap,hvv,_⟩:=hown'.form (by omega);obtain⟨rfl,rfl⟩:A=some ⟨g,0,none⟩∧c=cap:=by injection hvv with h1 _ h2;exact⟨h1,h2⟩
   have d1:wr.cell? ⟨g,k,none⟩=some (.int .u8 (l[k].toNat:Int)):=by rw[hown'.cellAt k (by omega),QS (Ps Bf hlt)]
   have z1:=hown'.frozenAt k;have hst:=hown'.stored k (.int .u8 ((Bf l[k]).toNat:Int));rw[Oe,←L9 Bf hlt]at hst;have hb:=l[k].toNat_lt;by_cases hup:65≤(l[k].toNat:Int)∧(l[k].toNat:Int)≤90
   ·have e:=PI hup.1 hup.2;rw[e]at hst;have HST:Hid (AY w.heap.size (wr.setCell ⟨g,k,none⟩ (.int .u8 ((l[k].toNat:Int)+32))) (.slice (some ⟨g,0,none⟩) l.length c) (H4 Bf l (k+1))∧Le w (wr.setCell ⟨g,k,none⟩ (.int .u8 ((l[k].toNat:Int)+32)))):=Hi (by
     refine⟨?_,Below.grown' HL.out hst.2 (NL _) (fun g' hg'=>?_)⟩
     ·unfold AY;rw[Jd];exact hst.1
     ·injection hg' with hg'
      subst hg';exact(AK hown' g rfl).1)
    obtain⟨n1,n2⟩:=hup;clear hst hown hown' hvv e;generalize(l[k].toNat:Int)=x at d1 n1 n2 HST;go_wp2;go_roundg (gk-1)
    case measure=>omega
    case rel=>exact⟨k+1,by omega,by go_num,HST.out.2,HST.out.1⟩
   ·have e:=PJ hup;have HST:Hid (AY w.heap.size wr (.slice (some ⟨g,0,none⟩) l.length c) (H4 Bf l (k+1))):=Hi (by rw[MA Bf hlt e];exact hown);clear hst hown hown' hvv e;by_cases n1:65≤(l[k].toNat:Int)
    ·have n2:90<(l[k].toNat:Int):=by omega
     clear hup;generalize(l[k].toNat:Int)=x at d1 n1 n2;go_wp2;go_roundg (gk-1)
     case measure=>omega
     case rel=>exact⟨k+1,by omega,by go_num,HL.out,HST.out⟩
    ·have n2:(l[k].toNat:Int)<65:=by omega
     clear hup n1;generalize(l[k].toNat:Int)=x at d1 n2;go_wp2;go_roundg (gk-1)
     case measure=>omega
     case rel=>exact⟨k+1,by omega,by go_num,HL.out,HST.out⟩
  ·have HE:Hid (AY w.heap.size wr (.slice A l.length c) (l.map Bf)):=Hi (by rw[←NU Bf l (k:=k) (by omega)];exact hown);clear hown;go_wp2;go_ret;exact⟨_,rfl,HE.out,HL.out⟩
theorem Ql{c:UInt8}(a r:Tx)(h:∀x∈a,x≠c):pcs c (a++c::r)=a::pcs c r:=by
 induction a with
 |nil=>show pcs c (c::r)=_;rw[pcs,if_pos rfl]
 |cons x t ih=>
  show pcs c (x::(t++c::r))=_;rw[pcs,if_neg (h x (by simp)),ih fun y hy=>h y (by simp[hy])]
theorem Qk{c:UInt8}{a:Tx}(h:∀x∈a,x≠c):pcs c a=[a]:=by
 induction a with
 |nil=>rfl
 |cons x t ih=>rw[pcs,if_neg (h x (by simp)),ih fun y hy=>h y (by simp[hy])]
theorem Fk{l:Tx}{c:UInt8}(h:BC l c<l.length):l=l.take (BC l c)++c::l.drop (BC l c+1)∧∀x∈l.take (BC l c),x≠c:=by
 have h0:l[BC l c]=c:=by
  have:=List.findIdx_getElem (xs:=l) (p:=(·==c)) (w:=h);exact eq_of_beq this
 constructor
 ·have e:=(List.take_append_drop (BC l c) l).symm;rw[List.drop_eq_getElem_cons h,h0]at e;exact e
 ·intro x hx;obtain⟨i,hi,e⟩:=List.mem_take_iff_getElem.1 hx;have:=List.not_of_lt_findIdx (xs:=l) (p:=(·==c)) (i:=i) (by unfold BC at hi;omega);rw[e]at this;simpa using this
theorem J8{l:Tx}{c:UInt8}(h:¬BC l c<l.length):∀x∈l,x≠c:=by
 have h1:l.findIdx (·==c)=l.length:=by
  have:=List.findIdx_le_length (xs:=l) (p:=(·==c));unfold BC at h;omega
 rw[List.findIdx_eq_length]at h1;intro x hx;simpa using h1 x hx
def Sl(w0 w:World)(v:Value)(ls:List Tx):Prop:=
 ∃A c,v= .slice A ls.length c∧ls.length≤c∧c≤9223372036854775807∧ls.length≤1099511627776∧
  (0<ls.length→∃g o,A=some ⟨g,o,none⟩∧∀j (h:j<ls.length),∃x,w.cell? ⟨g,o+j,none⟩=some x∧Bv w0 x ls[j])
theorem Sl.at_{w0 w:World}{A:Option Addr}{n c:Nat}{ls:List Tx}(h:Sl w0 w (.slice A n c) ls){k:Nat}(hk:k<ls.length):
 ∃g o,A=some ⟨g,o,none⟩∧∃x,w.cell? ⟨g,o+k,none⟩=some x∧Hid (Bv w0 x ls[k]):=by
 obtain⟨A',c',e,h1,h2,h3,h4⟩:=h;injection e with e1 e2 e3
 subst e1;obtain⟨g,o,rfl,hc⟩:=h4 (by omega);obtain⟨x,hx,hb⟩:=hc k hk;exact⟨g,o,rfl,x,hx,Hi hb⟩
def Me(w:World)(xs:List Value)(ls:List Tx):Prop:=xs.length=ls.length∧∀j (h:j<ls.length),∃x,xs[j]? =some x∧Bv w x ls[j]
theorem Me.nil(w:World):Me w [] []:=⟨rfl,fun j h=>by simp at h⟩
theorem Me.snoc{w:World}{xs:List Value}{ls:List Tx}(h:Me w xs ls){x:Value}{l:Tx}(hx:Bv w x l):Me w (xs++[x]) (ls++[l]):=by
 refine⟨by simp[h.1],fun j hj=>?_⟩;by_cases hlt:j<ls.length
 ·obtain⟨y,e1,e2⟩:=h.2 j hlt;exact⟨y,by rw[List.getElem?_append_left (by rw[h.1];exact hlt)];exact e1,by rw[List.getElem_append_left hlt];exact e2⟩
 ·simp only[LA,LC,LN]at hj;obtain rfl:j=ls.length:=by omega
  exact⟨x,by rw[List.getElem?_append_right (by rw[h.1];exact NL _),h.1,Nat.sub_self];rfl,by simpa using hx⟩
theorem Sl.of_row{w w0:World}{base:Nat}{E:TypeId}{v:Value}{xs:List Value}{ls:List Tx}(h:w.ownsRow base E 1 v ls.length xs)(k:Me w0 xs ls)(hl:ls.length≤1099511627776):Sl w0 w v ls:=by
 have h0:=h;obtain⟨_,h2⟩:=h;rcases h2 with⟨rfl,hn⟩|⟨g,cap,cur,rfl,hg,hh,hle',hm,hs,ht⟩
 ·obtain rfl:ls=[]:=List.eq_nil_of_length_eq_zero hn;exact⟨none,0,rfl,by simp,by simp,by simp,fun h=>by simp at h⟩
 ·unfold maxLen at hm;refine⟨_,_,rfl,hle',hm,hl,fun _=>⟨g,0,rfl,fun j hj=>?_⟩⟩;obtain⟨x,e1,e2⟩:=k.2 j hj;have:=h0.cells (g:=g) rfl j x e1;rw[B6]at this;exact⟨x,this,e2⟩
theorem MN:((Tryz.prog).info? 22).map (fun i=>(i.zero,i.size,i.bytes))=some (some (.slice none 0 0),1,24):=by kernel_rfl
theorem PA(c:UInt8)(l:Tx):(pcs c l).length≤l.length+1:=by
 induction l with
 |nil=>simp[pcs]
 |cons x r ih=>
  rw[pcs];split
  ·simp only[LC];omega
  ·split
   ·simp
   ·rename_i e
    rw[e]at ih;simp only[LC]at ih⊢;omega
def Mb(w0:World)(l:Tx)(c:UInt8)(w:World)(e:Ending)(w':World):Prop:=∃v,e= .returned v∧Sl w0 w' v (pcs c l)∧Le w w'
theorem IJ(v:Value)(l:Tx)(c:UInt8)(w0 w:World)(h0:Le w0 w)(hv:Bv w0 v l)(hl:l.length≤1099511627000):Calls Tryz.prog 101 #[v,.int .u8 (c.toNat:Int)] w (Mb w0 l c w):=by
 have HV:=Hi hv;have H0:=Hi h0;clear hv h0;go_enter Tryz.func101,Tryz.ntmps101;go_wp2
 go_loopg [0,5] (l.length+1) (fun n x sv wr=>∃(rest:Tx) (xs:List Value) (done:List Tx),rest.length<n∧n+done.length≤l.length+1∧Bv w0 x rest∧Le w wr∧wr.ownsRow w.heap.size 22 1 sv done.length xs∧Me w0 xs done∧pcs c l=done++pcs c rest)
 case atStart=>exact⟨l,[],[],by omega,by simp,HV.out,AC w,World.ownsRow_nil _ _ _ _,Me.nil _,rfl⟩
 case round=>
  obtain⟨rest,xs,done,hn,hn2,hx,hle,hown,hba,hpc⟩:=hrel;have HX:=Hi hx;have HO:=Hi hown;have HLE:=Hi hle;have HBA:=Hi hba;have HPC:=Hi hpc;have ci:=Br _ rest c wr (hx.le (Le.trans H0.out hle));obtain⟨A,cc,rfl,hrl⟩:=As hx;obtain⟨i0,hi0,hz0,hz1,hz2⟩:=info_parts MN;have hsz:=hle.size;rcases Bo rest c with⟨i,e1,hi,e2⟩|⟨e1,e2⟩
  ·rw[e1]at ci;have CI:=Hi ci;obtain⟨v2,hb2,q1,q2⟩:=Bb (k:=i+1) (z:=(i:Int)+1) hx hi (by omega);have HB2:=Hi hb2;have hcc:rest.length≤cc:=by obtain⟨_,_,e,h,_⟩:=hx;injection e with _ _ e;omega
   have HB3:=Hi (CD (k:=i) hx (by omega) (NL i) (by omega));have HP:Hid (pcs c rest=rest.take i::pcs c (rest.drop (i+1))):=Hi (by
    have hs:=Fk (l:=rest) (c:=c) (by omega);rw[e2]at hs;have:=Ql (c:=c) (rest.take i) (rest.drop (i+1)) hs.2;rw[←hs.1]at this;exact this)
   have HLD:Hid ((rest.drop (i+1)).length+(i+1)=rest.length):=Hi (by rw[List.length_drop];omega);clear hx hle hown hba hpc e1 e2 ci hb2;go_wp2_with fail
   refine CI.out.mono ?_;rintro e w' ⟨rfl,rfl⟩;go_wp2_with (at_builtin;refine wpList_append_lies _ rfl _ _ 162 rfl w.heap.size 22 i0 (.slice none 0 0) 1 24 Tryz.underlying162 hi0 hz0 hz1 hz2 rfl (by decide) _ _ _ rfl (HO.out.alloc _) ⟨wr.heap.size,0,none⟩ 1 1 [.slice A i i] rfl rfl ?c1 ?c2 ?c3 ?c4 ?c5 ?c6 (wr.heap.size+1) ?c7 ?_)
   case c1=>exact World.news_of_block (heap_alloc_new wr _)
   case c2=>intro u hu;simp only[List.mem_cons,List.mem_nil_iff,or_false]at hu;subst hu;rfl
   case c3=>omega
   case c4=>unfold maxLen;omega
   case c5=>omega
   case c6=>simp;omega
   case c7=>simp
   intro g2 cap2 w2 hown2 hgrow2 hat2 hlt2;have HLE2:Hid (Le w w2):=Hi (Below.grown' (HLE.out.alloc _) hgrow2 (NL _) (fun g hg=>(AK HO.out g hg).1));have HO2:Hid (w2.ownsRow w.heap.size 22 1 (.slice (some ⟨g2,0,none⟩) (done.length+1) cap2) (done++[rest.take i]).length (xs++[.slice A i i])):=Hi (by rw[LA];exact hown2)
   have HBA2:=Hi (HBA.out.snoc HB3.out);have HPC2:Hid (pcs c l=(done++[rest.take i])++pcs c (rest.drop (i+1))):=Hi (by rw[HPC.out,HP.out,List.append_assoc];rfl);have HL2:Hid ((done++[rest.take i]).length=done.length+1):=Hi (by simp);clear hown2 hgrow2 hat2 hlt2;go_wp2;go_roundg (gk-1)
   case measure=>omega
   case rel=>exact⟨rest.drop (i+1),_,done++[rest.take i],by have:=HLD.out;omega,by have:=HL2.out;omega,HB2.out,HLE2.out,HO2.out,HBA2.out,HPC2.out⟩
  ·rw[e1]at ci;have CI:=Hi ci;have HP:Hid (pcs c rest=[rest]):=Hi (Qk (J8 e2));clear hx hle hown hba hpc e1 e2 ci;go_wp2_with fail
   refine CI.out.mono ?_;rintro e w' ⟨rfl,rfl⟩;go_wp2_with (at_builtin;refine wpList_append_lies _ rfl _ _ 162 rfl w.heap.size 22 i0 (.slice none 0 0) 1 24 Tryz.underlying162 hi0 hz0 hz1 hz2 rfl (by decide) _ _ _ rfl (HO.out.alloc _) ⟨wr.heap.size,0,none⟩ 1 1 [.slice A rest.length cc] rfl rfl ?c1 ?c2 ?c3 ?c4 ?c5 ?c6 (wr.heap.size+1) ?c7 ?_)
   case c1=>exact World.news_of_block (heap_alloc_new wr _)
   case c2=>intro u hu;simp only[List.mem_cons,List.mem_nil_iff,or_false]at hu;subst hu;rfl
   case c3=>omega
   case c4=>unfold maxLen;omega
   case c5=>omega
   case c6=>simp;omega
   case c7=>simp
   intro g2 cap2 w2 hown2 hgrow2 hat2 hlt2;have HLE2:Hid (Le w w2):=Hi (Below.grown' (HLE.out.alloc _) hgrow2 (NL _) (fun g hg=>(AK HO.out g hg).1));have HO2:Hid (w2.ownsRow w.heap.size 22 1 (.slice (some ⟨g2,0,none⟩) (done.length+1) cap2) (pcs c l).length (xs++[.slice A rest.length cc])):=Hi (by rw[HPC.out,HP.out,LA];exact hown2)
   have HBA2:Hid (Me w0 (xs++[.slice A rest.length cc]) (pcs c l)):=Hi (by rw[HPC.out,HP.out];exact HBA.out.snoc HX.out);clear hown2 hgrow2 hat2 hlt2;go_wp2;go_ret;exact⟨_,rfl,Sl.of_row HO2.out HBA2.out (by have:=PA c l;omega),HLE2.out⟩
end Go.Proofs.YtejhpdcjafbklaaGreatDoor
