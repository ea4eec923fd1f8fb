/- The law FnHeadWritten: SpW Grow. -/
import Derived.Orders
import Derived.StillTail
import Derived.Test.YtejhpdcjafbklaaGreatDoorPar
set_option linter.all false
set_option maxHeartbeats 2000000
set_option maxRecDepth 4000
namespace Go.Proofs.YtejhpdcjafbklaaGreatDoor
open Go.RowKit
theorem Cy{a b:Bool}(h:a=b):Ending.returned (.bool a)= .returned (.bool b):=by rw[h]
def nmB(c:Int):Bool:=decide (48≤c∧c≤57)
def hxB(c:Int):Bool:=decide ((48≤c∧c≤57)∨(97≤c∧c≤102)∨(65≤c∧c≤70))
theorem Ge(x:UInt8):nmB (x.toNat:Int)=GA x:=by
 rw[Bool.eq_iff_iff];simp only[nmB,GA,decide_eq_true_eq,Bool.or_eq_true,Bool.and_eq_true,UInt8.le_iff_toNat_le];have e1:(48:UInt8).toNat=48:=rfl;have e2:(57:UInt8).toNat=57:=rfl;omega
theorem EO(x:UInt8):hxB (x.toNat:Int)=JX x:=by
 rw[Bool.eq_iff_iff];simp only[hxB,JX,GA,decide_eq_true_eq,Bool.or_eq_true,Bool.and_eq_true,UInt8.le_iff_toNat_le];have e1:(48:UInt8).toNat=48:=rfl;have e2:(57:UInt8).toNat=57:=rfl;have e3:(97:UInt8).toNat=97:=rfl;have e4:(102:UInt8).toNat=102:=rfl;have e5:(65:UInt8).toNat=65:=rfl;have e6:(70:UInt8).toNat=70:=rfl;omega
theorem DB(c:Int)(w:World):Calls Tryz.prog 52 #[.int .u8 c] w fun e w'=>e= .returned (.bool (alB c))∧w=w':=by
 go_enter Tryz.func52,Tryz.ntmps52;go_wp2;all_goals (go_ret;refine⟨Cy (Bool.eq_iff_iff.2 ?_),rfl⟩;simp only[alB,Bool.or_eq_true,Bool.and_eq_true,decide_eq_true_eq,true_iff,true_or,or_true,Bool.false_eq_true,false_iff];omega)
theorem Cs(c:Int)(w:World):Calls Tryz.prog 80 #[.int .u8 c] w fun e w'=>e= .returned (.bool (nmB c))∧w=w':=by
 go_enter Tryz.func80,Tryz.ntmps80;go_wp2;all_goals (go_ret;refine⟨Cy (Bool.eq_iff_iff.2 ?_),rfl⟩;simp only[nmB,Bool.or_eq_true,Bool.and_eq_true,decide_eq_true_eq,true_iff,true_or,or_true,Bool.false_eq_true,false_iff];omega)
theorem JZ(c:Int)(w:World):Calls Tryz.prog 56 #[.int .u8 c] w fun e w'=>e= .returned (.bool (alB c||nmB c))∧w=w':=by
 by_cases h:alB c=true
 ·go_enter Tryz.func56,Tryz.ntmps56;go_wp2_with (first|(go_at_call 52;refine(DB _ _).mono ?_;rintro e w' ⟨rfl,rfl⟩)|(go_at_call 80;refine(Cs _ _).mono ?_;rintro e w' ⟨rfl,rfl⟩))
  all_goals (go_ret;refine⟨Cy ?_,rfl⟩;simp[h])
 ·have h2:alB c=false:=by simpa using h
  clear h;go_enter Tryz.func56,Tryz.ntmps56;go_wp2_with (first|(go_at_call 52;refine(DB _ _).mono ?_;rintro e w' ⟨rfl,rfl⟩)|(go_at_call 80;refine(Cs _ _).mono ?_;rintro e w' ⟨rfl,rfl⟩))
  all_goals (go_ret;refine⟨Cy ?_,rfl⟩;simp[h2])
theorem La(c:Int)(w:World):Calls Tryz.prog 100 #[.int .u8 c] w fun e w'=>e= .returned (.bool (hxB c))∧w=w':=by
 by_cases h:nmB c=true
 ·have hh:Hid (hxB c=true):=by simp only[hxB,nmB,decide_eq_true_eq]at h⊢;exact Hi (by omega)
  go_enter Tryz.func100,Tryz.ntmps100;go_wp2_with (go_at_call 80;refine(Cs _ _).mono ?_;rintro e w' ⟨rfl,rfl⟩)
  all_goals (go_ret;exact⟨by rw[hh.out];rfl,rfl⟩)
 ·have h2:nmB c=false:=by simpa using h
  have hh:Hid (hxB c=decide ((97≤c∧c≤102)∨(65≤c∧c≤70))):=Hi (by
   simp only[nmB,decide_eq_false_iff_not]at h2;rw[Bool.eq_iff_iff];simp only[hxB,decide_eq_true_eq];omega)
  clear h;go_enter Tryz.func100,Tryz.ntmps100;go_wp2_with (go_at_call 80;refine(Cs _ _).mono ?_;rintro e w' ⟨rfl,rfl⟩)
  all_goals (go_ret;refine⟨Cy ?_,rfl⟩;rw[hh.out];refine(Bool.eq_iff_iff.2 ?_);simp only[Bool.or_eq_true,Bool.and_eq_true,decide_eq_true_eq,true_iff,true_or,or_true,Bool.false_eq_true,false_iff];omega)
theorem Fo(c:UInt8)(w:World):Calls Tryz.prog 56 #[.int .u8 (c.toNat:Int)] w fun e w'=>e= .returned (.bool (Du c))∧w=w':=by
 unfold Du;rw[←Ge,←DP];exact JZ _ _
theorem Gl(x y:UInt8):((x.toNat:Int)==(y.toNat:Int))=decide (x=y):=by
 by_cases h:x=y
 ·subst h;simp
 ·have:¬(x.toNat:Int)=(y.toNat:Int):=fun e=>h (UInt8.toNat_inj.1 (by omega));rw[decide_eq_false h];simpa using this
theorem EW{x y:UInt8}(h:x≠y):((x.toNat:Int)==(y.toNat:Int))=false:=by rw[Gl];simpa using h
theorem EV{x y:UInt8}(h:x=y):((x.toNat:Int)==(y.toNat:Int))=true:=by rw[Gl];simpa using h
def Hf(l:Tx)(c:UInt8):Bool:=l.contains c
theorem Ix{l:Tx}{c:UInt8}{k:Nat}(h:k<l.length)(e:l[k]=c):l.contains c=true:=List.contains_iff_mem.2 (e▸List.getElem_mem h)
theorem Ha(c:UInt8)(s:ByteArray)(w:World)(hs:s.size≤1099511627776):Calls Tryz.prog 57 #[.int .u8 (c.toNat:Int),.string s] w fun e w'=>e= .returned (.bool (Hf (bs s) c))∧w=w':=by
 have HL:=Hi (BD s);go_enter Tryz.func57,Tryz.ntmps57;go_wp2
 go_loop [5] (fun i=>∃k:Nat,k≤s.size∧i= .int .i64 k∧((bs s).take k).contains c=false) (fun i=>s.size-(intOf i).toNat)
 case atStart=>exact⟨0,Nat.zero_le _,rfl,rfl⟩
 case round=>
  obtain⟨k,hk,rfl,hq⟩:=hrel;have HQ:=Hi hq;clear hq;by_cases hlt:k<s.size
  ·have hlt2:k<(bs s).length:=by rw[HL.out];exact hlt
   by_cases hx:(bs s)[k]=c
   ·have e1:((s[k].toNat:Int)==(c.toNat:Int))=true:=EV hx;have HX:Hid (Hf (bs s) c=true):=Hi (Ix hlt2 hx);clear hx;go_wp2;go_ret;exact⟨by rw[HX.out];rfl,rfl⟩
   ·have e1:((s[k].toNat:Int)==(c.toNat:Int))=false:=EW hx;have HX:Hid (((bs s).take (k+1)).contains c=false):=Hi (by
     rw[List.take_succ_eq_append_getElem hlt2,List.contains_eq_any_beq,List.any_append,←List.contains_eq_any_beq,HQ.out];simpa using fun e=>hx e.symm)
    clear hx;go_wp2
    go_round
    case rel=>exact⟨k+1,by omega,by go_num,HX.out⟩
    case measure=>simp[intOf];omega
  ·have HX:Hid (Hf (bs s) c=false):=Hi (by have:=HQ.out;rw[List.take_of_length_le (by rw[HL.out];omega)]at this;exact this);go_wp2;go_ret;exact⟨by rw[HX.out];rfl,rfl⟩
end Go.Proofs.YtejhpdcjafbklaaGreatDoor
namespace Go.Proofs.YtejhpdcjafbklaaGreatDoor
open Go.RowKit
theorem Rb.at_{w:World}{A:Option Addr}{l:Tx}(h:Rb w A l){k:Nat}(hk:k<l.length):∃b o,A=some ⟨b,o,none⟩∧w.cell? ⟨b,o+k,none⟩=some (.int .u8 (l[k].toNat:Int)):=by
 obtain⟨b,o,e,hc⟩:=h.2 (by omega);exact⟨b,o,e,hc k hk⟩
theorem RA{l:Tx}{c:UInt8}{k:Nat}(h:k<l.length)(e:l[k]=c)(hn:(l.take k).all (fun x=> !(x==c))=true):ixI l c=k:=by
 have h1:BC l c=k:=Eg (p:=(·==c)) h (by rw[e];exact beq_self_eq_true c) hn;unfold ixI;rw[h1,if_pos h]
theorem Q9{l:Tx}{c:UInt8}(hn:l.all (fun x=> !(x==c))=true):ixI l c= -1:=by
 have h1:BC l c=l.length:=EC (p:=(·==c)) hn;unfold ixI;rw[h1,if_neg (Nat.lt_irrefl _)]
theorem Qs{l:Tx}{c:UInt8}{k:Nat}(h:k<l.length)(e:l[k]=c)(hn:∀t (ht:t<l.length),k<t→l[t]≠c):lxI l c=k:=by
 have h1:l.reverse.findIdx (·==c)=l.length-1-k:=by
  rw[List.findIdx_eq (by rw[List.length_reverse];omega)];refine⟨?_,fun j hj=>?_⟩
  ·rw[List.getElem_reverse];have e2:l.length-1-(l.length-1-k)=k:=by omega
   have:l[l.length-1-(l.length-1-k)]'(by omega)=l[k]:=by congr 1
   rw[this,e];exact beq_self_eq_true c
  ·rw[List.getElem_reverse];simpa using hn (l.length-1-j) (by omega) (by omega)
 unfold lxI;rw[h1,if_pos (by omega)]
 congr 1
 omega
theorem Qq{l:Tx}{c:UInt8}(hn:∀t (ht:t<l.length),l[t]≠c):lxI l c= -1:=by
 have h1:l.reverse.findIdx (·==c)=l.reverse.length:=by
  rw[List.findIdx_eq_length];intro x hx;obtain⟨t,ht,e⟩:=List.getElem_of_mem (List.mem_reverse.1 hx);subst e;simpa using hn t ht
 unfold lxI;rw[h1,if_neg (by rw[List.length_reverse];omega)]
theorem Br(v:Value)(l:Tx)(c:UInt8)(w:World)(hv:Bv w v l):Calls Tryz.prog 51 #[v,.int .u8 (c.toNat:Int)] w fun e w'=>e= .returned (.int .i64 (ixI l c))∧w=w':=by
 obtain⟨A,cc,rfl,h1,h2,h4⟩:=hv;have h3:=h4.1;have HR:=Hi h4;clear h4;go_enter Tryz.func51,Tryz.ntmps51;go_wp2
 go_loop [5] (fun i=>∃k:Nat,k≤l.length∧i= .int .i64 k∧(l.take k).all (fun x=> !(x==c))=true) (fun i=>l.length-(intOf i).toNat)
 case atStart=>exact⟨0,Nat.zero_le _,rfl,rfl⟩
 case round=>
  obtain⟨k,hk,rfl,hq⟩:=hrel;have HQ:=Hi hq;clear hq;by_cases hlt:k<l.length
  ·obtain⟨b,o,rfl,d1⟩:=HR.out.at_ hlt;by_cases hx:l[k]=c
   ·have e1:((l[k].toNat:Int)==(c.toNat:Int))=true:=EV hx;have HX:Hid (ixI l c=k):=Hi (RA hlt hx HQ.out);clear hx;generalize(l[k].toNat:Int)=x at d1 e1;go_wp2;go_ret;exact⟨by rw[HX.out];rfl,rfl⟩
   ·have e1:((l[k].toNat:Int)==(c.toNat:Int))=false:=EW hx
    have HX:Hid ((l.take (k+1)).all (fun x=> !(x==c))=true):=Hi (by
     rw[List.take_succ_eq_append_getElem hlt,List.all_append,HQ.out];simpa using hx)
    clear hx;generalize(l[k].toNat:Int)=x at d1 e1;go_wp2
    go_round
    case rel=>exact⟨k+1,by omega,by go_num,HX.out⟩
    case measure=>simp[intOf];omega
  ·have HX:Hid (ixI l c= -1):=Hi (Q9 (by have:=HQ.out;rw[List.take_of_length_le (by omega)]at this;exact this));go_wp2;go_ret;exact⟨by rw[HX.out];rfl,rfl⟩
theorem NA(v:Value)(l:Tx)(c:UInt8)(w:World)(hv:Bv w v l):Calls Tryz.prog 75 #[v,.int .u8 (c.toNat:Int)] w fun e w'=>e= .returned (.int .i64 (lxI l c))∧w=w':=by
 obtain⟨A,cc,rfl,h1,h2,h4⟩:=hv;have h3:=h4.1;have HR:=Hi h4;clear h4;go_enter Tryz.func75,Tryz.ntmps75;go_wp2
 go_loop [5] (fun i=>∃x:Int,-1≤x∧x<l.length∧i= .int .i64 x∧Hid (∀t (ht:t<l.length),x<t→l[t]≠c)) (fun i=>(intOf i+1).toNat)
 case atStart=>exact⟨(l.length:Int)-1,by omega,by omega,rfl,Hi fun t ht h=>by omega⟩
 case round=>
  obtain⟨x,hx1,hx2,rfl,HQ⟩:=hrel;by_cases hlt:0≤x
  ·obtain⟨k,rfl⟩:∃k:Nat,x=k:=⟨x.toNat,by omega⟩;have hlt2:k<l.length:=by omega
   obtain⟨b,o,rfl,d1⟩:=HR.out.at_ hlt2;by_cases hx:l[k]=c
   ·have e1:((l[k].toNat:Int)==(c.toNat:Int))=true:=EV hx;have HX:Hid (lxI l c=k):=Hi (Qs hlt2 hx fun t ht h=>HQ.out t ht (by omega));clear hx;generalize(l[k].toNat:Int)=x at d1 e1;go_wp2;go_ret;exact⟨by rw[HX.out];rfl,rfl⟩
   ·have e1:((l[k].toNat:Int)==(c.toNat:Int))=false:=EW hx
    have HX:Hid (∀t (ht:t<l.length),(k:Int)-1<t→l[t]≠c):=Hi fun t ht h=>by
     rcases Nat.lt_or_ge k t with h'|h'
     ·exact HQ.out t ht (by omega)
     ·obtain rfl:t=k:=by omega
      exact hx
    clear hx;generalize(l[k].toNat:Int)=x at d1 e1;go_wp2
    go_round
    case rel=>exact⟨(k:Int)-1,by omega,by omega,by go_num,HX⟩
    case measure=>simp[intOf]
  ·have HX:Hid (lxI l c= -1):=Hi (Qq fun t ht=>HQ.out t ht (by omega));go_wp2;go_ret;exact⟨by rw[HX.out];rfl,rfl⟩
theorem FL(u v:Value)(a b:Tx)(w:World)(hu:Bv w u a)(hv:Bv w v b):Calls Tryz.prog 37 #[u,v] w fun e w'=>e= .returned (.bool (decide (a=b)))∧w=w':=by
 have q1:=BT (P:=Tryz.prog) Tryz.underlying22 Tryz.underlying5 Tryz.underlying9 hu;have q2:=BT (P:=Tryz.prog) Tryz.underlying22 Tryz.underlying5 Tryz.underlying9 hv;have HB:=Hi (ID a b);clear hu hv;go_enter Tryz.func37,Tryz.ntmps37;go_wp2;go_ret;exact⟨Cy HB.out,rfl⟩
theorem LG(signs:Tx)(c:UInt8)(r:Tx):Ce signs (c::r)=if c=37 then(match r with|a::b::r'=>JX a&&JX b&&Ce signs r'|_=>false)else(Du c||signs.contains c)&&Ce signs r:=by
 rw[Ce.eq_def];rfl
theorem PF{signs l:Tx}{k:Nat}(h:k<l.length):Ce signs (l.drop k)=if l[k]=37 then(if h2:k+2<l.length then(JX l[k+1]&&JX l[k+2]&&Ce signs (l.drop (k+3)))else false)else((Du l[k]||Hf signs l[k])&&Ce signs (l.drop (k+1))):=by
 rw[List.drop_eq_getElem_cons h,LG];by_cases e:l[k]=37
 ·rw[if_pos e,if_pos e];by_cases h2:k+2<l.length
  ·rw[dif_pos h2,List.drop_eq_getElem_cons (by omega:k+1<l.length),List.drop_eq_getElem_cons h2]
  ·rw[dif_neg h2];have hl:(l.drop (k+1)).length≤1:=by rw[List.length_drop];omega
   generalize l.drop (k+1)=r at hl
   match r,hl with
   |[],_=>rfl
   |[_],_=>rfl
   |_::_::_,hl=>simp at hl
 ·rw[if_neg e,if_neg e];rfl
theorem AW{f:FuncId}{args:Array Value}{w:World}{b c:Bool}(h:Calls Tryz.prog f args w fun e w'=>e= .returned (.bool b)∧w=w')(e:b=c):Calls Tryz.prog f args w fun e w'=>e= .returned (.bool c)∧w=w':=e▸h
theorem EM(v:Value)(l:Tx)(s:ByteArray)(w:World)(hv:Bv w v l)(hs:s.size≤1099511627776):Calls Tryz.prog 76 #[v,.string s] w fun e w'=>e= .returned (.bool (Ce (bs s) l))∧w=w':=by
 obtain⟨A,cc,rfl,h1,h2,h4⟩:=hv;have h3:=h4.1;have HR:=Hi h4;clear h4;go_enter Tryz.func76,Tryz.ntmps76;go_wp2
 go_loop [5] (fun i=>∃k:Nat,k≤l.length∧i= .int .i64 k∧Ce (bs s) (l.drop k)=Ce (bs s) l) (fun i=>l.length-(intOf i).toNat)
 case atStart=>exact⟨0,Nat.zero_le _,rfl,rfl⟩
 case round=>
  obtain⟨k,hk,rfl,hq⟩:=hrel;have HQ:=Hi hq;clear hq;by_cases hlt:k<l.length
  ·obtain⟨b,o,rfl,d1⟩:=HR.out.at_ hlt;have HK:=Hi (PF (signs:=bs s) hlt);by_cases hx:l[k]=37
   ·have e1:((l[k].toNat:Int)==37)=true:=EV (y:=37) hx;have HX:=Hi hx;clear hx;generalize(l[k].toNat:Int)=x at d1 e1;by_cases hlt2:k+2<l.length
    ·have hlt2':(k:Int)+2<l.length:=by omega
     obtain⟨b',o',e',d2⟩:=HR.out.at_ (k:=k+1) (by omega);obtain⟨rfl,rfl⟩:b=b'∧o=o':=by injection e' with e';injection e' with e1 e2;exact⟨e1,e2⟩
     clear e';obtain⟨b',o',e',d3⟩:=HR.out.at_ (k:=k+2) (by omega);obtain⟨rfl,rfl⟩:b=b'∧o=o':=by injection e' with e';injection e' with e1 e2;exact⟨e1,e2⟩
     clear e';by_cases hx1:JX (l[k+1]'(by omega))=true
     ·by_cases hx2:JX (l[k+2]'(by omega))=true
      ·have HE:Hid (Ce (bs s) (l.drop (k+3))=Ce (bs s) l):=Hi (by
        have:=HK.out;rw[if_pos HX.out,dif_pos hlt2,hx1,hx2,HQ.out]at this;simpa using this.symm)
       have c1':hxB ((l[k+1]'(by omega)).toNat:Int)=true:=(EO _).trans hx1;have c2':hxB ((l[k+2]'(by omega)).toNat:Int)=true:=(EO _).trans hx2;clear hx1 hx2;generalize((l[k+1]'(by omega)).toNat:Int)=y at d2 c1';generalize((l[k+2]'(by omega)).toNat:Int)=z at d3 c2';go_wp2_with (go_at_call 100;refine(La _ _).mono ?_;rintro e w' ⟨rfl,rfl⟩)
       go_round
       case rel=>exact⟨k+3,by omega,by go_num,HE.out⟩
       case measure=>simp[intOf];omega
      ·have hx2':JX (l[k+2]'(by omega))=false:=by simpa using hx2
       have HE:Hid (Ce (bs s) l=false):=Hi (by
        have:=HK.out;rw[if_pos HX.out,dif_pos hlt2,hx1,hx2',HQ.out]at this;simpa using this)
       have c1':hxB ((l[k+1]'(by omega)).toNat:Int)=true:=(EO _).trans hx1;have c2':hxB ((l[k+2]'(by omega)).toNat:Int)=false:=(EO _).trans hx2';clear hx1 hx2 hx2';generalize((l[k+1]'(by omega)).toNat:Int)=y at d2 c1';generalize((l[k+2]'(by omega)).toNat:Int)=z at d3 c2';go_wp2_with (go_at_call 100;refine(La _ _).mono ?_;rintro e w' ⟨rfl,rfl⟩)
       go_ret;exact⟨by rw[HE.out];rfl,rfl⟩
     ·have hx1':JX (l[k+1]'(by omega))=false:=by simpa using hx1
      have HE:Hid (Ce (bs s) l=false):=Hi (by
       have:=HK.out;rw[if_pos HX.out,dif_pos hlt2,hx1',HQ.out]at this;simpa using this)
      have c1':hxB ((l[k+1]'(by omega)).toNat:Int)=false:=(EO _).trans hx1';clear hx1 hx1';generalize((l[k+1]'(by omega)).toNat:Int)=y at d2 c1';go_wp2_with (go_at_call 100;refine(La _ _).mono ?_;rintro e w' ⟨rfl,rfl⟩)
      go_ret;exact⟨by rw[HE.out];rfl,rfl⟩
    ·have hlt2':(l.length:Int)≤(k:Int)+2:=by omega
     have HE:Hid (Ce (bs s) l=false):=Hi (by
      have:=HK.out;rw[if_pos HX.out,dif_neg hlt2,HQ.out]at this;exact this)
     go_wp2;go_ret;exact⟨by rw[HE.out];rfl,rfl⟩
   ·have e1:((l[k].toNat:Int)==37)=false:=EW (y:=37) hx;have c1:=Fo l[k] w;have c2:=Ha l[k] s w hs;by_cases ha:Du l[k]=true
    ·have HE:Hid (Ce (bs s) (l.drop (k+1))=Ce (bs s) l):=Hi (by
      have:=HK.out;rw[if_neg hx,ha,HQ.out]at this;simpa using this.symm)
     have c1':=Hi (AW c1 ha);clear c1 c2 ha hx;generalize(l[k].toNat:Int)=x at d1 e1 c1';go_wp2_with (go_at_call 56;refine c1'.out.mono ?_;rintro e w' ⟨rfl,rfl⟩)
     go_round
     case rel=>exact⟨k+1,by omega,by go_num,HE.out⟩
     case measure=>simp[intOf];omega
    ·have ha':Du l[k]=false:=by simpa using ha
     have c1':=Hi (AW c1 ha');by_cases hi:Hf (bs s) l[k]=true
     ·have HE:Hid (Ce (bs s) (l.drop (k+1))=Ce (bs s) l):=Hi (by
       have:=HK.out;rw[if_neg hx,ha',hi,HQ.out]at this;simpa using this.symm)
      have c2':=Hi (AW c2 hi);clear c1 c2 ha hx ha' hi;generalize(l[k].toNat:Int)=x at d1 e1 c1' c2';go_wp2_with (first|(go_at_call 56;refine c1'.out.mono ?_;rintro e w' ⟨rfl,rfl⟩)|(go_at_call 57;refine c2'.out.mono ?_;rintro e w' ⟨rfl,rfl⟩))
      go_round
      case rel=>exact⟨k+1,by omega,by go_num,HE.out⟩
      case measure=>simp[intOf];omega
     ·have hi':Hf (bs s) l[k]=false:=by simpa using hi
      have HE:Hid (Ce (bs s) l=false):=Hi (by
       have:=HK.out;rw[if_neg hx,ha',hi',HQ.out]at this;simpa using this)
      have c2':=Hi (AW c2 hi');clear c1 c2 ha hx ha' hi hi';generalize(l[k].toNat:Int)=x at d1 e1 c1' c2';go_wp2_with (first|(go_at_call 56;refine c1'.out.mono ?_;rintro e w' ⟨rfl,rfl⟩)|(go_at_call 57;refine c2'.out.mono ?_;rintro e w' ⟨rfl,rfl⟩))
      go_ret;exact⟨by rw[HE.out];rfl,rfl⟩
  ·have HE:Hid (Ce (bs s) l=true):=Hi (by have:=HQ.out;rw[List.drop_eq_nil_of_le (by omega)]at this;exact this.symm);go_wp2;go_ret;exact⟨by rw[HE.out];rfl,rfl⟩
end Go.Proofs.YtejhpdcjafbklaaGreatDoor
namespace Go.Proofs.YtejhpdcjafbklaaGreatDoor
open Go.RowKit
section
variable {P:Program} {ops:Array Oper} {md:Region.Mode} {Q:Exit→Act→World→Prop}
def EI(o:Oper)(a:Act):Value:=match o.dst with|some t=>a.eval (.tmp t)|none=>undef
def Kk:Operand→Option Nat
 | .tmp t=>some t
 |_=>none
def depsB(md:Region.Mode)(ops:Array Oper):Bool:=
 ops.all fun o=>(o.op.operands.toList.filterMap Kk).all fun t=>
  (List.range ops.size).all fun j=>((ops[j]?).bind (·.dst)) != some t||o.after.any fun e=>e.on==j&&Region.binds md e
def apartB(ops:Array Oper)(n:Nat):Bool:=
 ((List.range ops.size).all fun i=>(List.range ops.size).all fun j=>i==j||
  match ops[i]?,ops[j]? with
  |some x,some y=>x.dst==none||x.dst != y.dst
  |_,_=>true)&&
 ops.all (fun o=>match o.dst with|some t=>decide (t<n)|none=>true)&&ops.all (fun o=>o.guard==none)&&
 ops.all fun o=>(o.op.operands.toList.filterMap Kk).all fun t=>decide (t<n)
def SAt(S:Nat→Value→World→Prop)(Z:Nat→World→Prop)(i:Nat)(d:Option Tmp)(v:Value)(w:World):Prop:=match d with|some t=>S t v w|none=>Z i w
structure BE(ops:Array Oper)(S:Nat→Value→World→Prop)(Z:Nat→World→Prop)(G:World→Prop)(n:Nat)(a0:Act)(listed:Array Bool)(a:Act)(w:World):Prop where
 g:G w
 d:a.defers=[]
 sz:a.tmps.size=n
 old:∀t,t<n→(∀(i:Nat) (o:Oper),ops[i]? =some o→o.dst≠some t)→S t (a.eval (.tmp t)) w
 un:∀t,(∀(i:Nat) (o:Oper),ops[i]? =some o→listed.getD i false=true→o.dst≠some t)→a.eval (.tmp t)=a0.eval (.tmp t)
 new:∀(i:Nat) (o:Oper),ops[i]? =some o→listed.getD i false=true→SAt S Z i o.dst (EI o a) w
theorem depsB_spec(h:depsB md ops=true){i:Nat}{o:Oper}(ho:ops[i]? =some o){t:Nat}(ht:Operand.tmp t∈o.op.operands){j:Nat}{oj:Oper}(hj:ops[j]? =some oj)(hd:oj.dst=some t):
 ∃e∈o.after,e.on=j∧Region.binds md e=true:=by
 unfold depsB at h;have h1:=(Array.all_eq_true_iff_forall_mem.1 h) o (by obtain⟨hlt,e⟩:=Array.getElem?_eq_some_iff.1 ho;rw[←e];exact Array.getElem_mem hlt);have h2:=List.all_eq_true.1 h1 t (List.mem_filterMap.2 ⟨.tmp t,by simpa using ht,rfl⟩);have h3:=List.all_eq_true.1 h2 j (List.mem_range.2 (Array.getElem?_eq_some_iff.1 hj).1)
 simp only[hj,Option.bind_some,hd,bne_self_eq_false,Bool.false_or,Array.any_eq_true']at h3;obtain⟨e,he,h4⟩:=h3;simp only[Bool.and_eq_true,beq_iff_eq]at h4;exact⟨e,he,h4.1,h4.2⟩
theorem apartB_ne{n:Nat}(h:apartB ops n=true){i j:Nat}{x y:Oper}(hx:ops[i]? =some x)(hy:ops[j]? =some y)(hne:i≠j):x.dst=none∨x.dst≠y.dst:=by
 unfold apartB at h;simp only[Bool.and_eq_true]at h;have h1:=List.all_eq_true.1 h.1.1.1 i (List.mem_range.2 (Array.getElem?_eq_some_iff.1 hx).1);have h2:=List.all_eq_true.1 h1 j (List.mem_range.2 (Array.getElem?_eq_some_iff.1 hy).1);simp only[hx,hy,Bool.or_eq_true,beq_iff_eq,bne_iff_ne]at h2;rcases h2 with h2|h2
 ·exact(hne h2).elim
 ·exact h2
theorem EX{n:Nat}(h:apartB ops n=true){i:Nat}{x:Oper}(hx:ops[i]? =some x){t:Nat}(ht:x.dst=some t):t<n:=by
 unfold apartB at h;simp only[Bool.and_eq_true]at h;have h1:=(Array.all_eq_true_iff_forall_mem.1 h.1.1.2) x (by obtain⟨hlt,e⟩:=Array.getElem?_eq_some_iff.1 hx;rw[←e];exact Array.getElem_mem hlt);simp only[ht,decide_eq_true_eq]at h1;exact h1
theorem Ht{n:Nat}(h:apartB ops n=true){i:Nat}{x:Oper}(hx:ops[i]? =some x):x.guard=none:=by
 unfold apartB at h;simp only[Bool.and_eq_true]at h;have h1:=(Array.all_eq_true_iff_forall_mem.1 h.1.2) x (by obtain⟨hlt,e⟩:=Array.getElem?_eq_some_iff.1 hx;rw[←e];exact Array.getElem_mem hlt);cases hg:x.guard with
 |none=>rfl
 |some g=>rw[hg]at h1;simp at h1
theorem F2{n:Nat}(h:apartB ops n=true){i:Nat}{x:Oper}(hx:ops[i]? =some x){t:Nat}(ht:Operand.tmp t∈x.op.operands):t<n:=by
 unfold apartB at h;simp only[Bool.and_eq_true]at h;have h1:=(Array.all_eq_true_iff_forall_mem.1 h.2) x (by obtain⟨hlt,e⟩:=Array.getElem?_eq_some_iff.1 hx;rw[←e];exact Array.getElem_mem hlt);have h2:=List.all_eq_true.1 h1 t (List.mem_filterMap.2 ⟨.tmp t,by simpa using ht,rfl⟩);exact of_decide_eq_true h2
def GrowStep(P:Program)(S:Nat→Value→World→Prop)(Z:Nat→World→Prop)(G:World→Prop)(Q:Exit→Act→World→Prop)(i:Nat)(o:Oper):Prop:=
 ∀a w,G w→(∀t,Operand.tmp t∈o.op.operands→S t (a.eval (.tmp t)) w)→
  o.wp P a w (fun a' w'=>∃v,a'=a.put o.dst v∧G w'∧(∀t u,o.dst≠some t→S t u w→S t u w')∧(∀j,j≠i→Z j w→Z j w')∧SAt S Z i o.dst v w') Q
theorem AR{a:Act}{t:Nat}(v:Value)(h:t<a.tmps.size):(a.put (some t) v).eval (.tmp t)=v:=by simp[Act.put,Act.eval,h]
theorem AE{a:Act}{d:Option Nat}{t:Nat}(v:Value)(h:d≠some t):(a.put d v).eval (.tmp t)=a.eval (.tmp t):=
 Act.eval_put (fun d' hd e=>h (by rw[hd];injection e with e;rw[e]))
theorem DJ(a:Act)(d:Option Nat)(v:Value):(a.put d v).tmps.size=a.tmps.size:=by cases d<;>simp[Act.put]
theorem Co(a:Act)(d:Option Nat)(v:Value):(a.put d v).defers=a.defers:=by cases d<;>rfl
theorem Bs{S:Nat→Value→World→Prop}{Z:Nat→World→Prop}{G:World→Prop}{n i:Nat}(hd:depsB md ops=true)(ha:apartB ops n=true){o:Oper}(ho:ops[i]? =some o)(hs:GrowStep P S Z G Q i o)
 {listed:Array Bool}{a0 a:Act}{w:World}(h:BE ops S Z G n a0 listed a w)(hr:i∈Region.ready md ops listed):wpOp P ops Q i (BE ops S Z G n a0 (listed.setIfInBounds i true)) a w:=by
 obtain⟨hun,o',ho',hall⟩:=mem_ready.1 hr;obtain rfl:o'=o:=Option.some.inj (ho'.symm.trans ho);have hw:Region.wanted o' (yielded ops a.tmps)=true:=by unfold Region.wanted;rw[Ht ha ho]
 unfold wpOp;simp only[ho,hw,if_true];left;refine Oper.wp_mono ?_ (hs a w h.g fun t ht=>?_)
 ·rintro a' w' ⟨v,rfl,hg,hS,hZ,hv⟩;refine⟨hg,(Co _ _ _).trans h.d,(DJ _ _ _).trans h.sz,fun t ht hno=>?_,fun t hno=>?_,fun j oj hj hl=>?_⟩
  ·have hne:o'.dst≠some t:=hno i o' ho;rw[AE v hne];exact hS t _ hne (h.old t ht hno)
  ·have hilt:i<listed.size:=by
    rcases Nat.lt_or_ge i listed.size with h'|h'
    ·exact h'
    ·rw[Array.getD_eq_getD_getElem?,Array.getElem?_eq_none h']at hun;simp at hun
   have hne:o'.dst≠some t:=hno i o' ho (by rw[Array.getD_eq_getD_getElem?,Array.getElem?_setIfInBounds_self_of_lt hilt];rfl);rw[AE v hne];refine h.un t fun j oj hj hl=>hno j oj hj ?_;by_cases hij:i=j
   ·subst hij;rw[Array.getD_eq_getD_getElem?,Array.getElem?_setIfInBounds_self_of_lt hilt];rfl
   ·rw[getD_set_ne false hij];exact hl
  ·by_cases hij:i=j
   ·subst hij;obtain rfl:oj=o':=Option.some.inj (hj.symm.trans ho);unfold EI;cases hdd:oj.dst with
    |none=>rw[hdd]at hv;exact hv
    |some t=>
     dsimp only;rw[AR v (by rw[h.sz];exact EX ha ho hdd)];rw[hdd]at hv;exact hv
   ·have hl':listed.getD j false=true:=by rw[getD_set_ne false hij]at hl;exact hl
    have hne:=apartB_ne ha ho hj hij;have hold:=h.new j oj hj hl';cases hdj:oj.dst with
    |none=>
     rw[hdj]at hold;exact hZ j (fun e=>hij e.symm) hold
    |some t=>
     rw[hdj]at hold hne;unfold EI at hold⊢;rw[hdj]at hold⊢;have hnt:o'.dst≠some t:=by rcases hne with h|h;(rw[h];simp);exact h
     dsimp only;rw[AE v hnt];exact hS t _ hnt hold
 ·by_cases hw2:∃(j:Nat) (oj:Oper),ops[j]? =some oj∧oj.dst=some t
  ·obtain⟨j,oj,hj,hdj⟩:=hw2;obtain⟨e,he,heon,hb⟩:=depsB_spec hd ho ht hj hdj;have hlj:=hall e he hb;rw[heon]at hlj;have hnew:=h.new j oj hj hlj;unfold EI at hnew;rw[hdj]at hnew;exact hnew
  ·exact h.old t (F2 ha ho ht) fun j oj hj hdj=>hw2 ⟨j,oj,hj,hdj⟩
def DR(md:Region.Mode)(ops:Array Oper):Bool:=
 (List.range ops.size).all fun i=>match ops[i]? with
  |some o=>o.after.all fun e=> !Region.binds md e||decide (e.on<i)
  |none=>true
theorem CE(h:DR md ops=true){listed:Array Bool}(hz:listed.size=ops.size)(hr:Region.ready md ops listed=[]):∀i,i<ops.size→listed.getD i false=true:=by
 intro i;induction i using Nat.strongRecOn with
 |_ i ih=>
  intro hi;cases hl:listed.getD i false with
  |true=>rfl
  |false=>
   exfalso;have hin:i∈Region.ready md ops listed:=by
    refine mem_ready.2 ⟨getD_in (by omega) hl,ops[i],Array.getElem?_eq_getElem hi,fun e he hb=>?_⟩;have h1:=List.all_eq_true.1 h i (List.mem_range.2 hi);rw[Array.getElem?_eq_getElem hi]at h1;have h2:=(Array.all_eq_true_iff_forall_mem.1 h1) e he;simp only[hb,Bool.not_true,Bool.false_or,decide_eq_true_eq]at h2;exact ih e.on h2 (by omega)
   rw[hr]at hin;cases hin
theorem Ca{S:Nat→Value→World→Prop}{Z:Nat→World→Prop}{G:World→Prop}{n:Nat}{a0:Act}(hd:depsB md ops=true)(ha:apartB ops n=true)(hs:∀(i:Nat) (o:Oper),ops[i]? =some o→GrowStep P S Z G Q i o)
 (hdone:∀listed a w,listed.size=ops.size→BE ops S Z G n a0 listed a w→Region.ready md ops listed=[]→Q .normal a w):
 ∀(f:Nat) (listed:Array Bool) (a:Act) (w:World),listed.size=ops.size→listed.toList.count false≤f→BE ops S Z G n a0 listed a w→wpAny P md ops Q f listed a w:=by
 intro f;induction f with
 |zero=>
  intro listed a w hz hc h;have hr:Region.ready md ops listed=[]:=by
   apply List.eq_nil_iff_forall_not_mem.2;intro i hi;obtain⟨hun,o,ho,_⟩:=mem_ready.1 hi;have hlt:i<listed.size:=by rw[hz];exact(Array.getElem?_eq_some_iff.1 ho).1
   have hm:false∈listed.toList:=by
    rw[Array.getD_eq_getD_getElem?,Array.getElem?_eq_getElem hlt]at hun;simp only[Option.getD_some]at hun;rw[←hun];exact Array.getElem_mem_toList hlt
   have:=List.count_pos_iff.2 hm;omega
  exact⟨hr,hdone _ _ _ hz h hr⟩
 |succ f ih=>
  intro listed a w hz hc h;refine⟨fun hr=>hdone _ _ _ hz h hr,fun i hi=>?_⟩;obtain⟨hun,o,ho,_⟩:=mem_ready.1 hi;have hlt:i<listed.size:=by rw[hz];exact(Array.getElem?_eq_some_iff.1 ho).1
  have hm:listed[i]=false:=by
   rw[Array.getD_eq_getD_getElem?,Array.getElem?_eq_getElem hlt]at hun;simpa using hun
  refine wpOp_mono (fun a' w' h'=>ih _ a' w' (by simpa using hz) ?_ h') (Bs hd ha ho (hs i o ho) h hi);rw[Array.setIfInBounds_def,dif_pos hlt,Array.toList_set,List.count_set (by simpa using hlt)];have hpos:0<listed.toList.count false:=List.count_pos_iff.2 (by rw[←hm];exact Array.getElem_mem_toList hlt);simp only[Array.getElem_toList,hm];simpa using hc
def BX(P:Program)(S:Nat→Value→World→Prop)(Z:Nat→World→Prop)(G:World→Prop)(Q:Exit→Act→World→Prop):Nat→List Oper→Prop
 |_,[]=>True
 |k,o::r=>GrowStep P S Z G Q k o∧BX P S Z G Q (k+1) r
theorem BX.at{S:Nat→Value→World→Prop}{Z:Nat→World→Prop}{G:World→Prop}:∀{l:List Oper} {k:Nat},BX P S Z G Q k l→∀(i:Nat) (o:Oper),l[i]? =some o→GrowStep P S Z G Q (k+i) o
 |[],_,_,i,o,h=>by simp at h
 |x::r,k,⟨h1,h2⟩,0,o,h=>by simp at h;subst h;exact h1
 |x::r,k,⟨h1,h2⟩,i+1,o,h=>by
  have:=BX.at h2 i o (by simpa using h);rw[show k+(i+1)=k+1+i from by omega];exact this
theorem Bk{id:Nat}{l:List Oper}{a:Act}{w:World}(S:Nat→Value→World→Prop)(Z:Nat→World→Prop)(G:World→Prop)(n:Nat)
 (hm:P.follows .mixedOrders=true)(hB:(depsB .any l.toArray&&apartB l.toArray n&&DR .any l.toArray)=true)
 (hn:a.tmps.size=n)(hdef:a.defers=[])(hG:G w.drew)(keep:List Nat)(hkB:((List.range n).all fun t=>keep.contains t||l.any fun o=>o.dst==some t)=true)(hold:∀t∈keep,S t (a.eval (.tmp t)) w.drew)
 (hs:BX P S Z G Q 0 l)
 (hend:∀a' w',G w'→a'.defers=[]→a'.tmps.size=n→(∀t,t<n→S t (a'.eval (.tmp t)) w')→(∀(i:Nat) (o:Oper),l[i]? =some o→o.dst=none→Z i w')→Q .normal a' w'):
 (Code.region id l.toArray true).wp P Q a w:=by
 simp only[Bool.and_eq_true]at hB;obtain⟨⟨hd,ha⟩,hah⟩:=hB;refine wp_region_any hm ?_;refine Ca hd ha (fun i o ho=>by have:=hs.at i o (by simpa using ho);simpa using this) ?_ l.toArray.size _ a _ (by simp) ?_ ?_ (S:=S) (Z:=Z) (G:=G) (n:=n) (a0:=a)
 ·intro listed a' w' hz h hr;have hall:=CE hah hz hr;refine hend a' w' h.g h.d h.sz (fun t ht=>?_) (fun i o ho hdn=>?_)
  ·by_cases hw:∃(i:Nat) (o:Oper),l.toArray[i]? =some o∧o.dst=some t
   ·obtain⟨i,o,ho,hdt⟩:=hw;have:=h.new i o ho (hall i (Array.getElem?_eq_some_iff.1 ho).1);unfold EI at this;rw[hdt]at this;exact this
   ·exact h.old t ht fun i o ho hdt=>hw ⟨i,o,ho,hdt⟩
  ·have ho':l.toArray[i]? =some o:=by simpa using ho
   have:=h.new i o ho' (hall i (Array.getElem?_eq_some_iff.1 ho').1);unfold EI at this;rw[hdn]at this;exact this
 ·simp
 ·refine⟨hG,hdef,hn,fun t ht hno=>?_,fun t _=>rfl,fun i o ho hl=>?_⟩
  ·have h1:=List.all_eq_true.1 hkB t (List.mem_range.2 ht);simp only[Bool.or_eq_true,List.any_eq_true]at h1;rcases h1 with h|⟨o,ho,hdt⟩
   ·exact hold t (by simpa using h)
   ·obtain⟨i,hi,e⟩:=List.getElem_of_mem ho;exact absurd (by simpa using hdt) (hno i o (by simp[List.getElem?_eq_getElem hi,e]))
  ·rw[getD_replicate_false]at hl;cases hl
theorem AA{S:Nat→Value→World→Prop}{Z:Nat→World→Prop}{G:World→Prop}{i:Nat}{o:Oper}
 (h:∀(a:Act) (w:World),G w→(∀t,Operand.tmp t∈o.op.operands→S t (a.eval (.tmp t)) w)→∃v,(execOp a.eval o).run P w= .ok (.value v) w∧SAt S Z i o.dst v w):GrowStep P S Z G Q i o:=by
 intro a w hg hop;obtain⟨v,hr,hv⟩:=h a w hg hop;unfold Oper.wp;rw[hr];exact⟨v,rfl,hg,fun _ _ _ hs=>hs,fun _ _ hz=>hz,hv⟩
theorem GrowStep.le{S:Nat→Value→World→Prop}{Z:Nat→World→Prop}{G:World→Prop}{i:Nat}{o:Oper}(hS:∀t u w w',Le w w'→S t u w→S t u w')(hZ:∀j w w',Le w w'→Z j w→Z j w')(hGl:∀w w',Le w w'→G w→G w')
 (h:∀(a:Act) (w:World),G w→(∀t,Operand.tmp t∈o.op.operands→S t (a.eval (.tmp t)) w)→∃v w',(execOp a.eval o).run P w= .ok (.value v) w'∧Le w w'∧SAt S Z i o.dst v w'):GrowStep P S Z G Q i o:=by
 intro a w hg hop;obtain⟨v,w',hr,hle,hv⟩:=h a w hg hop;unfold Oper.wp;rw[hr];exact⟨v,rfl,hGl _ _ hle hg,fun _ _ _ hs=>hS _ _ _ _ hle hs,fun _ _ hz=>hZ _ _ _ hle hz,hv⟩
theorem AG{S:Nat→Value→World→Prop}{Z:Nat→World→Prop}{G:World→Prop}{i:Nat}{o:Oper}(hS:∀t u w w',Le w w'→S t u w→S t u w')(hZ:∀j w w',Le w w'→Z j w→Z j w')(hGl:∀w w',Le w w'→G w→G w')
 (h:∀(a:Act) (w:World),G w→(∀t,Operand.tmp t∈o.op.operands→S t (a.eval (.tmp t)) w)→∃f args,(execOp a.eval o).run P w= .ok (.enter f args) w∧
  Calls P f args w fun e w'=>∃v,e= .returned v∧Le w w'∧SAt S Z i o.dst v w'):GrowStep P S Z G Q i o:=by
 intro a w hg hop;obtain⟨f,args,hr,hc⟩:=h a w hg hop;unfold Oper.wp;rw[hr,Oper.upon_enter];refine hc.mono ?_;rintro e w' ⟨v,rfl,hle,hv⟩;exact⟨v,rfl,hGl _ _ hle hg,fun _ _ _ hs=>hS _ _ _ _ hle hs,fun _ _ hz=>hZ _ _ _ hle hz,hv⟩
theorem GrowStep.store{S:Nat→Value→World→Prop}{Z:Nat→World→Prop}{G:World→Prop}{i:Nat}{o:Oper}
 (h:∀(a:Act) (w:World),G w→(∀t,Operand.tmp t∈o.op.operands→S t (a.eval (.tmp t)) w)→∃w',(execOp a.eval o).run P w= .ok .skip w'∧G w'∧(∀t u,S t u w→S t u w')∧(∀j,j≠i→Z j w→Z j w')∧Z i w')(hd:o.dst=none):GrowStep P S Z G Q i o:=by
 intro a w hg hop;obtain⟨w',hr,hg',hs',hz',hv⟩:=h a w hg hop;unfold Oper.wp;rw[hr];exact⟨undef,rfl,hg',fun t u _=>hs' t u,hz',by rw[hd];exact hv⟩
def BA(n N:Nat):Array Bool:=(List.replicate N true++List.replicate (n-N) false).toArray
structure HeadI(ops:Array Oper)(N:Nat)(listed:Array Bool):Prop where
 size:listed.size=ops.size
 tail:∀t,N≤t→t<ops.size→listed.getD t true=false
theorem Dz{N:Nat}{listed:Array Bool}(hN:N≤ops.size)(h:HeadI ops N listed)(ha:∀i,i<N→listed.getD i false=true):listed=BA ops.size N:=by
 apply Array.ext
 ·simp[BA,h.size];omega
 ·intro i h1 h2;simp only[BA,List.getElem_toArray];by_cases hi:i<N
  ·rw[List.getElem_append_left (by simpa using hi),List.getElem_replicate];have:=ha i hi;rw[Array.getD_eq_getD_getElem?,Array.getElem?_eq_getElem h1]at this;simpa using this
  ·rw[List.getElem_append_right (by simp;omega),List.getElem_replicate];have:=h.tail i (by omega) (by rw[←h.size];exact h1);rw[Array.getD_eq_getD_getElem?,Array.getElem?_eq_getElem h1]at this;simpa using this
def FA(md:Region.Mode)(ops:Array Oper)(N:Nat):Bool:=
 Region.sinkB md ops N&&Region.chainB md ops N&&decide (N<ops.size)&&Region.seqB md ops (ops.size-N) N (BA ops.size N)
theorem CN{S:Nat→Value→World→Prop}{Z:Nat→World→Prop}{G:World→Prop}{n N:Nat}{a0:Act}(hd:depsB md ops=true)(ha:apartB ops n=true)(hah:DR md ops=true)(ht:FA md ops N=true)
 (hs:∀(i:Nat) (o:Oper),i<N→ops[i]? =some o→GrowStep P S Z G Q i o)
 (hdone:∀a w,BE ops S Z G n a0 (BA ops.size N) a w→wpList P ops Q (ops.toList.drop N) a w):
 ∀(f:Nat) (listed:Array Bool) (a:Act) (w:World),HeadInv md ops N listed→listed.toList.count false=f→BE ops S Z G n a0 listed a w→wpAny P md ops Q f listed a w:=by
 simp only[FA,Bool.and_eq_true,decide_eq_true_eq]at ht;obtain⟨⟨⟨hsk,hch⟩,hN⟩,hsq⟩:=ht;intro f;induction f with
 |zero=>
  intro listed a w hi hc h;exfalso;have hlt:N<listed.size:=by rw[hi.size];exact hN
  have hm:listed[N]=false:=by
   have:=hi.tail N (NL _) hN;rw[Array.getD_eq_getD_getElem?,Array.getElem?_eq_getElem hlt]at this;simpa using this
  have:0<listed.toList.count false:=List.count_pos_iff.2 (by rw[←hm];exact Array.getElem_mem_toList hlt);omega
 |succ f ih=>
  intro listed a w hi hc h;by_cases hall:∀i,i<N→listed.getD i false=true
  ·have e:=Dz (Nat.le_of_lt hN) ⟨hi.size,hi.tail⟩ hall;subst e;have hl:(ops.toList.drop N).length=f+1:=by
    rw[←hc];simp[BA,List.count_replicate]
   have:=wpAny_of_seq (P:=P) (md:=md) (ops:=ops) (Q':=Q) (ops.toList.drop N) N (BA ops.size N) a w (fun j=>by simp[List.getElem?_drop]) (by rw[List.length_drop,Array.length_toList];exact hsq) (hdone a w h);rw[hl]at this;exact this
  ·obtain⟨j,hj⟩:∃j,¬(j<N→listed.getD j false=true):=by
    refine Classical.byContradiction fun hno=>hall fun i hi'=>?_;exact Classical.byContradiction fun hx=>hno ⟨i,fun k=>hx (k hi')⟩
   have hjN:j<N:=Classical.byContradiction fun hx=>hj (fun k=>absurd k hx);have hjl:listed.getD j false=false:=by
    cases hx:listed.getD j false with
    |false=>rfl
    |true=>exact absurd (fun _=>hx) hj
   refine⟨fun hr=>?_,fun i hir=>?_⟩
   ·have:=CE hah hi.size hr j (by omega);rw[this]at hjl;cases hjl
   ·have hiN:i<N:=by
     rcases Nat.lt_or_ge i N with h'|h'
     ·exact h'
     ·exact absurd hir (tail_waits hsk hch hN hi _ j rfl hjN (getD_in (by rw[hi.size];omega) hjl) i h')
    obtain⟨hun,o,ho,_⟩:=mem_ready.1 hir;have hlt:i<listed.size:=by rw[hi.size];exact(Array.getElem?_eq_some_iff.1 ho).1
    have hm:listed[i]=false:=by
     rw[Array.getD_eq_getD_getElem?,Array.getElem?_eq_getElem hlt]at hun;simpa using hun
    refine wpOp_mono (fun a' w' h'=>ih _ a' w' (hi.set hir hiN) ?_ h') (Bs hd ha ho (hs i o hiN ho) h hir);rw[Array.setIfInBounds_def,dif_pos hlt,Array.toList_set,List.count_set (by simpa using hlt)];have hpos:0<listed.toList.count false:=List.count_pos_iff.2 (by rw[←hm];exact Array.getElem_mem_toList hlt);have hb:(listed.toList[i]'(by simpa using hlt)==false)=true:=by simp[hm]
    rw[if_pos hb,if_neg (by decide)];omega
def Aj(a:Act)(v:Nat→Value):List Nat→Act
 |[]=>a
 |d::ds=>Aj (a.put (some d) (v d)) v ds
theorem BJ(v:Nat→Value):∀(ds:List Nat) (a:Act),(Aj a v ds).tmps.size=a.tmps.size
 |[],a=>rfl
 |d::ds,a=>(BJ v ds _).trans (DJ _ _ _)
theorem Bg(v:Nat→Value):∀(ds:List Nat) (a:Act),(Aj a v ds).defers=a.defers
 |[],a=>rfl
 |d::ds,a=>Bg v ds _
theorem CC(v:Nat→Value)(t:Nat):∀(ds:List Nat) (a:Act),t<a.tmps.size→(Aj a v ds).eval (.tmp t)=if t∈ds then v t else a.eval (.tmp t)
 |[],a,h=>by simp[Aj]
 |d::ds,a,h=>by
  unfold Aj;rw[CC v t ds _ (by rw[DJ];exact h)];by_cases ht:t∈ds
  ·rw[if_pos ht,if_pos (List.mem_cons_of_mem _ ht)]
  ·rw[if_neg ht];by_cases hd:d=t
   ·subst hd;rw[if_pos List.mem_cons_self,AR _ h]
   ·rw[AE _ (by simpa using hd),if_neg (by simp[ht,Ne.symm hd])]
theorem D7{a b:Act}(hd:a.defers=b.defers)(hz:a.tmps.size=b.tmps.size)(h:∀t,t<a.tmps.size→a.eval (.tmp t)=b.eval (.tmp t)):a=b:=by
 cases a with|mk ta da=>
 cases b with|mk tb db=>
 simp only at hd hz;subst hd
 congr 1
 apply Array.ext hz;intro i h1 h2;have:=h i h1;simpa[Act.eval,Array.getD_eq_getD_getElem?,Array.getElem?_eq_getElem h1,Array.getElem?_eq_getElem h2]using this
theorem wp_region_grow_tail{id:Nat}{l:List Oper}{a:Act}{w:World}(S:Nat→Value→World→Prop)(G:World→Prop)(n N:Nat)(ds:List Nat)
 (hm:P.follows .mixedOrders=true)(hB:(depsB .any l.toArray&&apartB l.toArray n&&DR .any l.toArray&&FA .any l.toArray N&&decide ((l.take N).map (·.dst)=ds.map some))=true)
 (hn:a.tmps.size=n)(hdef:a.defers=[])(hG:G w.drew)(hold:∀t,t∉ds→S t (a.eval (.tmp t)) w.drew)
 (hs:BX P S (fun _ _=>True) G Q 0 (l.take N))
 (hend:∀v w',G w'→(∀t,t∈ds→S t (v t) w')→wpList P l.toArray Q (l.drop N) (Aj a v ds) w'):
 (Code.region id l.toArray true).wp P Q a w:=by
 simp only[Bool.and_eq_true,decide_eq_true_eq]at hB;obtain⟨⟨⟨⟨hd,ha⟩,hah⟩,htb⟩,hds⟩:=hB;have htb':=htb;simp only[FA,Bool.and_eq_true,decide_eq_true_eq]at htb';obtain⟨⟨⟨hsk,hch⟩,hN⟩,hsq⟩:=htb';have hNl:N<l.length:=by simpa using hN
 refine wp_region_any hm ?_;refine CN (S:=S) (Z:=fun _ _=>True) (G:=G) (n:=n) (N:=N) (a0:=a) hd ha hah htb (fun i o hi ho=>?_) ?_ l.toArray.size _ a _ ?_ (by simp) ?_
 ·have:=hs.at i o (by rw[List.getElem?_take_of_lt hi];simpa using ho);simpa using this
 ·intro a' w' h
  have e:a'=Aj a (fun t=>a'.eval (.tmp t)) ds:=by
   refine D7 (by rw[h.d,Bg,hdef]) (by rw[h.sz,BJ,hn]) fun t ht=>?_;rw[CC _ t ds a (by rw[hn,←h.sz];exact ht)];by_cases hm:t∈ds
   ·rw[if_pos hm]
   ·rw[if_neg hm];refine h.un t fun i o ho hl hdt=>hm ?_;have hiN:i<N:=by
     refine Classical.byContradiction fun hx=>?_;rw[Array.getD_eq_getD_getElem?]at hl;by_cases hlt:i<(BA l.toArray.size N).size
     ·rw[Array.getElem?_eq_getElem hlt]at hl;simp only[BA,List.getElem_toArray,Option.getD_some]at hl;rw[List.getElem_append_right (by simp;omega),List.getElem_replicate]at hl;cases hl
     ·rw[Array.getElem?_eq_none (by omega)]at hl;cases hl
    have hmem:o.dst∈(l.take N).map (·.dst):=List.mem_map.2 ⟨o,by
     rw[List.mem_take_iff_getElem];obtain⟨hlt,e⟩:=List.getElem?_eq_some_iff.1 (show l[i]? =some o by simpa using ho);exact⟨i,by omega,e⟩,rfl⟩
    rw[hds,hdt]at hmem;obtain⟨t',ht',e⟩:=List.mem_map.1 hmem;injection e with e
    exact e▸ht'
  rw[e];refine hend _ w' h.g fun t ht=>?_;have hmem:some t∈(l.take N).map (·.dst):=by rw[hds];exact List.mem_map.2 ⟨t,ht,rfl⟩
  obtain⟨o,ho,hdt⟩:=List.mem_map.1 hmem;obtain⟨i,hi,e2⟩:=List.getElem_of_mem ho;have hiN:i<N:=by simp at hi;omega
  have hli:l.toArray[i]? =some o:=by
   have:(l.take N)[i]? =some o:=by rw[List.getElem?_eq_getElem hi,e2]
   rw[List.getElem?_take_of_lt hiN]at this;simpa using this
  have hnew:=h.new i o hli (by
   have hil:i<(BA l.toArray.size N).size:=by simp[BA];omega
   rw[Array.getD_eq_getD_getElem?,Array.getElem?_eq_getElem hil];simp only[BA,List.getElem_toArray,Option.getD_some];rw[List.getElem_append_left (by simpa using hiN),List.getElem_replicate])
  unfold EI at hnew;rw[hdt]at hnew;exact hnew
 ·exact⟨by simp,fun j oj _ hl=>(by rw[getD_replicate_false]at hl;cases hl),fun t _ ht=>getD_in (by simpa using ht) (getD_replicate_false _ _)⟩
 ·refine⟨hG,hdef,hn,fun t ht hno=>?_,fun t _=>rfl,fun i o ho hl=>?_⟩
  ·refine hold t fun hm=>?_;have hmem:some t∈(l.take N).map (·.dst):=by rw[hds];exact List.mem_map.2 ⟨t,hm,rfl⟩
   obtain⟨o,ho,hdt⟩:=List.mem_map.1 hmem;obtain⟨i,hi,e2⟩:=List.getElem_of_mem (List.mem_of_mem_take ho);exact hno i o (by simp[List.getElem?_eq_getElem hi,e2]) hdt
  ·rw[getD_replicate_false]at hl;cases hl
end
end Go.Proofs.YtejhpdcjafbklaaGreatDoor
