/- The law FnHeadWritten: SpWc Lw Open Wd Raw FnUO Lw6. -/
import Derived.Deep.Onto
import Derived.Test.YtejhpdcjafbklaaGreatDoorSpWb
set_option linter.all false
set_option maxHeartbeats 8000000
set_option maxRecDepth 100000
namespace Go.Proofs.YtejhpdcjafbklaaGreatDoor
open Go.RowKit
def Mf(l:KVs)(i:Nat):Tx:=((l.getD i ([],[])).1).map Bf
theorem Da{l:KVs}{i:Nat}(h:i<l.length):Mf l i=l[i].1.map Bf:=by unfold Mf;rw[List.getD_eq_getElem?_getD,List.getElem?_eq_getElem h];rfl
def apTo(l:KVs)(n:Nat):Prop:=∀a b,b<a→a<n→Mf l a≠Mf l b
theorem Nl{l:KVs}(h:apTo l l.length):apB l=true:=by
 unfold apB;refine decide_eq_true (List.pairwise_iff_getElem.2 fun i j hi hj hij=>?_);have:=h j i hij hj;rw[Da hi,Da hj]at this;exact fun e=>this e.symm
theorem MR{l:KVs}{i k:Nat}(hi:i<l.length)(hk:k<i)(h:Mf l i=Mf l k):apB l=false:=by
 unfold apB;refine decide_eq_false fun hp=>?_;have:=List.pairwise_iff_getElem.1 hp k i (by omega) hi hk;rw[Da hi,Da (show k<l.length by omega)]at h;exact this h.symm
def iaS(sv:Value)(i k:Nat)(pi pk x y:Value)(a b:Tx):Nat→Value→World→Prop
 |0,v,_=>v=sv
 |3,v,_=>v= .int .i64 i
 |4,v,_=>v= .int .i64 k
 |16,v,_=>v=sv
 |17,v,_=>v= .int .i64 i
 |18,v,_=>v=pi
 |19,v,_=>v=pi
 |20,v,_=>v=x
 |21,v,w=>Bv w v (a.map Bf)
 |22,v,_=>v=sv
 |23,v,_=>v= .int .i64 k
 |24,v,_=>v=pk
 |25,v,_=>v=pk
 |26,v,_=>v=y
 |27,v,w=>Bv w v (b.map Bf)
 |28,v,_=>v= .bool (decide (a.map Bf=b.map Bf))
 |_,_,_=>True
theorem RC(sv:Value)(i k:Nat)(pi pk x y:Value)(a b:Tx)(t:Nat)(v:Value)(w w':World)(h:Le w w')(hs:iaS sv i k pi pk x y a b t v w):iaS sv i k pi pk x y a b t v w':=by
 unfold iaS at hs⊢;split at hs<;>first|exact hs|exact hs.le h
theorem Hb(φ:Nat→Prop)(v:Value)(l:KVs)(w:World)(hv:Kq φ w v l):Calls Tryz.prog 102 #[v] w fun e w'=>e= .returned (.bool (apB l))∧Le w w':=by
 have HV:=Hi hv;obtain⟨A,cc,rfl,h1,h2,h3,_⟩:=hv;go_enter Tryz.func102,Tryz.ntmps102;go_wp2
 go_loopg [3] (l.length) (fun n i wr=>∃k:Nat,n+k=l.length∧i= .int .i64 k∧Le w wr∧Hid (apTo l k))
 case atStart=>exact⟨0,by omega,rfl,AC w,Hi fun a b hb ha=>by omega⟩
 case round=>
  obtain⟨i,hn,rfl,hle,HQ⟩:=hrel;have HLE:=Hi hle;have HN:gk+i≤l.length∧l.length≤gk+i:=by omega
  clear hn hle;by_cases hlt:i<l.length
  ·obtain⟨g,o,rfl,x,x2,d1,d2,X,X2⟩:=HV.out.at_ hlt;clear d2;have D1:=Hi d1;clear d1;go_wp2
   rename World=>wr
   obtain⟨wo,hwo⟩:∃wo:World,wo=wr:=⟨_,rfl⟩;clear hwo
   go_loopg [4] (i) (fun n k wx=>∃j:Nat,n+j=i∧k= .int .i64 j∧Le w wx∧Hid (∀b,b<j→Mf l i≠Mf l b))
   case atStart=>exact⟨0,by omega,rfl,HLE.out,Hi fun b hb=>by omega⟩
   case round=>
    obtain⟨k,hn,rfl,hle,HK⟩:=hrel;have HLE2:=Hi hle;have HM:gk+k≤i∧i≤gk+k:=by omega
    clear hn hle;by_cases hki:k<i
    ·obtain⟨g',o',e',y,y2,e1,e2,Y,Y2⟩:=HV.out.at_ (k:=k) (by omega);obtain⟨rfl,rfl⟩:g=g'∧o=o':=by injection e' with e';injection e' with e1 e2;exact⟨e1,e2⟩
     clear e' e2;have E1:=Hi e1;clear e1;have hkl:k<l.length:=by omega
     go_wp2;have hm:(Tryz.prog).follows .mixedOrders=true:=by kernel_rfl
     have hGl:∀w1 w2,Le w1 w2→Le w w1→Le w w2:=fun w1 w2 k h=>Le.trans h k;have hSl:=RC (Value.slice (some ⟨g,o,none⟩) l.length cc) i k (.pointer (some ⟨g,o+i*2,none⟩)) (.pointer (some ⟨g,o+k*2,none⟩)) x y l[i].1 (l[k]'(by omega)).1
     refine wp_region_grow_put (iaS (Value.slice (some ⟨g,o,none⟩) l.length cc) i k (.pointer (some ⟨g,o+i*2,none⟩)) (.pointer (some ⟨g,o+k*2,none⟩)) x y l[i].1 (l[k]'(by omega)).1) (fun _ _=>True) (Le w) 29 [16,17,18,19,20,21,22,23,24,25,26,27,28] hm (by kernel_rfl) rfl rfl ?hG ?hold ?hs ?hend;case hG=>exact HLE2.out.drew
     case hold=>
      intro t ht;simp only[List.mem_cons,List.mem_nil_iff,or_false,not_or]at ht;unfold iaS;split<;>first|rfl|trivial|(exfalso;simp at ht)
     case hs=>
      refine⟨?_,?_,?_,?_,?_,?_,?_,?_,?_,?_,?_,?_,?_,trivial⟩
      ·refine AA fun a W hg hop=>?_;have h0:_=_:=hq hop 0;have h0':=tg h0;refine⟨_,?_,rfl⟩;simp only[execOp,h0];go_simp
      ·refine AA fun a W hg hop=>?_;have h0:_=_:=hq hop 3;have h0':=tg h0;refine⟨_,?_,rfl⟩;simp only[execOp,h0];go_simp
      ·refine AA fun a W hg hop=>?_;have h0:_=_:=hq hop 16;have h0':=tg h0;have h1:_=_:=hq hop 17;have h1':=tg h1;refine⟨_,?_,rfl⟩;simp only[execOp,h0,h1];go_simp
      ·refine AA fun a W hg hop=>?_;have h0:_=_:=hq hop 18;have h0':=tg h0;refine⟨_,?_,rfl⟩;simp only[execOp,h0];go_simp
      ·refine AA fun a W hg hop=>?_;have h0:_=_:=hq hop 19;have h0':=tg h0;have c1:=hg.cell D1.out;refine⟨_,?_,rfl⟩;simp only[execOp,h0];go_simp
      ·refine AG ?_ ?_ ?_ ?_
       ·exact fun t u w1 w2 k h=>hSl t u w1 w2 k h
       ·exact fun _ _ _ _ h=>h
       ·exact hGl
       intro a W hg hop;have h0:_=_:=hq hop 20;have h0':=tg h0;refine⟨53,#[x],?_,(Fi x _ W (X.out.le hg)).mono ?_⟩
       ·simp only[execOp,h0];go_simp
       ·rintro e w' ⟨v',rfl,hk,hle⟩;exact⟨v',rfl,hle,hk.bv (by rw[List.length_map];exact(As X.out).choose_spec.choose_spec.2)⟩
      ·refine AA fun a W hg hop=>?_;have h0:_=_:=hq hop 0;have h0':=tg h0;refine⟨_,?_,rfl⟩;simp only[execOp,h0];go_simp
      ·refine AA fun a W hg hop=>?_;have h0:_=_:=hq hop 4;have h0':=tg h0;refine⟨_,?_,rfl⟩;simp only[execOp,h0];go_simp
      ·refine AA fun a W hg hop=>?_;have h0:_=_:=hq hop 22;have h0':=tg h0;have h1:_=_:=hq hop 23;have h1':=tg h1;refine⟨_,?_,rfl⟩;simp only[execOp,h0,h1];go_simp
      ·refine AA fun a W hg hop=>?_;have h0:_=_:=hq hop 24;have h0':=tg h0;refine⟨_,?_,rfl⟩;simp only[execOp,h0];go_simp
      ·refine AA fun a W hg hop=>?_;have h0:_=_:=hq hop 25;have h0':=tg h0;have c1:=hg.cell E1.out;refine⟨_,?_,rfl⟩;simp only[execOp,h0];go_simp
      ·refine AG ?_ ?_ ?_ ?_
       ·exact fun t u w1 w2 k h=>hSl t u w1 w2 k h
       ·exact fun _ _ _ _ h=>h
       ·exact hGl
       intro a W hg hop;have h0:_=_:=hq hop 26;have h0':=tg h0;refine⟨53,#[y],?_,(Fi y _ W (Y.out.le hg)).mono ?_⟩
       ·simp only[execOp,h0];go_simp
       ·rintro e w' ⟨v',rfl,hk,hle⟩;exact⟨v',rfl,hle,hk.bv (by rw[List.length_map];exact(As Y.out).choose_spec.choose_spec.2)⟩
      ·refine AG ?_ ?_ ?_ ?_
       ·exact fun t u w1 w2 k h=>hSl t u w1 w2 k h
       ·exact fun _ _ _ _ h=>h
       ·exact hGl
       intro a W hg hop;have k1:Bv W (a.eval (.tmp 21)) (l[i].1.map Bf):=(hq hop 21);have k2:Bv W (a.eval (.tmp 27)) ((l[k]'(by omega)).1.map Bf):=(hq hop 27);generalize hy1:a.eval (.tmp 21)=y1 at k1;generalize hy2:a.eval (.tmp 27)=y2 at k2;have hy1':=tg hy1;have hy2':=tg hy2;refine⟨37,#[y1,y2],?_,(FL y1 y2 _ _ W k1 k2).mono ?_⟩
       ·simp only[execOp,hy1,hy2];go_simp
       ·rintro e w' ⟨rfl,rfl⟩;exact⟨_,rfl,AC W,rfl⟩
     case hend=>
      intro v w' hg hS hZ;have HG:=Hi hg;have s28:v 28= .bool (decide (l[i].1.map Bf=(l[k]'(by omega)).1.map Bf)):=hS 28 (by decide);clear hS hZ hg;simp only[Aj,Act.put,List.setIfInBounds_toArray,List.set_cons_zero,List.set_cons_succ];rw[s28];by_cases hq:l[i].1.map Bf=(l[k]'(by omega)).1.map Bf
      ·have HF:Hid (apB l=false):=Hi (MR hlt hki (by rw[Da hlt,Da (show k<l.length by omega)];exact hq));rw[decide_eq_true hq];clear s28 hq;go_wp2;go_ret;exact⟨by rw[HF.out];rfl,HG.out⟩
      ·have HF:Hid (∀b,b<k+1→Mf l i≠Mf l b):=Hi fun b hb=>by
        rcases Nat.lt_or_ge b k with h|h
        ·exact HK.out b h
        ·obtain rfl:b=k:=by omega
         rw[Da hlt,Da (show b<l.length by omega)];exact hq
       rw[decide_eq_false hq];clear s28 hq;go_wp2;go_roundg (i-k-1)
       case measure=>omega
       case rel=>exact⟨k+1,by omega,by go_num,HG.out,HF⟩
    ·obtain rfl:k=i:=by omega
     have HF:Hid (apTo l (k+1)):=Hi fun a b hb ha=>by
      rcases Nat.lt_or_ge a k with h|h
      ·exact HQ.out a b hb h
      ·obtain rfl:a=k:=by omega
       exact HK.out b hb
     go_wp2;go_roundg (l.length-k-1)
     case measure=>omega
     case rel=>exact⟨k+1,by omega,by go_num,HLE2.out,HF⟩
  ·have HF:Hid (apB l=true):=Hi (by
    have h:=HQ.out;obtain rfl:i=l.length:=by omega
    exact Nl h)
   go_wp2;go_ret;exact⟨by rw[HF.out];rfl,HLE.out⟩
end Go.Proofs.YtejhpdcjafbklaaGreatDoor
namespace Go.Proofs.YtejhpdcjafbklaaGreatDoor
open Go.RowKit
theorem JD:((Tryz.prog).info? 80).map (fun i=>(i.zero,i.size,i.bytes))=some (some (.agg #[.slice none 0 0,.slice none 0 0]),2,48):=by kernel_rfl
def I1(w:World)(xs:List Value)(l:KVs):Prop:=xs.length=l.length*2∧∀j (h:j<l.length),∃x y,xs[j*2]? =some x∧xs[j*2+1]? =some y∧Bv w x l[j].1∧Bv w y l[j].2
theorem I1.nil(w:World):I1 w [] []:=⟨rfl,fun j h=>by simp at h⟩
theorem I1.snoc{w:World}{xs:List Value}{l:KVs}(h:I1 w xs l){x y:Value}{a b:Tx}(hx:Bv w x a)(hy:Bv w y b):I1 w (xs++[x,y]) (l++[(a,b)]):=by
 refine⟨by simp only[LA,LC,LN,h.1];omega,fun j hj=>?_⟩;have hxl:=h.1;by_cases hlt:j<l.length
 ·obtain⟨x',y',e1,e2,e3,e4⟩:=h.2 j hlt;exact⟨x',y',by rw[List.getElem?_append_left (by omega)];exact e1,by rw[List.getElem?_append_left (by omega)];exact e2,by rw[List.getElem_append_left hlt];exact e3,by rw[List.getElem_append_left hlt];exact e4⟩
 ·simp only[LA,LC,LN]at hj;obtain rfl:j=l.length:=by omega
  refine⟨x,y,?_,?_,by simpa using hx,by simpa using hy⟩
  ·rw[List.getElem?_append_right (by omega),show l.length*2-xs.length=0 from by omega];rfl
  ·rw[List.getElem?_append_right (by omega),show l.length*2+1-xs.length=1 from by omega];rfl
theorem Kq.of_row{w w0:World}{base:Nat}{E:TypeId}{v:Value}{xs:List Value}{l:KVs}(h:w.ownsRow base E 2 v l.length xs)(k:I1 w0 xs l)(hle:Le w0 w)(hl:l.length≤1099511627776):Kq (fun _=>True) w v l:=by
 have h0:=h;obtain⟨_,h2⟩:=h;rcases h2 with⟨rfl,hn⟩|⟨g,cap,cur,rfl,hg,hh,hle',hm,hs,ht⟩
 ·obtain rfl:l=[]:=List.eq_nil_of_length_eq_zero hn;exact Kq.nil _ w
 ·unfold maxLen at hm;refine⟨_,_,rfl,hle',hm,hl,fun _=>⟨g,0,rfl,trivial,fun j hj=>?_⟩⟩;obtain⟨x,y,a1,a2,a3,a4⟩:=k.2 j hj;have b1:=h0.cells (g:=g) rfl _ _ a1;have b2:=h0.cells (g:=g) rfl _ _ a2;rw[B6]at b1 b2;exact⟨x,y,b1,b2,⟨a3.le hle,fun _ _=>trivial⟩,⟨a4.le hle,fun _ _=>trivial⟩⟩
theorem Cp{l signs k v:Tx}{sp:UInt8}{i:Nat}(hi:i<(pcs sp l).length)(he:D3 (pcs sp l)[i]=(k,v))
 (h:(BC (pcs sp l)[i] 61<(pcs sp l)[i].length∧v=[])∨k=[]∨Ce signs k=false∨Ce signs v=false):BB l sp signs=none:=by
 have hb:IV signs (pcs sp l)[i]=false:=by
  unfold IV;rw[he];rcases h with⟨h1,rfl⟩|rfl|h|h
  ·simp[h1]
  ·simp
  ·simp[h]
  ·simp[h]
 unfold BB;rw[if_neg];simp only[Bool.and_eq_true];rintro⟨h1,_⟩;have:=List.all_eq_true.1 h1 _ (List.getElem_mem hi);rw[hb]at this;cases this
def KrS(w0 w:World)(base:Nat)(v:Value)(l:KVs):Prop:=∃xs,w.ownsRow base 80 2 v l.length xs∧I1 w0 xs l
theorem KrS.le{w0 w w':World}{base:Nat}{v:Value}{l:KVs}(h:KrS w0 w base v l)(k:Le w w'):KrS w0 w' base v l:=by
 obtain⟨xs,h1,h2⟩:=h;exact⟨xs,Ds h1 k,h2⟩
theorem KrS.kp{w0 w w':World}{base b:Nat}{v:Value}{l:KVs}(h:KrS w0 w base v l)(k:Kp b w w')(hb:b<base):KrS w0 w' base v l:=by
 obtain⟨xs,h1,h2⟩:=h;exact⟨xs,h1.kept k (.inr fun e=>by have:=(h1.lt _ e).1;omega),h2⟩
theorem KrS.kq{w0 w:World}{base:Nat}{v:Value}{l:KVs}(h:KrS w0 w base v l)(hle:Le w0 w)(hl:l.length≤1099511627776):Kq (fun _=>True) w v l:=by
 obtain⟨xs,h1,h2⟩:=h;exact Kq.of_row h1 h2 hle hl
def Mc(w0:World)(l:Tx)(sp:UInt8)(signs:Tx)(w:World)(e:Ending)(w':World):Prop:=
 ∃(v:Value) (ok:Bool),e= .returned (.tuple #[v,.bool ok])∧Le w w'∧(∃A m c,v= .slice A m c)∧if ok=true then ∃kvs,BB l sp signs=some kvs∧kvs.length≤1099511627776∧KrS w0 w' w.heap.size v kvs else BB l sp signs=none
theorem Mp:((Tryz.prog).info? 80).map (·.size)=some 2:=by kernel_rfl
def prS(sv:Value)(k i:Nat)(pt xv ka va xp:Value):Nat→Value→World→Prop
 |9,v,_=>v=sv
 |10,v,_=>v= .int .i64 k
 |11,v,_=>v=xp
 |12,v,_=>v= .int .i64 i
 |34,v,_=>v=sv
 |35,v,_=>v= .int .i64 k
 |36,v,_=>v=pt
 |37,v,_=>v=xv
 |38,v,_=>v= .int .i64 i
 |39,v,_=>v= .int .i64 i
 |40,v,_=>v=ka
 |41,v,_=>v=sv
 |42,v,_=>v= .int .i64 k
 |43,v,_=>v=pt
 |44,v,_=>v=xv
 |45,v,_=>v= .int .i64 i
 |46,v,_=>v= .int .i64 ((i:Int)+1)
 |47,v,_=>v=va
 |48,v,_=>v= .agg #[ka,va]
 |_,_,_=>True
def prG(W0:World)(b:Nat)(w:World):Prop:=Kp b W0 w∧∃cs:Array Value,cs.size=2∧w.heap[b]? =some (.cells cs 80 (0,0))
def prZ(b:Nat)(cs:Array Value)(_:Nat)(w:World):Prop:=w.heap[b]? =some (.cells cs 80 (0,0))
theorem prK{W0 W:World}{b:Nat}{a:Addr}{v:Value}(h:prG W0 b W)(hb:a.block≠b)(hc:W0.cell? a=some v):W.cell? a=some v:=
 (World.cell?_of_block (h.1.block a.block (Az hc) (fun e=>hb (by injection e)))).trans hc
theorem Fh(v:Value)(l:Tx)(sp:UInt8)(s:ByteArray)(w0 w:World)(h0:Le w0 w)(hv:Bv w0 v l)(hl:l.length≤1099511627000)(hs:s.size≤1099511627776):
 Calls Tryz.prog 77 #[v,.int .u8 (sp.toNat:Int),.string s] w (Mc w0 l sp (bs s) w):=by
 have HV:=Hi hv;have H0:=Hi h0;clear hv h0;go_enter Tryz.func77,Tryz.ntmps77;go_wp2_with fail
 refine(IJ v l sp w0 w H0.out HV.out hl).mono ?_;rintro e w1 ⟨pv,rfl,hsl,hle1⟩;have HSL:=Hi hsl;have HLE1:=Hi hle1;obtain⟨A9,c9,rfl,hk1,hk2,hk3,_⟩:=hsl;have HL01:=Hi (Le.trans H0.out hle1);clear hle1;obtain⟨i0,hi0,hz0,hz1,hz2⟩:=info_parts JD;go_wp2
 go_loopg [8,10] ((pcs sp l).length) (fun n sv i wr=>∃(k:Nat) (xs:List Value),n+k=(pcs sp l).length∧i= .int .i64 k∧Le w1 wr∧wr.ownsRow w1.heap.size 80 2 sv k xs∧I1 w0 xs (((pcs sp l).take k).map D3)∧((pcs sp l).take k).all (IV (bs s))=true)
 case atStart=>exact⟨0,[],by omega,rfl,AC w1,World.ownsRow_nil _ _ _ _,I1.nil _,rfl⟩
 case round=>
  obtain⟨k,xs,hn,rfl,hle,hown,hpa,hall⟩:=hrel;have HO:=Hi hown;have HLE:=Hi hle;have HPA:=Hi hpa;have HALL:=Hi hall;have HN:gk+k≤(pcs sp l).length∧(pcs sp l).length≤gk+k:=by omega
  have hsz:=hle.size;clear hn hown hpa hall;by_cases hkl:k<(pcs sp l).length
  ·obtain⟨g,o,rfl,xv,d1,X⟩:=HSL.out.at_ hkl;have d1:=hle.cell d1;have HG9:Hid (g≠wr.heap.size):=Hi (by have h:g<wr.heap.size:=Az d1;omega);have d1b:∀ob,(wr.alloc ob).cell? ⟨g,o+k,none⟩=some xv:=fun ob=>Le.cell ((AC wr).alloc ob) d1;have HX1:=X.out;obtain⟨A,cc,rfl,hpl⟩:=As HX1;generalize hpp:(pcs sp l)[k]=p at*;have HP:=Hi hpp
   have hpc:p.length≤cc:=by obtain⟨_,_,e,h,_⟩:=HX1;injection e with _ _ e;omega
   clear hpp;have HB0:=Hi (heap_alloc_new wr (Obj.cells #[(Value.slice A p.length cc),.slice none 0 0] 80));have HL0:=Hi ((AC wr).alloc (Obj.cells #[(Value.slice A p.length cc),.slice none 0 0] 80));have HD:=Hi (d1b (Obj.cells #[(Value.slice A p.length cc),.slice none 0 0] 80))
   have ci:=fun W (h:Le w1 W)=>Br (Value.slice A p.length cc) p 61 W (HX1.le (Le.trans HL01.out h));rcases Bo p 61 with⟨i,e1,hi,e2⟩|⟨e1,e2⟩
   ·rw[e1]at ci;have HKV:Hid (D3 (pcs sp l)[k]=(p.take i,p.drop (i+1))):=Hi (by rw[HP.out];unfold D3;rw[e2,if_pos hi]);have HIX:Hid (BC (pcs sp l)[k] 61<(pcs sp l)[k].length):=Hi (by rw[HP.out,e2];exact hi);obtain⟨v2,hb2,q1,q2⟩:=Bb (k:=i+1) (z:=(i:Int)+1) HX1 hi (by omega);have HBV:=Hi hb2;obtain⟨A2,c2,hv2,hml⟩:=As hb2
    generalize hm2:(p.drop (i+1)).length=m2 at hv2 hml;subst hv2;have HM2:=Hi hm2;have HBK:=Hi (CD (k:=i) HX1 (by omega) (NL i) (by omega));have CI:=Hi ci;have HLK:Hid ((p.take i).length=i):=Hi (by rw[List.length_take];omega);have hic:i≤cc:=by omega
    clear hb2 e1 e2 ci hle hm2;go_wp2_with fail
    refine(CI.out _ (HLE.out.alloc _)).mono ?_;rintro e w' ⟨rfl,rfl⟩;generalize wr.alloc (Obj.cells #[(Value.slice A p.length cc),.slice none 0 0] 80)=W0 at HB0 HL0 HD⊢;go_wp2;have hm:(Tryz.prog).follows .mixedOrders=true:=by kernel_rfl
    have i4:IntKind.i64.wrap ((i:Int)+1)=i+1:=IntWalk.i64_in _ (by omega);have i5:(0:Int)≤(i:Int)+1:=by omega
    have i6:(i:Int)+1≤p.length:=by omega
    refine wp_region_grow_put (prS (Value.slice (some ⟨g,o,none⟩) (pcs sp l).length c9) k i (.pointer (some ⟨g,o+k,none⟩)) (Value.slice A p.length cc) (.slice A i i) (.slice A2 m2 c2) (.pointer (some ⟨wr.heap.size,0,none⟩))) (prZ wr.heap.size #[.slice A i i,.slice A2 m2 c2]) (prG W0 wr.heap.size) 78 [34,35,36,37,38,39,40,41,42,43,44,45,46,47,48] hm (by kernel_rfl) rfl rfl ?hG ?hold ?hs ?hend
    case hG=>exact⟨(Kp.refl _ _).le (AC _).drew,_,rfl,HB0.out⟩
    case hold=>
     intro t ht;simp only[List.mem_cons,List.mem_nil_iff,or_false,not_or]at ht;unfold prS;split<;>first|rfl|trivial|(exfalso;simp at ht)
    case hs=>
     refine⟨?_,?_,?_,?_,?_,?_,?_,?_,?_,?_,?_,?_,?_,?_,?_,?_,trivial⟩
     ·refine AA fun a W hg hop=>?_;have h0:_=_:=hq hop 9;have h0':=tg h0;refine⟨_,?_,rfl⟩;simp only[execOp,h0];go_simp
     ·refine AA fun a W hg hop=>?_;have h0:_=_:=hq hop 10;have h0':=tg h0;refine⟨_,?_,rfl⟩;simp only[execOp,h0];go_simp
     ·refine AA fun a W hg hop=>?_;have h0:_=_:=hq hop 34;have h0':=tg h0;have h1:_=_:=hq hop 35;have h1':=tg h1;refine⟨_,?_,rfl⟩;simp only[execOp,h0,h1];go_simp
     ·refine AA fun a W hg hop=>?_;have h0:_=_:=hq hop 36;have h0':=tg h0;have cc1:W.cell? ⟨g,o+k,none⟩=some (Value.slice A p.length cc):=prK hg HG9.out HD.out;refine⟨_,?_,rfl⟩;simp only[execOp,h0];go_simp
     ·refine AA fun a W hg hop=>?_;have h0:_=_:=hq hop 12;have h0':=tg h0;refine⟨_,?_,rfl⟩;simp only[execOp,h0];go_simp
     ·refine AA fun a W hg hop=>?_;have h0:_=_:=hq hop 12;have h0':=tg h0;refine⟨_,?_,rfl⟩;simp only[execOp,h0];go_simp
     ·refine AA fun a W hg hop=>?_;have h0:_=_:=hq hop 37;have h0':=tg h0;have h1:_=_:=hq hop 38;have h1':=tg h1;have h2:_=_:=hq hop 39;have h2':=tg h2;refine⟨_,?_,rfl⟩;simp only[execOp,h0,h1,h2];go_simp
     ·refine AA fun a W hg hop=>?_;have h0:_=_:=hq hop 9;have h0':=tg h0;refine⟨_,?_,rfl⟩;simp only[execOp,h0];go_simp
     ·refine AA fun a W hg hop=>?_;have h0:_=_:=hq hop 10;have h0':=tg h0;refine⟨_,?_,rfl⟩;simp only[execOp,h0];go_simp
     ·refine AA fun a W hg hop=>?_;have h0:_=_:=hq hop 41;have h0':=tg h0;have h1:_=_:=hq hop 42;have h1':=tg h1;refine⟨_,?_,rfl⟩;simp only[execOp,h0,h1];go_simp
     ·refine AA fun a W hg hop=>?_;have h0:_=_:=hq hop 43;have h0':=tg h0;have cc1:W.cell? ⟨g,o+k,none⟩=some (Value.slice A p.length cc):=prK hg HG9.out HD.out;refine⟨_,?_,rfl⟩;simp only[execOp,h0];go_simp
     ·refine AA fun a W hg hop=>?_;have h0:_=_:=hq hop 12;have h0':=tg h0;refine⟨_,?_,rfl⟩;simp only[execOp,h0];go_simp
     ·refine AA fun a W hg hop=>?_;have h0:_=_:=hq hop 45;have h0':=tg h0;refine⟨_,?_,rfl⟩;simp only[execOp,h0];go_simp
     ·refine AA fun a W hg hop=>?_;have h0:_=_:=hq hop 44;have h0':=tg h0;have h1:_=_:=hq hop 46;have h1':=tg h1;refine⟨_,?_,rfl⟩;simp only[execOp,h0,h1];go_simp
     ·refine AA fun a W hg hop=>?_;have h0:_=_:=hq hop 40;have h0':=tg h0;have h1:_=_:=hq hop 47;have h1':=tg h1;refine⟨_,?_,rfl⟩;simp only[execOp,h0,h1];go_simp
     ·refine GrowStep.store ?_ rfl;intro a W hg hop;have h1:_=_:=hq hop 11;have h2:_=_:=hq hop 48;obtain⟨h3,cs,h5,h6⟩:=hg;have hk:=Bd W wr.heap.size #[.slice A i i,.slice A2 m2 c2];have hst:=run_storeVar_row (P:=Tryz.prog) W wr.heap.size 80 80 cs #[.slice A i i,.slice A2 m2 c2] h6 Mp h5 (by simp only[List.all_toArray,List.all_cons,List.all_nil];rfl)
      refine⟨W.setRow wr.heap.size #[.slice A i i,.slice A2 m2 c2],?_,⟨h3.trans hk,_,rfl,setRow_heap W _ _ _ _ _ h6⟩,fun t v hh=>by unfold prS at hh⊢;split at hh<;>exact hh,fun _ _ h=>setRow_heap W _ _ _ _ _ h6,setRow_heap W _ _ _ _ _ h6⟩;simp only[execOp,h1,h2,Instr.storeAt,Instr.sureAddr,Sem.run_bind,Sem.run_pure,Result.andThen,hst]
    case hend=>
     intro v WX hg hS hZ;have hbx:WX.heap[wr.heap.size]? =some (.cells #[.slice A i i,.slice A2 m2 c2] 80 (0,0)):=hZ 15 _ rfl rfl;have y0:WX.cell? ⟨wr.heap.size,0,none⟩=some (.slice A i i):=AB hbx 0;have y1:WX.cell? ⟨wr.heap.size,1,none⟩=some (.slice A2 m2 c2):=AB hbx 1
     have HWX:Hid (Le w1 WX):=Hi (Below.trans (Le.trans HLE.out HL0.out) (hg.1.below hsz (Le.trans HLE.out HL0.out).size));have HLEX:Hid (Le w WX):=Hi (Le.trans HLE1.out HWX.out);have HOX:Hid (WX.ownsRow w1.heap.size 80 2 u8 k xs):=Hi ((Ds HO.out HL0.out).kept hg.1 (.inr fun e=>by have:=(HO.out.lt _ e).2;omega));clear hS hZ hg hbx
     simp only[Aj,Act.put,List.setIfInBounds_toArray,List.set_cons_zero,List.set_cons_succ];by_cases hve:p.drop (i+1)=[]
     ·have HF:Hid (BB l sp (bs s)=none):=Hi (Cp hkl HKV.out (.inl ⟨HIX.out,hve⟩));obtain rfl:m2=0:=by rw[←HM2.out,hve];rfl
      clear hve;go_wp2
      go_ret2
      exact⟨_,false,rfl,HLEX.out,⟨_,_,_,rfl⟩,HF.out⟩
     ·have hm2':0<m2:=by rw[←HM2.out];exact List.length_pos_iff.2 hve
      have e2:((m2:Int)==0)=false:=by simp;omega
      by_cases h0:i=0
      ·subst h0;have HF:Hid (BB l sp (bs s)=none):=Hi (Cp hkl HKV.out (.inr (.inl rfl)));clear hve;go_wp2
       go_ret2
       exact⟨_,false,rfl,HLEX.out,⟨_,_,_,rfl⟩,HF.out⟩
      ·have e3:((i:Int)==0)=false:=by simp;omega
       have HKOK:Hid (Ce (bs s) (p.take i)=true→Ce (bs s) (p.drop (i+1))=true→IV (bs s) (pcs sp l)[k]=true):=Hi fun a b=>by
        have ht:p.take i≠[]:=List.length_pos_iff.1 (by rw[HLK.out];omega);unfold IV;rw[HKV.out,a,b];simp[hve,ht]
       clear hve h0;by_cases ho1:Ce (bs s) (p.take i)=true
       ·have k1:=Hi (AW (EM (.slice A i i) (p.take i) s WX (HBK.out.le (Le.trans HL01.out HWX.out)) hs) ho1);by_cases ho2:Ce (bs s) (p.drop (i+1))=true
        ·have HX:Hid (((pcs sp l).take (k+1)).all (IV (bs s))=true):=Hi (by
          rw[List.take_succ_eq_append_getElem hkl,List.all_append,HALL.out];simp only[List.all_cons,List.all_nil,Bool.and_true,Bool.true_and];exact HKOK.out ho1 ho2)
         have k2:=Hi (AW (EM (.slice A2 m2 c2) (p.drop (i+1)) s WX (HBV.out.le (Le.trans HL01.out HWX.out)) hs) ho2);have hszx:=HWX.out.size;clear ho1 ho2;go_wp2_with fail
         refine k1.out.mono ?_;rintro e w' ⟨rfl,rfl⟩;go_wp2_with fail
         refine k2.out.mono ?_;rintro e w' ⟨rfl,rfl⟩;go_wp2_with ((at_builtin;refine wpList_append_lies _ rfl _ _ 33 rfl w1.heap.size 80 i0 (.agg #[.slice none 0 0,.slice none 0 0]) 2 48 Tryz.underlying33 hi0 hz0 hz1 hz2 rfl (by decide) _ _ _ rfl (HOX.out.alloc _) ⟨WX.heap.size,0,none⟩ 1 1 [(.slice A i i),(.slice A2 m2 c2)] rfl rfl ?c1 ?c2 ?c3 ?c4 ?c5 ?c6 (WX.heap.size+1) ?c7 ?_))
         case c1=>exact World.news_of_block (heap_alloc_new WX _)
         case c2=>intro u hu;simp only[List.mem_cons,List.mem_nil_iff,or_false]at hu;rcases hu with rfl|rfl<;>rfl
         case c3=>omega
         case c4=>unfold maxLen;omega
         case c5=>omega
         case c6=>simp;omega
         case c7=>simp
         intro g2 cap2 w2 hown2 hgrow2 hat2 hlt2;have HLE2:Hid (Le w1 w2):=Hi (Below.grown' (HWX.out.alloc _) hgrow2 (NL _) (fun g hg=>(AK HOX.out g hg).1));have HO2:=Hi hown2;have HPA2:Hid (I1 w0 (xs++[(.slice A i i),(.slice A2 m2 c2)]) (((pcs sp l).take (k+1)).map D3)):=Hi (by
          rw[List.take_succ_eq_append_getElem hkl,List.map_append,List.map_cons,List.map_nil,HKV.out];exact HPA.out.snoc HBK.out HBV.out)
         clear hown2 hgrow2 hat2 hlt2 k1 k2;go_wp2;go_roundg (gk-1)
         case measure=>omega
         case rel=>exact⟨k+1,_,by omega,by go_num,HLE2.out,HO2.out,HPA2.out,HX.out⟩
        ·have ho2':Ce (bs s) (p.drop (i+1))=false:=by simpa using ho2
         have HF:Hid (BB l sp (bs s)=none):=Hi (Cp hkl HKV.out (.inr (.inr (.inr ho2'))));have k2:=Hi (AW (EM (.slice A2 m2 c2) (p.drop (i+1)) s WX (HBV.out.le (Le.trans HL01.out HWX.out)) hs) ho2');clear ho1 ho2 ho2';go_wp2_with fail
         refine k1.out.mono ?_;rintro e w' ⟨rfl,rfl⟩;go_wp2_with fail
         refine k2.out.mono ?_;rintro e w' ⟨rfl,rfl⟩;go_wp2
         go_ret2
         exact⟨_,false,rfl,HLEX.out,⟨_,_,_,rfl⟩,HF.out⟩
       ·have ho1':Ce (bs s) (p.take i)=false:=by simpa using ho1
        have HF:Hid (BB l sp (bs s)=none):=Hi (Cp hkl HKV.out (.inr (.inr (.inl ho1'))));have k1:=Hi (AW (EM (.slice A i i) (p.take i) s WX (HBK.out.le (Le.trans HL01.out HWX.out)) hs) ho1');clear ho1 ho1';go_wp2_with fail
        refine k1.out.mono ?_;rintro e w' ⟨rfl,rfl⟩;go_wp2
        go_ret2
        exact⟨_,false,rfl,HLEX.out,⟨_,_,_,rfl⟩,HF.out⟩
   ·rw[e1]at ci;have HKV:Hid (D3 (pcs sp l)[k]=(p,[])):=Hi (by rw[HP.out];unfold D3;rw[if_neg e2]);have HIX:Hid (¬BC p 61<p.length):=Hi e2;have CI:=Hi ci;clear e1 e2 ci hle;go_wp2_with fail
    refine(CI.out _ (HLE.out.alloc _)).mono ?_;rintro e w' ⟨rfl,rfl⟩;generalize wr.alloc (Obj.cells #[(Value.slice A p.length cc),.slice none 0 0] 80)=WX at HB0 HL0 HD⊢;have y0:WX.cell? ⟨wr.heap.size,0,none⟩=some (Value.slice A p.length cc):=AB HB0.out 0;have y1:WX.cell? ⟨wr.heap.size,1,none⟩=some (.slice none 0 0):=AB HB0.out 1
    have HWX:Hid (Le w1 WX):=Hi (Le.trans HLE.out HL0.out);have HLEX:Hid (Le w WX):=Hi (Le.trans HLE1.out HWX.out);have HOX:Hid (WX.ownsRow w1.heap.size 80 2 u8 k xs):=Hi (Ds HO.out HL0.out);have HBK:=Hi HX1;have HBV:Hid (Bv w0 (.slice none 0 0) []):=Hi (Bv.nil w0);clear HB0 HL0;by_cases h0:p=[]
    ·have HF:Hid (BB l sp (bs s)=none):=Hi (Cp hkl HKV.out (.inr (.inl h0)));have hp0:p.length=0:=by rw[h0];rfl
     have e3:((p.length:Int)==0)=true:=by simp[hp0]
     clear h0 hp0;go_wp2
     go_ret2
     exact⟨_,false,rfl,HLEX.out,⟨_,_,_,rfl⟩,HF.out⟩
    ·have hp0:0<p.length:=List.length_pos_iff.2 h0;have e3:((p.length:Int)==0)=false:=by simp;omega
     have HKOK:Hid (Ce (bs s) p=true→Ce (bs s) []=true→IV (bs s) (pcs sp l)[k]=true):=Hi fun a b=>by
      have hx:=HIX.out;rw[←HP.out]at hx a h0;unfold IV;rw[HKV.out];rw[←HP.out];simp[hx,a,h0,b]
     clear h0;by_cases ho1:Ce (bs s) p=true
     ·have k1:=Hi (AW (EM (Value.slice A p.length cc) p s WX (HBK.out.le (Le.trans HL01.out HWX.out)) hs) ho1);by_cases ho2:Ce (bs s) []=true
      ·have HX:Hid (((pcs sp l).take (k+1)).all (IV (bs s))=true):=Hi (by
        rw[List.take_succ_eq_append_getElem hkl,List.all_append,HALL.out];simp only[List.all_cons,List.all_nil,Bool.and_true,Bool.true_and];exact HKOK.out ho1 ho2)
       have k2:=Hi (AW (EM (.slice none 0 0) [] s WX (HBV.out.le (Le.trans HL01.out HWX.out)) hs) ho2);have hszx:=HWX.out.size;clear ho1 ho2;go_wp2_with fail
       refine k1.out.mono ?_;rintro e w' ⟨rfl,rfl⟩;go_wp2_with fail
       refine k2.out.mono ?_;rintro e w' ⟨rfl,rfl⟩;go_wp2_with ((at_builtin;refine wpList_append_lies _ rfl _ _ 33 rfl w1.heap.size 80 i0 (.agg #[.slice none 0 0,.slice none 0 0]) 2 48 Tryz.underlying33 hi0 hz0 hz1 hz2 rfl (by decide) _ _ _ rfl (HOX.out.alloc _) ⟨WX.heap.size,0,none⟩ 1 1 [(Value.slice A p.length cc),(.slice none 0 0)] rfl rfl ?c1 ?c2 ?c3 ?c4 ?c5 ?c6 (WX.heap.size+1) ?c7 ?_))
       case c1=>exact World.news_of_block (heap_alloc_new WX _)
       case c2=>intro u hu;simp only[List.mem_cons,List.mem_nil_iff,or_false]at hu;rcases hu with rfl|rfl<;>rfl
       case c3=>omega
       case c4=>unfold maxLen;omega
       case c5=>omega
       case c6=>simp;omega
       case c7=>simp
       intro g2 cap2 w2 hown2 hgrow2 hat2 hlt2;have HLE2:Hid (Le w1 w2):=Hi (Below.grown' (HWX.out.alloc _) hgrow2 (NL _) (fun g hg=>(AK HOX.out g hg).1));have HO2:=Hi hown2;have HPA2:Hid (I1 w0 (xs++[(Value.slice A p.length cc),(.slice none 0 0)]) (((pcs sp l).take (k+1)).map D3)):=Hi (by
        rw[List.take_succ_eq_append_getElem hkl,List.map_append,List.map_cons,List.map_nil,HKV.out];exact HPA.out.snoc HBK.out HBV.out)
       clear hown2 hgrow2 hat2 hlt2 k1 k2;go_wp2;go_roundg (gk-1)
       case measure=>omega
       case rel=>exact⟨k+1,_,by omega,by go_num,HLE2.out,HO2.out,HPA2.out,HX.out⟩
      ·have ho2':Ce (bs s) []=false:=by simpa using ho2
       have HF:Hid (BB l sp (bs s)=none):=Hi (Cp hkl HKV.out (.inr (.inr (.inr ho2'))));have k2:=Hi (AW (EM (.slice none 0 0) [] s WX (HBV.out.le (Le.trans HL01.out HWX.out)) hs) ho2');clear ho1 ho2 ho2';go_wp2_with fail
       refine k1.out.mono ?_;rintro e w' ⟨rfl,rfl⟩;go_wp2_with fail
       refine k2.out.mono ?_;rintro e w' ⟨rfl,rfl⟩;go_wp2
       go_ret2
       exact⟨_,false,rfl,HLEX.out,⟨_,_,_,rfl⟩,HF.out⟩
     ·have ho1':Ce (bs s) p=false:=by simpa using ho1
      have HF:Hid (BB l sp (bs s)=none):=Hi (Cp hkl HKV.out (.inr (.inr (.inl ho1'))));have k1:=Hi (AW (EM (Value.slice A p.length cc) p s WX (HBK.out.le (Le.trans HL01.out HWX.out)) hs) ho1');clear ho1 ho1';go_wp2_with fail
      refine k1.out.mono ?_;rintro e w' ⟨rfl,rfl⟩;go_wp2
      go_ret2
      exact⟨_,false,rfl,HLEX.out,⟨_,_,_,rfl⟩,HF.out⟩
  ·obtain rfl:k=(pcs sp l).length:=by omega
   have HOK:Hid ((pcs sp l).all (IV (bs s))=true):=Hi (by have:=HALL.out;rw[List.take_of_length_le (NL _)]at this;exact this)
   have HKQ:Hid (Kq (fun _=>True) wr u8 ((pcs sp l).map D3)):=Hi (by
    have h1:=HPA.out;rw[List.take_of_length_le (NL _)]at h1;have h2:=HO.out;rw[←List.length_map (f:=D3)]at h2;exact Kq.of_row h2 h1 (Le.trans HL01.out HLE.out) (by rw[List.length_map];omega))
   have HKR:Hid (KrS w0 wr w.heap.size u8 ((pcs sp l).map D3)):=Hi (by
    have h1:=HPA.out;rw[List.take_of_length_le (NL _)]at h1;have h2:=HO.out;rw[←List.length_map (f:=D3)]at h2;exact⟨xs,h2.mono HLE1.out.size,h1⟩)
   have HLW:Hid (Le w wr):=Hi (Le.trans HLE1.out hle);clear hle;go_wp2_with fail
   refine(Hb _ _ _ _ HKQ.out).mono ?_;rintro e w3 ⟨rfl,hle3⟩;have HLE3:=Hi (Le.trans HLW.out hle3);have HKQ3:=Hi (HKQ.out.le hle3);have HKR3:=Hi (HKR.out.le hle3);clear hle3;obtain⟨r,hr⟩:∃r,apB ((pcs sp l).map D3)=r:=⟨_,rfl⟩;rw[hr];have HR:=Hi hr;clear hr;go_wp2
   go_ret2
   refine⟨u8,r,rfl,HLE3.out,by obtain⟨A,c,e,_⟩:=HKQ3.out;exact⟨_,_,_,e⟩,?_⟩;unfold BB;rw[HOK.out,HR.out];cases r
   ·rfl
   ·exact⟨_,rfl,by rw[List.length_map];omega,HKR3.out⟩
end Go.Proofs.YtejhpdcjafbklaaGreatDoor
namespace Go.Proofs.YtejhpdcjafbklaaGreatDoor
open Go.RowKit
end Go.Proofs.YtejhpdcjafbklaaGreatDoor
namespace Go.Proofs.YtejhpdcjafbklaaGreatDoor
open Go.RowKit
end Go.Proofs.YtejhpdcjafbklaaGreatDoor
namespace Go.Proofs.YtejhpdcjafbklaaGreatDoor
open Go.RowKit
def Kw(w:World)(v:Value)(l:KVs):Prop:=
 ∃A c,v= .slice A l.length c∧l.length≤c∧c≤9223372036854775807∧l.length≤140737488355328∧
  (0<l.length→∃g o,A=some ⟨g,o,none⟩∧
   ∀j (h:j<l.length),∃x y,w.cell? ⟨g,o+j*2,none⟩=some x∧w.cell? ⟨g,o+j*2+1,none⟩=some y∧Bv w x l[j].1∧Bv w y l[j].2)
theorem Kw.le{w w':World}{v:Value}{l:KVs}(h:Kw w v l)(k:Le w w'):Kw w' v l:=by
 obtain⟨A,c,e,h1,h2,h3,h4⟩:=h;refine⟨A,c,e,h1,h2,h3,fun hn=>?_⟩;obtain⟨g,o,e,hc⟩:=h4 hn;refine⟨g,o,e,fun j hj=>?_⟩;obtain⟨x,y,hx,hy,hx2,hy2⟩:=hc j hj;exact⟨x,y,k.cell hx,k.cell hy,hx2.le k,hy2.le k⟩
theorem Kw.kq{w:World}{v:Value}{l:KVs}(h:Kw w v l)(hl:l.length≤1099511627776):Kq (fun _=>True) w v l:=by
 obtain⟨A,c,e,h1,h2,h3,h4⟩:=h;refine⟨A,c,e,h1,h2,hl,fun hn=>?_⟩;obtain⟨g,o,e,hc⟩:=h4 hn;refine⟨g,o,e,trivial,fun j hj=>?_⟩;obtain⟨x,y,hx,hy,hx2,hy2⟩:=hc j hj;exact⟨x,y,hx,hy,⟨hx2,fun _ _=>trivial⟩,⟨hy2,fun _ _=>trivial⟩⟩
theorem Kw.at_{w:World}{A:Option Addr}{n c:Nat}{l:KVs}(h:Kw w (.slice A n c) l){k:Nat}(hk:k<l.length):
 ∃g o,A=some ⟨g,o,none⟩∧∃x y,w.cell? ⟨g,o+k*2,none⟩=some x∧w.cell? ⟨g,o+k*2+1,none⟩=some y∧Hid (Bv w x l[k].1)∧Hid (Bv w y l[k].2):=by
 obtain⟨A',c',e,h1,h2,h3,h4⟩:=h;injection e with e1 e2 e3
 subst e1;obtain⟨g,o,rfl,hc⟩:=h4 (by omega);obtain⟨x,y,hx,hy,hx2,hy2⟩:=hc k hk;exact⟨g,o,rfl,x,y,hx,hy,Hi hx2,Hi hy2⟩
theorem Kw.form{w:World}{v:Value}{l:KVs}(h:Kw w v l):∃A c,v= .slice A l.length c:=by obtain⟨A,c,e,_⟩:=h;exact⟨A,c,e⟩
theorem Bv.form{w:World}{v:Value}{l:Tx}(h:Bv w v l):∃A c,v= .slice A l.length c:=by obtain⟨A,c,e,_⟩:=h;exact⟨A,c,e⟩
structure Uw(w:World)(x:UV)(u:PU):Prop where
 scheme:Bv w x.scheme u.scheme
 raw:Bv w x.raw u.raw
 wild:x.wild=u.wild
 slash:x.slash=u.slash
 user:Bv w x.user u.user
 pass:Bv w x.pass u.pass
 host:Bv w x.host u.host
 port:x.port=u.port
 lo: -9223372036854775808≤u.port
 hi:u.port≤9223372036854775807
 ps:Kw w x.ps u.ps
 hs:Kw w x.hs u.hs
theorem Uw.le{w w':World}{x:UV}{u:PU}(h:Uw w x u)(k:Le w w'):Uw w' x u:=
 ⟨h.scheme.le k,h.raw.le k,h.wild,h.slash,h.user.le k,h.pass.le k,h.host.le k,h.port,h.lo,h.hi,h.ps.le k,h.hs.le k⟩
theorem Uw.uq{w:World}{x:UV}{u:PU}(h:Uw w x u)(h1:u.ps.length≤1099511627776)(h2:u.hs.length≤1099511627776):Uq (fun _=>True) w x u:=
 ⟨⟨h.scheme,fun _ _=>trivial⟩,⟨h.raw,fun _ _=>trivial⟩,h.wild,h.slash,⟨h.user,fun _ _=>trivial⟩,⟨h.pass,fun _ _=>trivial⟩,⟨h.host,fun _ _=>trivial⟩,h.port,h.ps.kq h1,h.hs.kq h2⟩
def ftB(n:Nat):Bool:=decide (n≤2147483647)
def ftK(x:Tx×Tx):Bool:=ftB x.1.length&&ftB x.2.length
def Is(l:KVs):Bool:=ftB l.length&&l.all ftK
def ftU(u:PU):Bool:=ftB u.scheme.length&&(ftB u.raw.length&&(ftB u.user.length&&(ftB u.pass.length&&(ftB u.host.length&&(Is u.ps&&Is u.hs)))))
theorem D5{n:Nat}(h:ftB n=true):decide ((2147483647:Int)<(n:Int))=false:=by
 unfold ftB at h;have:=of_decide_eq_true h;exact decide_eq_false (by omega)
theorem D6{n:Nat}(h:ftB n=false):decide ((2147483647:Int)<(n:Int))=true:=by
 unfold ftB at h;have:=of_decide_eq_false h;exact decide_eq_true (by omega)
theorem MD{n:Nat}(h:ftB n=true):n≤2147483647:=of_decide_eq_true h
theorem KR(w:World)(x y:Value)(a b:Tx)(r:Bool)(hr:ftK (a,b)=r)(hx:Bv w x a)(hy:Bv w y b):
 Calls Tryz.prog 29 #[.agg #[x,y]] w fun e w'=>e= .returned (.bool r)∧Le w w':=by
 obtain⟨A,c,rfl⟩:=hx.form;obtain⟨A',c',rfl⟩:=hy.form;have hr':(ftB a.length&&ftB b.length)=r:=hr;clear hx hy hr;obtain⟨r1,h1⟩:∃r,ftB a.length=r:=⟨_,rfl⟩;obtain⟨r2,h2⟩:∃r,ftB b.length=r:=⟨_,rfl⟩;rw[h1,h2]at hr';subst hr';cases r1
 ·have g1:=D6 h1;clear h1 h2;go_enter Tryz.func29,Tryz.ntmps29;go_wp2;go_ret;exact⟨rfl,(AC w).alloc _⟩
 ·have g1:=D5 h1;cases r2
  ·have g2:=D6 h2;clear h1 h2;go_enter Tryz.func29,Tryz.ntmps29;go_wp2;go_ret;exact⟨rfl,(AC w).alloc _⟩
  ·have g2:=D5 h2;clear h1 h2;go_enter Tryz.func29,Tryz.ntmps29;go_wp2;go_ret;exact⟨rfl,(AC w).alloc _⟩
theorem FP(w:World)(v:Value)(l:KVs)(r:Bool)(hr:Is l=r)(hv:Kw w v l):
 Calls Tryz.prog 13 #[v] w fun e w'=>e= .returned (.bool r)∧Le w w':=by
 have HV:=Hi hv;obtain⟨A,c,rfl⟩:=hv.form;have hl:l.length≤140737488355328:=by obtain⟨_,_,_,_,_,h,_⟩:=hv;exact h
 have HR:=Hi hr;clear hv hr;obtain⟨r1,h1⟩:∃r,ftB l.length=r:=⟨_,rfl⟩;cases r1
 ·have g1:=D6 h1;have HX:Hid (r=false):=Hi (by rw[←HR.out];unfold Is;rw[h1];rfl);clear h1;go_enter Tryz.func13,Tryz.ntmps13;go_wp2;go_ret;exact⟨by rw[HX.out];rfl,AC w⟩
 have g1:=D5 h1;have H1:=Hi h1;clear h1;go_enter Tryz.func13,Tryz.ntmps13;go_wp2
 go_loopg [10] (l.length) (fun n i wr=>∃k:Nat,n+k=l.length∧i= .int .i64 k∧Le w wr∧(l.take k).all ftK=true)
 case atStart=>exact⟨0,by omega,rfl,AC w,rfl⟩
 case round=>
  obtain⟨k,hn,rfl,hle,hq⟩:=hrel;have HQ:=Hi hq;have HL:=Hi hle;have HN:gk+k≤l.length∧l.length≤gk+k:=by omega
  have hsz:=hle.size;clear hn hq;by_cases hlt:k<l.length
  ·obtain⟨g,o,rfl,x,y,d1',d2',X,Y⟩:=HV.out.at_ hlt;have d1:=hle.cell d1';have d2:=hle.cell d2';have X2:=Hi ((X.out.le hle).le ((AC wr).alloc (Obj.cells #[x,y] 69)));have Y2:=Hi ((Y.out.le hle).le ((AC wr).alloc (Obj.cells #[x,y] 69)));obtain⟨A1,c1,rfl⟩:=X.out.form;obtain⟨A2,c2,rfl⟩:=Y.out.form;obtain⟨r2,h2⟩:∃r,ftK l[k]=r:=⟨_,rfl⟩;have H2:=Hi h2;clear hle d1' d2' X Y h2
   go_wp2_with fail
   refine(KR _ _ _ l[k].1 l[k].2 r2 H2.out X2.out Y2.out).mono ?_;rintro e w' ⟨rfl,hle'⟩;have HLE':Hid (Le w w'):=Hi (Le.trans (HL.out.alloc _) hle');clear hle';cases r2
   ·have HX:Hid (r=false):=Hi (by
     rw[←HR.out];unfold Is;rw[List.all_eq_false.2 ⟨l[k],List.getElem_mem hlt,by rw[H2.out];simp⟩,Bool.and_false])
    go_wp2;go_ret;exact⟨by rw[HX.out];rfl,HLE'.out⟩
   ·have HX:Hid ((l.take (k+1)).all ftK=true):=Hi (by rw[List.take_succ_eq_append_getElem hlt,List.all_append,HQ.out];simpa using H2.out);go_wp2;go_roundg (gk-1)
    case measure=>omega
    case rel=>exact⟨k+1,by omega,by go_num,HLE'.out,HX.out⟩
  ·have HX:Hid (r=true):=Hi (by
    have:=HQ.out;rw[List.take_of_length_le (by omega)]at this;rw[←HR.out];unfold Is;rw[H1.out,this];rfl)
   clear hle;go_wp2;go_ret;exact⟨by rw[HX.out];rfl,HL.out⟩
theorem KS(w:World)(x:UV)(u:PU)(r:Bool)(hr:ftU u=r)(hx:Uw w x u):
 Calls Tryz.prog 12 #[x.val] w fun e w'=>e= .returned (.bool r)∧Le w w':=by
 have HX:=Hi hx;have HR:=Hi hr;obtain⟨Ascheme,cscheme,escheme⟩:=hx.scheme.form;obtain⟨Araw,craw,eraw⟩:=hx.raw.form;obtain⟨Auser,cuser,euser⟩:=hx.user.form;obtain⟨Apass,cpass,epass⟩:=hx.pass.form;obtain⟨Ahost,chost,ehost⟩:=hx.host.form;obtain⟨Aps,cps,eps⟩:=hx.ps.form;obtain⟨Ahs,chs,ehs⟩:=hx.hs.form
 have hval:x.val= .agg #[.slice Ascheme u.scheme.length cscheme,.slice Araw u.raw.length craw,.bool x.wild,.bool x.slash,.slice Auser u.user.length cuser,.slice Apass u.pass.length cpass,.slice Ahost u.host.length chost,.int .i64 x.port,.slice Aps u.ps.length cps,.slice Ahs u.hs.length chs]:=by
  unfold UV.val;rw[escheme,eraw,euser,epass,ehost,eps,ehs]
 have HE:=Hi (⟨eps,ehs⟩:_∧_);rw[hval];clear hval hx hr escheme eraw euser epass ehost eps ehs;obtain⟨rscheme,hscheme⟩:∃r,ftB u.scheme.length=r:=⟨_,rfl⟩;cases rscheme
 ·have gscheme:=D6 hscheme;have HF:Hid (r=false):=Hi (by rw[←HR.out];unfold ftU;rw[hscheme];simp);clear hscheme;go_enter Tryz.func12,Tryz.ntmps12;go_wp2;go_ret;exact⟨by rw[HF.out];rfl,(AC w).alloc _⟩
 have gscheme:=D5 hscheme;have Hscheme:=Hi hscheme;clear hscheme;obtain⟨rraw,hraw⟩:∃r,ftB u.raw.length=r:=⟨_,rfl⟩;cases rraw
 ·have graw:=D6 hraw;have HF:Hid (r=false):=Hi (by rw[←HR.out];unfold ftU;rw[hraw];simp);clear hraw;go_enter Tryz.func12,Tryz.ntmps12;go_wp2;go_ret;exact⟨by rw[HF.out];rfl,(AC w).alloc _⟩
 have graw:=D5 hraw;have Hraw:=Hi hraw;clear hraw;obtain⟨ruser,huser⟩:∃r,ftB u.user.length=r:=⟨_,rfl⟩;cases ruser
 ·have guser:=D6 huser;have HF:Hid (r=false):=Hi (by rw[←HR.out];unfold ftU;rw[huser];simp);clear huser;go_enter Tryz.func12,Tryz.ntmps12;go_wp2;go_ret;exact⟨by rw[HF.out];rfl,(AC w).alloc _⟩
 have guser:=D5 huser;have Huser:=Hi huser;clear huser;obtain⟨rpass,hpass⟩:∃r,ftB u.pass.length=r:=⟨_,rfl⟩;cases rpass
 ·have gpass:=D6 hpass;have HF:Hid (r=false):=Hi (by rw[←HR.out];unfold ftU;rw[hpass];simp);clear hpass;go_enter Tryz.func12,Tryz.ntmps12;go_wp2;go_ret;exact⟨by rw[HF.out];rfl,(AC w).alloc _⟩
 have gpass:=D5 hpass;have Hpass:=Hi hpass;clear hpass;obtain⟨rhost,hhost⟩:∃r,ftB u.host.length=r:=⟨_,rfl⟩;cases rhost
 ·have ghost:=D6 hhost;have HF:Hid (r=false):=Hi (by rw[←HR.out];unfold ftU;rw[hhost];simp);clear hhost;go_enter Tryz.func12,Tryz.ntmps12;go_wp2;go_ret;exact⟨by rw[HF.out];rfl,(AC w).alloc _⟩
 have ghost:=D5 hhost;have Hhost:=Hi hhost;clear hhost;go_enter Tryz.func12,Tryz.ntmps12;go_wp2_with fail
 obtain⟨rp,hrp⟩:∃r,Is u.ps=r:=⟨_,rfl⟩;have HRP:=Hi hrp;have hk1:=HX.out.ps.le ((AC w).alloc (Obj.cells #[.slice Ascheme u.scheme.length cscheme,.slice Araw u.raw.length craw,.bool x.wild,.bool x.slash,.slice Auser u.user.length cuser,.slice Apass u.pass.length cpass,.slice Ahost u.host.length chost,.int .i64 x.port,.slice Aps u.ps.length cps,.slice Ahs u.hs.length chs] 25))
 have hk2:=HX.out.hs.le ((AC w).alloc (Obj.cells #[.slice Ascheme u.scheme.length cscheme,.slice Araw u.raw.length craw,.bool x.wild,.bool x.slash,.slice Auser u.user.length cuser,.slice Apass u.pass.length cpass,.slice Ahost u.host.length chost,.int .i64 x.port,.slice Aps u.ps.length cps,.slice Ahs u.hs.length chs] 25));rw[HE.out.1]at hk1;rw[HE.out.2]at hk2
 have hb:=heap_alloc_new w (Obj.cells #[.slice Ascheme u.scheme.length cscheme,.slice Araw u.raw.length craw,.bool x.wild,.bool x.slash,.slice Auser u.user.length cuser,.slice Apass u.pass.length cpass,.slice Ahost u.host.length chost,.int .i64 x.port,.slice Aps u.ps.length cps,.slice Ahs u.hs.length chs] 25);have K2:=Hi hk2;have HB:=Hi hb;refine(FP _ _ u.ps rp hrp hk1).mono ?_
 rintro e w1 ⟨rfl,hle1⟩;have HLE1:Hid (Le w w1):=Hi (Le.trans ((AC w).alloc _) hle1);have K2':=Hi (K2.out.le hle1);have y9:w1.cell? ⟨w.heap.size,9,none⟩=some (.slice Ahs u.hs.length chs):=by rw[AB (hle1.heap HB.out) 9];rfl
 clear hk1 hk2 hb hrp hle1 K2;cases rp
 ·have HF:Hid (r=false):=Hi (by rw[←HR.out];unfold ftU;rw[HRP.out];simp);go_wp2;go_ret;exact⟨by rw[HF.out];rfl,HLE1.out⟩
 go_wp2_with fail
 obtain⟨rh,hrh⟩:∃r,Is u.hs=r:=⟨_,rfl⟩;have HRH:=Hi hrh;refine(FP _ _ u.hs rh hrh K2'.out).mono ?_;rintro e w2 ⟨rfl,hle2⟩;have HLE2:Hid (Le w w2):=Hi (Le.trans HLE1.out hle2);clear hrh hle2 y9;cases rh
 ·have HF:Hid (r=false):=Hi (by rw[←HR.out];unfold ftU;rw[HRH.out];simp);go_wp2;go_ret;exact⟨by rw[HF.out];rfl,HLE2.out⟩
 have HF:Hid (r=true):=Hi (by rw[←HR.out];unfold ftU;rw[Hscheme.out,Hraw.out,Huser.out,Hpass.out,Hhost.out,HRP.out,HRH.out];rfl);go_wp2;go_ret;exact⟨by rw[HF.out];rfl,HLE2.out⟩
theorem Hh{u:PU}(h:ftU u=true):ftB u.scheme.length=true∧ftB u.raw.length=true∧ftB u.user.length=true∧ftB u.pass.length=true∧ftB u.host.length=true∧Is u.ps=true∧Is u.hs=true:=by
 unfold ftU at h;simp only[Bool.and_eq_true]at h;exact h
theorem Cn{l:KVs}(h:Is l=true):l.length≤2147483647∧∀z∈l,z.1.length≤2147483647∧z.2.length≤2147483647:=by
 unfold Is at h;simp only[Bool.and_eq_true]at h;refine⟨MD h.1,fun z hz=>?_⟩;have:=List.all_eq_true.1 h.2 z hz;unfold ftK at this;simp only[Bool.and_eq_true]at this;exact⟨MD this.1,MD this.2⟩
end Go.Proofs.YtejhpdcjafbklaaGreatDoor
namespace Go.Proofs.YtejhpdcjafbklaaGreatDoor
open Go.RowKit
end Go.Proofs.YtejhpdcjafbklaaGreatDoor
namespace Go.Proofs.YtejhpdcjafbklaaGreatDoor
open Go.RowKit
end Go.Proofs.YtejhpdcjafbklaaGreatDoor
namespace Go.Proofs.YtejhpdcjafbklaaGreatDoor
open Go.ChangeShapes Go.WideShapes Go.ChangeAt Go.RowKit
theorem cSl:Tryz.prog.cellsOf 22=1:=by kernel_rfl
theorem cKv:Tryz.prog.cellsOf 69=2:=by kernel_rfl
theorem cKs:Tryz.prog.cellsOf 23=1:=by kernel_rfl
theorem cIn:Tryz.prog.cellsOf 3=1:=by kernel_rfl
theorem cUri:Tryz.prog.cellsOf 25=10:=by kernel_rfl
theorem bKv:Tryz.prog.bytesOf 69=48:=by kernel_rfl
theorem Qv{α:Type}{l:List α}(h:l.length=10):∃a b c d e f g i j k,l=[a,b,c,d,e,f,g,i,j,k]:=by
 match l,h with
 |[a,b,c,d,e,f,g,i,j,k],_=>exact⟨a,b,c,d,e,f,g,i,j,k,rfl⟩
theorem PK{α:Type}{P:Nat→α→Prop}:∀(n:Nat),(∀i,i<n→∃z,P i z)→∃l:List α,l.length=n∧∀i (h:i<l.length),P i l[i]:=by
 intro n;induction n with
 |zero=>intro _;exact⟨[],rfl,fun i h=>absurd h (by simp)⟩
 |succ n ih=>
  intro h;obtain⟨l,hl,hp⟩:=ih (fun i hi=>h i (by omega));obtain⟨z,hz⟩:=h n (by omega);refine⟨l++[z],by simp[hl],fun i hi=>?_⟩;by_cases hlt:i<l.length
  ·rw[List.getElem_append_left hlt];exact hp i hlt
  ·have e:i=l.length:=by simp at hi;omega
   subst e;rw[List.getElem_append_right (NL _)];simpa[hl]using hz
section
variable {H:Type} {enc:TypeId×Value→H}
theorem GC{P:Program}{e:TypeId}{d:DataW H}:∀{l:List (DataW H)},d∈l→∀n∈d.weights P e,n∈DataW.weightsAll P e l:=by
 intro l;induction l with
 |nil=>intro h;cases h
 |cons x r ih=>
  intro h n hn;rw[DataW.weightsAll,List.mem_append];rcases List.mem_cons.1 h with rfl|h
  ·exact .inl hn
  ·exact .inr (ih h n hn)
theorem IM{W:World}{held:Bool}{fuel:Nat}{v:Value}{x:DataW H×List MemPlace}(hf:DataW.trod enc Tryz.prog W 0 (fun _=>true) held fuel 23 [v]=some x)
 (hw:(x.1.weights Tryz.prog 23).all (·≤reachBytes)=true):∃l,Kw W v l:=by
 rcases DataW.trod_slice Tryz.underlying23 hf with⟨hcs,hx⟩|⟨a,len,cap,elems,rest,n,rfl,hcs,hx,hb,hl,hm,hlen,hel,hsp,hns⟩
 ·injection hcs with e
  subst e;exact⟨[],none,0,rfl,NL _,by decide,by decide,fun h=>absurd h (by decide)⟩
 ·injection hcs with e
  subst e;have hr:reachBytes=140737488351232:=rfl;have hmx:maxLen=9223372036854775807:=rfl
  have hw':∀n∈(DataW.slice (H:=H) (elems.map (·.1)) (rest.map (·.1))).weights Tryz.prog 23,n≤reachBytes:=by
   rw[hx]at hw;intro n hn;exact of_decide_eq_true (List.all_eq_true.1 hw n hn)
  have hwe:(DataW.slice (H:=H) (elems.map (·.1)) (rest.map (·.1))).weights Tryz.prog 23=((elems.map (·.1)).length+(rest.map (·.1)).length)*Tryz.prog.bytesOf 69::(DataW.weightsAll Tryz.prog 69 (elems.map (·.1))++DataW.weightsAll Tryz.prog 69 (rest.map (·.1))):=by
   simp only[DataW.weights,Tryz.underlying23]
  rw[hwe]at hw';have hbig:=hw' _ (List.mem_cons_self ..);rw[bKv,List.length_map,List.length_map]at hbig;rcases Nat.eq_zero_or_pos len with h0|hz
  ·exact⟨[],some a,cap,by simp only[LN];rw[h0],by simp,by omega,by simp,fun h=>absurd h (by simp)⟩
  have hsp0:a.spot=none:=by
   have h1:=hel 0 hz;rw[cKv,List.getElem?_eq_getElem (show 0<elems.length by omega)]at h1;obtain⟨cs,hc,_⟩:=Option.bind_eq_some_iff.1 h1;obtain⟨_,hcl,hcc⟩:=World.cells?_some hc;obtain⟨c0,c1,rfl⟩:=PL hcl;simpa[Addr.add]using World.cell?_spot (hcc 0 (by omega))
  obtain⟨b,o,spot⟩:=a;have hspot:spot=none:=hsp0;subst hspot;have each:∀i,i<len→∃z:Tx×Tx,∃c0 c1,W.cell? ⟨b,o+i*2,none⟩=some c0∧W.cell? ⟨b,o+i*2+1,none⟩=some c1∧Bv W c0 z.1∧Bv W c1 z.2:=by
   intro i hi;have h1:=hel i hi;rw[cKv,List.getElem?_eq_getElem (show i<elems.length by omega)]at h1;obtain⟨cs,hc,ht⟩:=Option.bind_eq_some_iff.1 h1;obtain⟨_,hcl,hcc⟩:=World.cells?_some hc;obtain⟨c0,c1,rfl⟩:=PL hcl;obtain⟨y0,y1,n',hx2,_,h0,h1'⟩:=ChangeShapes.trod_struct2 Tryz.underlying69 ht;have t0:([c0,c1].drop 0).take (Tryz.prog.cellsOf 22)=[c0]:=by rw[cSl];rfl
   have t1:([c0,c1].drop 1).take (Tryz.prog.cellsOf 22)=[c1]:=by rw[cSl];rfl
   have g0:DataW.trod enc Tryz.prog W 0 (fun _=>true) held n' 22 [c0]=some y0:=by rw[←t0];exact h0
   have g1:DataW.trod enc Tryz.prog W 0 (fun _=>true) held n' 22 [c1]=some y1:=by rw[←t1];exact h1'
   have hm2:∀n∈(DataW.agg (H:=H) [y0.1,y1.1]).weights Tryz.prog 69,n≤reachBytes:=by
    intro n hn;refine hw' n (List.mem_cons_of_mem _ (List.mem_append_left _ (GC (d:=DataW.agg [y0.1,y1.1]) ?_ n hn)));refine List.mem_map.2 ⟨elems[i],List.getElem_mem _,?_⟩;rw[hx2]
   have he2:(DataW.agg (H:=H) [y0.1,y1.1]).weights Tryz.prog 69=DataW.weightsEach Tryz.prog [22,22] [y0.1,y1.1]:=by
    simp only[DataW.weights,Tryz.underlying69];rfl
   rw[he2]at hm2;obtain⟨l0,hl0⟩:=CL g0 (List.all_eq_true.2 fun n hn=>decide_eq_true (hm2 n (DataW.weights_mem_each (j:=0) rfl rfl n hn)));obtain⟨l1,hl1⟩:=CL g1 (List.all_eq_true.2 fun n hn=>decide_eq_true (hm2 n (DataW.weights_mem_each (j:=1) rfl rfl n hn)));have k0:=hcc 0 (by omega);have k1:=hcc 1 (by omega);rw[add_plain,add_plain]at k0 k1;exact⟨(l0,l1),c0,c1,k0,k1,hl0,hl1⟩
  obtain⟨l,hll,hp⟩:=PK len each;refine⟨l,some ⟨b,o,none⟩,cap,by rw[hll],by omega,by omega,by omega,fun h0=>⟨b,o,rfl,fun j hj=>?_⟩⟩;obtain⟨c0,c1,q0,q1,q2,q3⟩:=hp j hj;exact⟨c0,c1,q0,q1,q2,q3⟩
end
end Go.Proofs.YtejhpdcjafbklaaGreatDoor
namespace Go.Proofs.YtejhpdcjafbklaaGreatDoor
open Go.RowKit
def KM(x:Tx×Tx):Tx:=x.1++(if x.2=[]then []else 61::x.2)
def ptT:KVs→UInt8→Tx
 |[],_=>[]
 |x::r,sep=>KM x++r.flatMap (fun y=>sep::KM y)
def ptP(l:KVs)(sep:UInt8)(k:Nat):Tx:=ptT (l.take k) sep
theorem JR{l:KVs}{sep:UInt8}{k:Nat}(h:k<l.length):ptP l sep (k+1)=ptP l sep k++((if 0<k then [sep]else [])++KM l[k]):=by
 unfold ptP;rw[List.take_succ_eq_append_getElem h];cases k with
 |zero=>simp[ptT]
 |succ k=>
  cases l with
  |nil=>simp at h
  |cons x r=>
   simp only[List.take_succ_cons,List.cons_append,ptT,List.flatMap_append,List.flatMap_cons,List.flatMap_nil,List.append_nil];rw[if_pos (by omega)];simp[List.append_assoc]
theorem II(l:KVs)(sep:UInt8):ptP l sep l.length=ptT l sep:=by unfold ptP;rw[List.take_length]
theorem M0(x:Tx×Tx):(KM x).length≤x.1.length+x.2.length+1:=by
 unfold KM;rw[LA];split
 ·simp;omega
 ·rw[LC];omega
theorem O6{l:KVs}{sep:UInt8}{N:Nat}(hx:∀x∈l,x.1.length+x.2.length≤N):∀k,k≤l.length→(ptP l sep k).length≤k*(N+2):=by
 intro k;induction k with
 |zero=>intro _;simp[ptP,ptT]
 |succ k ih=>
  intro hk;have h1:=ih (by omega);rw[JR (by omega),LA,LA];have h2:=M0 (l[k]'(by omega));have h3:=hx (l[k]'(by omega)) (List.getElem_mem _);have h4:(if 0<k then [sep]else([]:Tx)).length≤1:=by split<;>simp
  rw[Nat.succ_mul];omega
def QA(w:World)(u:PU)(e:Ending)(w':World):Prop:=
 ∃(r:PU) (q:Option PU) (pv hv:Value),e= .returned (.agg (r.cells pv hv))∧Hp w' pv r.ps∧Hp w' hv r.hs∧r.small∧KN (u.scheme++58::u.raw) PU.zero q∧(∀v,q=some v→r=v)∧Le w w'
theorem st3(a b:Tx):st a++⟨#[58]⟩++st b=st (a++58::b):=by
 rw[show(⟨#[58]⟩:ByteArray)=st [58]from rfl,GG,GG,List.append_assoc];rfl
theorem Hs{w:World}{u:PU}{pv hv:Value}(h1:Hp w pv u.ps)(h2:Hp w hv u.hs):(u.cells pv hv).all (·.oneCell')=true:=by
 obtain⟨A,c,rfl,_⟩:=h1;obtain⟨A',c',rfl,_⟩:=h2;unfold PU.cells;simp only[List.all_toArray,List.all_cons,List.all_nil];rfl
def Jo:Array Value:= #[.string ⟨#[]⟩,.string ⟨#[]⟩,.bool false,.bool false,.string ⟨#[]⟩,.string ⟨#[]⟩,.string ⟨#[]⟩,.int .i64 0,.slice none 0 0,.slice none 0 0]
theorem Hu(φ:Nat→Prop)(w:World)(x:UV)(u:PU)(hx:Uq φ w x u)(hr:u.raw≠[])(hL:BW w)(hlen:(u.scheme++58::u.raw).length≤1099511627000):
 Calls Tryz.prog 42 #[x.val] w (QA w u):=by
 have HX:=Hi hx;have HL:=Hi hL;have HLEN:=Hi hlen;have hone:=hx.one;have hraw:0<u.raw.length:=List.length_pos_iff.2 hr;obtain⟨rA,rc,er⟩:∃A c,x.raw= .slice A u.raw.length c:=by obtain⟨⟨A,c,e,_⟩,_⟩:=hx.raw;exact⟨A,c,e⟩
 obtain⟨sA,sn,sc,es⟩:∃A n c,x.scheme= .slice A n c:=by obtain⟨⟨A,c,e,_⟩,_⟩:=hx.scheme;exact⟨A,_,c,e⟩
 obtain⟨uA,un,uc,eu⟩:∃A n c,x.user= .slice A n c:=by obtain⟨⟨A,c,e,_⟩,_⟩:=hx.user;exact⟨A,_,c,e⟩
 obtain⟨pA,pn,pc,ep⟩:∃A n c,x.pass= .slice A n c:=by obtain⟨⟨A,c,e,_⟩,_⟩:=hx.pass;exact⟨A,_,c,e⟩
 obtain⟨hA,hn,hc,eh⟩:∃A n c,x.host= .slice A n c:=by obtain⟨⟨A,c,e,_⟩,_⟩:=hx.host;exact⟨A,_,c,e⟩
 obtain⟨kA,kn,kc,ek⟩:∃A n c,x.ps= .slice A n c:=by obtain⟨A,c,e,_⟩:=hx.ps;exact⟨A,_,c,e⟩
 obtain⟨jA,jn,jc,ej⟩:∃A n c,x.hs= .slice A n c:=by obtain⟨A,c,e,_⟩:=hx.hs;exact⟨A,_,c,e⟩
 have hval:x.val= .agg #[.slice sA sn sc,.slice rA u.raw.length rc,.bool x.wild,.bool x.slash,.slice uA un uc,.slice pA pn pc,.slice hA hn hc,.int .i64 x.port,.slice kA kn kc,.slice jA jn jc]:=by
  unfold UV.val;rw[es,er,eu,ep,eh,ek,ej]
 obtain⟨W3,hW3,hW3e⟩:∃W3,W3=((w.alloc (Obj.cells #[.slice sA sn sc,.slice rA u.raw.length rc,.bool x.wild,.bool x.slash,.slice uA un uc,.slice pA pn pc,.slice hA hn hc,.int .i64 x.port,.slice kA kn kc,.slice jA jn jc] 25)).alloc (Obj.cells Jo 84)).alloc (Obj.cells Jo 84)∧Le w W3:=⟨_,rfl,(((AC w).alloc _).alloc _).alloc _⟩
 have q1:=BT (P:=Tryz.prog) Tryz.underlying22 Tryz.underlying5 Tryz.underlying9 (hx.scheme.1.le hW3e);have q2:=BT (P:=Tryz.prog) Tryz.underlying22 Tryz.underlying5 Tryz.underlying9 (hx.raw.1.le hW3e);rw[es]at q1;rw[er]at q2;have b1:W3.heap[w.heap.size+1]? =some (.cells Jo 84 (0,0)):=by
  rw[hW3];exact(Below.heap_alloc _ _ _ (by simp)).trans (heap_alloc2_new w _ _)
 have b2:W3.heap[w.heap.size+2]? =some (.cells Jo 84 (0,0)):=by
  rw[hW3];have:=heap_alloc_new ((w.alloc (Obj.cells #[.slice sA sn sc,.slice rA u.raw.length rc,.bool x.wild,.bool x.slash,.slice uA un uc,.slice pA pn pc,.slice hA hn hc,.int .i64 x.port,.slice kA kn kc,.slice jA jn jc] 25)).alloc (Obj.cells Jo 84)) (Obj.cells Jo 84);simpa using this
 have hsz3:w.heap.size+3≤W3.heap.size:=by rw[hW3];simp
 have HB1:=Hi b1;have HLE3:=Hi hW3e;have hua:UAt W3 (w.heap.size+2) PU.zero:=⟨.slice none 0 0,.slice none 0 0,b2,Hp.nil _,Hp.nil _,by unfold PU.small PU.zero;simp⟩;have hlu:Ea (w.heap.size+2) W3:=⟨w,hL,hW3e,by omega⟩;have HCALL:=Hi (QX (st (u.scheme++58::u.raw)) (w.heap.size+2) PU.zero W3 hua (by rw[AF];exact hlen) hlu)
 have s1:(st u.scheme).size≤1099511627000:=by rw[AF];simp only[LA,LC]at hlen;omega
 have s2:(st u.raw).size≤1099511627000:=by rw[AF];simp only[LA,LC]at hlen;omega
 rw[hval];clear hval hx hL hlen hone es er eu ep eh ek ej hr hW3e b1 b2 hua hlu hsz3;subst hW3;unfold Jo at q1 q2;go_enter Tryz.func42,Tryz.ntmps42;go_wp2_with fail
 rw[st3];refine HCALL.out.mono ?_;rw[AV];rintro e w2 ⟨hkp2,hor⟩;obtain⟨r,q,hua2,hpt,hq⟩:∃r q,UAt w2 (w.heap.size+2) r∧KN (u.scheme++58::u.raw) PU.zero q∧(∀v,q=some v→r=v):=by
  rcases hor with⟨v,h1,_,h3⟩|⟨h1,T,a,v,_,h3⟩
  ·exact⟨v,some v,h3,h1,fun v' hv=>by injection hv⟩
  ·exact⟨v,none,h3,h1,fun v' hv=>by cases hv⟩
 obtain⟨e0,rfl⟩:∃e0,e= .returned e0:=by
  rcases hor with⟨v,_,h2,_⟩|⟨_,T,a,v,h2,_⟩<;>exact⟨_,h2⟩
 have HB1':Hid (w2.heap[w.heap.size+1]? =some (.cells Jo 84 (0,0))):=Hi (hkp2.heap (by omega) HB1.out);have HLE2:Hid (Le w w2):=Hi (Below.trans HLE3.out (hkp2.below (by omega) HLE3.out.size));obtain⟨pv,hv,hb,hp,hh,hsm⟩:=hua2;have HB:=Hi hb;have HP:=Hi hp;have HH:=Hi hh;have HSM:=Hi hsm;have HPT:=Hi hpt;have HQ:=Hi hq;have HONE:=Hi (Hs hp hh)
 clear hb hp hh hsm hpt hq hor hkp2 q1 q2;go_wp2_with (first|(refine wpList_load_row rfl 84 (.tmp 3) rfl (w.heap.size+2) rfl 84 (r.cells pv hv) (0,0) _ HB.out Tryz.underlying84 rfl BZ ?_)|(refine Ag rfl 84 (.tmp 2) (.tmp 17) rfl (w.heap.size+1) (r.cells pv hv) rfl rfl 84 Jo HB1'.out BZ rfl HONE.out ?_))
 intro WZ hz hkz;have HZ:=Hi hz;have HLZ:Hid (Le w WZ):=Hi (Below.trans HLE2.out (hkz.below (by omega) HLE2.out.size));have HPZ:=Hi (HP.out.kp hkz HB1'.out (by decide));have HHZ:=Hi (HH.out.kp hkz HB1'.out (by decide));clear hz hkz;go_wp2
 (try simp only[Exit.inBlock,Exit.then])
 refine bodyPost_ret (results_cell_row rfl _ _ (w.heap.size+1) 84 _ (0,0) _ rfl HZ.out Tryz.underlying84 rfl BZ) rfl ?_;exact⟨r,q,pv,hv,rfl,HPZ.out,HHZ.out,HSM.out,HPT.out,HQ.out,HLZ.out⟩
theorem ME(w:World)(x y:Value)(lx ly:Tx)(b:Bool)(h:decide (lx=ly)=b)(hx:Bv w x lx)(hy:Bv w y ly):
 Calls Tryz.prog 11 #[x,y] w fun e w'=>e= .returned (.bool b)∧Le w w':=
 (Ct w x y lx ly b h hx hy).mono fun e w' ⟨h1,m,h2⟩=>⟨h1,h2▸(AC w).drewN m⟩
end Go.Proofs.YtejhpdcjafbklaaGreatDoor
