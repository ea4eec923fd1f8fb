/- The law FnHeadWritten: HwV HwU HwW HwY Hvy. -/
import Derived.Lib.LazyBuf
import Derived.IntWalk
import Derived.Test.YtejhpdcjafbklaaGreatDoorHwQ
set_option linter.all false
set_option maxHeartbeats 16000000
set_option maxRecDepth 100000
namespace Go.Proofs.YtejhpdcjafbklaaGreatDoor
open Go.RowKit
def vaS(b bs rs:Nat)(A1 A2:Option Addr)(m1 c1 m2 c2:Nat)(X1:Tx):Nat→Value→World→Prop
 |1,v,_=>v= .pointer (some ⟨b,0,none⟩)
 |4,v,_=>v= .pointer (some ⟨b,16,none⟩)
 |5,v,_=>v= .slice A1 m1 c1
 |6,v,w_=>AY bs w_ v (X1)
 |7,v,w_=>AY rs w_ v [47]
 |8,v,w_=>AY bs w_ v ((X1)++[47])
 |9,v,_=>v= .pointer (some ⟨b,17,none⟩)
 |10,v,_=>v= .slice A2 m2 c2
 |_,_,_=>True
theorem QM(b bs rs:Nat)(A1 A2:Option Addr)(m1 c1 m2 c2:Nat)(X1:Tx)(t:Nat)(v:Value)(w1 w2:World)(k:Le w1 w2)(h:vaS b bs rs A1 A2 m1 c1 m2 c2 X1 t v w1):vaS b bs rs A1 A2 m1 c1 m2 c2 X1 t v w2:=by
 unfold vaS at h⊢;split at h<;>first|exact h|exact AY.le h k
def vbS(b bs rs:Nat)(AO A3:Option Addr)(n2 co m3 c3:Nat)(T2 X3:Tx):Nat→Value→World→Prop
 |1,v,_=>v= .pointer (some ⟨b,0,none⟩)
 |3,v,_=>v=(.slice AO n2 co)
 |12,v,_=>v=(.slice AO n2 co)
 |13,v,w_=>AY rs w_ v [47]
 |14,v,w_=>AY bs w_ v (T2++[47])
 |15,v,_=>v= .pointer (some ⟨b,18,none⟩)
 |16,v,_=>v= .slice A3 m3 c3
 |17,v,w_=>AY bs w_ v ((T2++[47])++X3)
 |18,v,w_=>AY rs w_ v [32]
 |_,_,_=>True
theorem Nv(b bs rs:Nat)(AO A3:Option Addr)(n2 co m3 c3:Nat)(T2 X3:Tx)(t:Nat)(v:Value)(w1 w2:World)(k:Le w1 w2)(h:vbS b bs rs AO A3 n2 co m3 c3 T2 X3 t v w1):vbS b bs rs AO A3 n2 co m3 c3 T2 X3 t v w2:=by
 unfold vbS at h⊢;split at h<;>first|exact h|exact AY.le h k
def vcS(b:Nat)(g:Option Nat)(base:Nat)(old lv:Value)(T X:Tx):Nat→Value→World→Prop
 |1,v,_=>v= .pointer (some ⟨b,0,none⟩)
 |3,v,_=>v=old
 |31,v,_=>v=old
 |32,v,w=>BvN g w v [59]
 |33,v,w=>AY base w v (T++[59])
 |34,v,_=>v= .pointer (some ⟨b,14,none⟩)
 |35,v,_=>v=lv
 |36,v,w=>BvN g w v X
 |_,_,_=>True
theorem Nu(b:Nat)(g:Option Nat)(base:Nat)(old lv:Value)(T X:Tx)(t:Nat)(v:Value)(w w':World)(k:Le w w')(h:vcS b g base old lv T X t v w):vcS b g base old lv T X t v w':=by
 unfold vcS at h⊢;split at h<;>first|exact h|exact BvN.le h k|exact AY.le h k
theorem QL(b:Nat)(g:Option Nat)(base:Nat)(old lv:Value)(T X:Tx)(t:Nat)(v:Value)(w w':World)(k:w.grownBy w' g)(ht:some 33≠some t)(h:vcS b g base old lv T X t v w):vcS b g base old lv T X t v w':=by
 unfold vcS at h⊢;split at h<;>first|exact h|exact BvN.grown h k|exact absurd rfl ht
theorem Ou(ψ:Nat→Prop)(x:HV)(p:PH)(w:World)(hx:Hz ψ w x p)(hs:HSz p):
 Calls Tryz.prog 49 #[x.val] w fun e w'=>∃v,e= .returned v∧AY w.heap.size w' v (KV p)∧Le w w':=by
 obtain⟨xt,xn,xx,xd,xu,xp,xm,x1,x2,x3,x4,xo⟩:=x;obtain⟨A1,c1,rfl⟩:=(show Bv w x1 p.proto from hx.proto).form;obtain⟨A2,c2,rfl⟩:=(show Bv w x2 p.ver from hx.ver).form;obtain⟨A3,c3,rfl⟩:=(show Bv w x3 p.tr from hx.tr).form;obtain⟨A4,c4,rfl⟩:=(show Bv w x4 p.host from hx.host).form;obtain⟨Aq,cq,rfl⟩:∃A c,xp= .slice A p.ps.length c:=by obtain⟨A,c,e,_⟩:=hx.ps;exact⟨A,c,e⟩
 have HPX:Hid (xo=p.port):=Hi hx.port;have HPO:Hid (xo≤9223372036854775807):=Hi (by rw[HPX.out];exact hs.hi);have HX:=Hi hx;have HS:=Hi hs;clear hx hs
 change Calls _ _ #[.agg #[.int .i64 xt,xn,xx,xd,xu.scheme,xu.raw,.bool xu.wild,.bool xu.slash,xu.user,xu.pass,xu.host,.int .i64 xu.port,xu.ps,xu.hs,.slice Aq p.ps.length cq,.int .u32 xm,.slice A1 p.proto.length c1,.slice A2 p.ver.length c2,.slice A3 p.tr.length c3,.slice A4 p.host.length c4,.int .i64 xo]] _ _;go_enter Tryz.func49,Tryz.ntmps49;go_upto_region 1 with fail
 change Code.wp _ _ _ _ (w.alloc (Obj.cells (HV.row ⟨xt,xn,xx,xd,xu,.slice Aq p.ps.length cq,xm,.slice A1 p.proto.length c1,.slice A2 p.ver.length c2,.slice A3 p.tr.length c3,.slice A4 p.host.length c4,xo⟩) 37))
 have HB:=Hi (heap_alloc_new w (Obj.cells (HV.row ⟨xt,xn,xx,xd,xu,.slice Aq p.ps.length cq,xm,.slice A1 p.proto.length c1,.slice A2 p.ver.length c2,.slice A3 p.tr.length c3,.slice A4 p.host.length c4,xo⟩) 37))
 have HL0:Hid (Le w (w.alloc (Obj.cells (HV.row ⟨xt,xn,xx,xd,xu,.slice Aq p.ps.length cq,xm,.slice A1 p.proto.length c1,.slice A2 p.ver.length c2,.slice A3 p.tr.length c3,.slice A4 p.host.length c4,xo⟩) 37))):=Hi ((AC w).alloc _)
 generalize w.alloc (Obj.cells (HV.row ⟨xt,xn,xx,xd,xu,.slice Aq p.ps.length cq,xm,.slice A1 p.proto.length c1,.slice A2 p.ver.length c2,.slice A3 p.tr.length c3,.slice A4 p.host.length c4,xo⟩) 37)=W0 at HB HL0⊢;obtain⟨b,hb⟩:∃b,b=w.heap.size:=⟨_,rfl⟩;rw[←hb]at HB⊢;clear hb;have HC1:Hid (W0.cell? ⟨b,16,none⟩=some (.slice A1 p.proto.length c1)):=Hi (AB HB.out 16)
 have HC2:Hid (W0.cell? ⟨b,17,none⟩=some (.slice A2 p.ver.length c2)):=Hi (AB HB.out 17);have HC3:Hid (W0.cell? ⟨b,18,none⟩=some (.slice A3 p.tr.length c3)):=Hi (AB HB.out 18);have HC4:Hid (W0.cell? ⟨b,19,none⟩=some (.slice A4 p.host.length c4)):=Hi (AB HB.out 19);have HC5:Hid (W0.cell? ⟨b,20,none⟩=some (.int .i64 xo)):=Hi (AB HB.out 20)
 have HB1:Hid (Bv W0 (.slice A1 p.proto.length c1) p.proto):=Hi (HX.out.proto.le HL0.out);have HB2:Hid (Bv W0 (.slice A2 p.ver.length c2) p.ver):=Hi (HX.out.ver.le HL0.out);have HB3:Hid (Bv W0 (.slice A3 p.tr.length c3) p.tr):=Hi (HX.out.tr.le HL0.out);have HB4:Hid (Bv W0 (.slice A4 p.host.length c4) p.host):=Hi (HX.out.host.le HL0.out)
 have hm1:(Tryz.prog).follows .mixedOrders=true:=by kernel_rfl
 refine G4.wp_region_grow_tail (vaS b W0.heap.size W0.heap.size A1 A2 p.proto.length c1 p.ver.length c2 p.proto) (A5G W0 W0 (.slice none 0 0) [] 6 8 7 38) 39 7 [4,5,6,7,8,9,10] hm1 (by kernel_rfl) rfl rfl ?hG1 ?hold1 ?hs1 ?hend1;case hG1=>exact(A5.start (AC W0) (AY.nil _ _))
 case hold1=>
  intro t ht;simp only[List.mem_cons,List.mem_nil_iff,or_false,not_or]at ht;unfold vaS;split<;>first|exact True.intro|(exfalso;simp at ht;done)|rfl
 case hs1=>
  simp only[List.take_succ_cons,List.take_zero];refine⟨?_,?_,?_,?_,?_,?_,?_,trivial⟩
  ·refine G4.det ?_ (fun a w v h=>A5G.put h (by decide) (by decide) (by decide) (by decide));intro a W hg hop;have h1:_=_:=hq hop 1;refine⟨_,?_,rfl⟩;simp only[execOp,h1];go_simp
  ·refine G4.det ?_ (fun a w v h=>A5G.put h (by decide) (by decide) (by decide) (by decide));intro a W hg hop;have h1:_=_:=hq hop 4;have h2:W.cell? ⟨b,16,none⟩=some (.slice A1 p.proto.length c1):=hg.le.cell HC1.out;refine⟨_,?_,rfl⟩;simp only[execOp,h1];go_simp
  ·refine G4.append (.const (.slice none 0 0)) (.tmp 5) 22 rfl ?_;intro a W hz hu hg hop;have h2:Bv W (a.eval (.tmp 5)) p.proto:=by
    have h2:=hq hop 5;have h2:a.eval (.tmp 5)= .slice A1 p.proto.length c1:=h2;rw[h2];exact HB1.out.le hg.le
   have hx:a.eval (.tmp 6)=undef:=(hu 6 rfl).trans rfl;have hy:a.eval (.tmp 8)=undef:=hg.xy hx;obtain⟨v',w',q,k1,k2,k3,k4⟩:=BH hg.own h2 (by have:=HS.out.proto;simp only[LN];omega) hg.le.size 22;have kle:Le W0 w':=Below.grown' hg.le k2 (NL _) (fun g hh=>(AK hg.own g hh).1);refine⟨v',w',q,?_,fun t ht h=>?_,k1⟩
   ·have hs:=A5.setx hg kle k2 k3 k4 k1.frz k1.ne_undef;unfold A5G;rw[AR _ (by rw[hz];decide),AE _ (by simp),AE _ (by simp),AE _ (by simp)];exact hs
   ·unfold vaS at h⊢;split at h<;>first|exact h|exact AY.apart h k2 (fun g h1 h2=>by have:=hg.lo g h1;have:=(AK h g h2).1;omega)|exact absurd rfl ht|exact absurd hy (AY.ne_undef h)|exact absurd hx (AY.ne_undef h)
  ·refine G4.run ?_;intro a W hz hu hg hop;have hle:Le W (W.alloc (Obj.cells #[.int .u8 47] 5)):=(AC W).alloc _;have k1:AY W.heap.size (W.alloc (Obj.cells #[.int .u8 47] 5)) (.slice (some ⟨W.heap.size,0,none⟩) 1 1) [47]:=DK W _ 47 rfl
   refine⟨.slice (some ⟨W.heap.size,0,none⟩) 1 1,W.alloc (Obj.cells #[.int .u8 47] 5),?_,?_,fun t _ h=>QM b W0.heap.size W0.heap.size A1 A2 p.proto.length c1 p.ver.length c2 p.proto t _ _ _ hle h,k1.base hg.sz⟩
   ·simp only[execOp];go_simp
   ·have hs:=A5.setz hg hle k1.fr k1.frz;unfold A5G;rw[AE _ (by simp),AE _ (by simp),AR _ (by rw[hz];decide),AE _ (by simp)];exact hs
  ·refine G4.append (.tmp 6) (.tmp 7) 22 rfl ?_;intro a W hz hu hg hop;have h1:AY W0.heap.size W (a.eval (.tmp 6)) (p.proto):=(hq hop 6);have h2:Bv W (a.eval (.tmp 7)) [47]:=by
    have h2:=hq hop 7;exact AY.bv h2 (by decide)
   have hy:a.eval (.tmp 8)=undef:=(hu 8 rfl).trans rfl;obtain⟨v',w',q,k1,k2,k3,k4⟩:=BH h1 h2 (by have:=HS.out.proto;simp only[LC,LN];omega) hg.le.size 22;have kle:Le W0 w':=Below.grown' hg.le k2 (NL _) (fun g hh=>(AK h1 g hh).1);refine⟨v',w',q,?_,fun t ht h=>?_,k1⟩
   ·have hs:=A5.sety hg kle k2 (AY.nil _ _) h1.ne_undef (v:=v');unfold A5G;rw[AE _ (by simp),AR _ (by rw[hz];decide),AE _ (by simp),AE _ (by simp)];exact hs
   ·unfold vaS at h⊢;split at h<;>first|exact h|exact k3|exact AY.apart h k2 hg.xz|exact AY.apart h k2 hg.xt|exact absurd rfl ht|exact absurd hy (AY.ne_undef h)
  ·refine G4.det ?_ (fun a w v h=>A5G.put h (by decide) (by decide) (by decide) (by decide));intro a W hg hop;have h1:_=_:=hq hop 1;refine⟨_,?_,rfl⟩;simp only[execOp,h1];go_simp
  ·refine G4.det ?_ (fun a w v h=>A5G.put h (by decide) (by decide) (by decide) (by decide));intro a W hg hop;have h1:_=_:=hq hop 9;have h2:W.cell? ⟨b,17,none⟩=some (.slice A2 p.ver.length c2):=hg.le.cell HC2.out;refine⟨_,?_,rfl⟩;simp only[execOp,h1];go_simp
 case hend1=>
  intro s_ wz hg hS;have s8:AY W0.heap.size wz (s_ 8) (p.proto++[47]):=hS 8 (by decide);have s10:s_ 10= .slice A2 p.ver.length c2:=hS 10 (by decide);obtain⟨n8,A8,c8,e8⟩:=s8.shape;rw[e8]at s8;have HS8:=Hi s8;have HLZ:=Hi hg.le;have HB2':Hid (Bv wz (.slice A2 p.ver.length c2) p.ver):=Hi (HB2.out.le HLZ.out);clear hS hg s8
  simp only[Aj,Act.put,List.setIfInBounds_toArray,List.set_cons_zero,List.set_cons_succ,List.drop_succ_cons,List.drop_zero];rw[e8,s10];clear e8 s10
  go_upto_region 2 with(at_builtin;refine AJ rfl (.tmp 8) (.tmp 10) rfl (base:=W0.heap.size) rfl rfl HS8.out HB2'.out (by have:=HS.out.proto;have:=HS.out.ver;simp only[LA,LC,LN];omega) HLZ.out.size ?_)
  intro v2 W2 hown2 hgrow2;have HL2:Hid (Le W0 W2):=Hi (Below.grown' HLZ.out hgrow2 (NL _) (fun g hg=>(AK HS8.out g hg).1));obtain⟨T2,hT2⟩:∃T,T=p.proto++47::p.ver:=⟨_,rfl⟩;have HT2:=Hi hT2;have HO2:Hid (AY W0.heap.size W2 v2 T2):=Hi (by rw[hT2];exact hown2)
  have HN2:Hid (T2.length≤2000001):=Hi (by rw[hT2];have:=HS.out.proto;have:=HS.out.ver;simp only[LA,LC,LN];omega);obtain⟨n2,AO,co,rfl⟩:=hown2.shape;clear hown2 hgrow2 hT2;go_upto_region 2 with fail
  have hm2:(Tryz.prog).follows .mixedOrders=true:=by kernel_rfl
  refine G4.wp_region_grow_tail (vbS b W0.heap.size W2.heap.size AO A3 n2 co p.tr.length c3 T2 p.tr) (A5G W0 W2 (.slice AO n2 co) T2 14 17 18 13) 39 7 [12,13,14,15,16,17,18] hm2 (by kernel_rfl) rfl rfl ?hG2 ?hold2 ?hs2 ?hend2;case hG2=>exact(A5.start HL2.out HO2.out)
  case hold2=>
   intro t ht;simp only[List.mem_cons,List.mem_nil_iff,or_false,not_or]at ht;unfold vbS;split<;>first|exact True.intro|(exfalso;simp at ht;done)|rfl
  case hs2=>
   simp only[List.take_succ_cons,List.take_zero];refine⟨?_,?_,?_,?_,?_,?_,?_,trivial⟩
   ·refine G4.det ?_ (fun a w v h=>A5G.put h (by decide) (by decide) (by decide) (by decide));intro a W hg hop;have h1:_=_:=hq hop 3;refine⟨_,?_,rfl⟩;simp only[execOp,h1];go_simp
   ·refine G4.run ?_;intro a W hz hu hg hop;have hle:Le W (W.alloc (Obj.cells #[.int .u8 47] 5)):=(AC W).alloc _;have k1:AY W.heap.size (W.alloc (Obj.cells #[.int .u8 47] 5)) (.slice (some ⟨W.heap.size,0,none⟩) 1 1) [47]:=DK W _ 47 rfl
    refine⟨.slice (some ⟨W.heap.size,0,none⟩) 1 1,W.alloc (Obj.cells #[.int .u8 47] 5),?_,?_,fun t _ h=>Nv b W0.heap.size W2.heap.size AO A3 n2 co p.tr.length c3 T2 p.tr t _ _ _ hle h,k1.base hg.sz⟩
    ·simp only[execOp];go_simp
    ·have hs:=A5.sett hg hle k1.fr k1.frz;unfold A5G;rw[AE _ (by simp),AE _ (by simp),AE _ (by simp),AR _ (by rw[hz];decide)];exact hs
   ·refine G4.append (.tmp 12) (.tmp 13) 22 rfl ?_;intro a W hz hu hg hop;have h0:_=_:=hq hop 12;have h2:Bv W (a.eval (.tmp 13)) [47]:=by
     have h2:=hq hop 13;exact AY.bv h2 (by decide)
    have hx:a.eval (.tmp 14)=undef:=(hu 14 rfl).trans rfl;have hy:a.eval (.tmp 17)=undef:=hg.xy hx;obtain⟨v',w',q,k1,k2,k3,k4⟩:=BH hg.own h2 (by have:=HN2.out;simp only[LC,LN];omega) hg.le.size 22;have kle:Le W0 w':=Below.grown' hg.le k2 (NL _) (fun g hh=>(AK hg.own g hh).1);refine⟨v',w',by rw[h0];exact q,?_,fun t ht h=>?_,k1⟩
    ·have hs:=A5.setx hg kle k2 k3 k4 k1.frz k1.ne_undef;unfold A5G;rw[AR _ (by rw[hz];decide),AE _ (by simp),AE _ (by simp),AE _ (by simp)];exact hs
    ·unfold vbS at h⊢;split at h<;>first|exact h|exact AY.apart h k2 (fun g h1 h2=>by have:=hg.lo g h1;have:=(AK h g h2).1;omega)|exact absurd rfl ht|exact absurd hy (AY.ne_undef h)|exact absurd hx (AY.ne_undef h)
   ·refine G4.det ?_ (fun a w v h=>A5G.put h (by decide) (by decide) (by decide) (by decide));intro a W hg hop;have h1:_=_:=hq hop 1;refine⟨_,?_,rfl⟩;simp only[execOp,h1];go_simp
   ·refine G4.det ?_ (fun a w v h=>A5G.put h (by decide) (by decide) (by decide) (by decide));intro a W hg hop;have h1:_=_:=hq hop 15;have h2:W.cell? ⟨b,18,none⟩=some (.slice A3 p.tr.length c3):=hg.le.cell HC3.out;refine⟨_,?_,rfl⟩;simp only[execOp,h1];go_simp
   ·refine G4.append (.tmp 14) (.tmp 16) 22 rfl ?_;intro a W hz hu hg hop;have h1:AY W0.heap.size W (a.eval (.tmp 14)) (T2++[47]):=(hq hop 14);have h2:Bv W (a.eval (.tmp 16)) p.tr:=by
     have h2:=hq hop 16;have h2:a.eval (.tmp 16)= .slice A3 p.tr.length c3:=h2;rw[h2];exact HB3.out.le hg.le
    have hy:a.eval (.tmp 17)=undef:=(hu 17 rfl).trans rfl;obtain⟨v',w',q,k1,k2,k3,k4⟩:=BH h1 h2 (by have:=HN2.out;have:=HS.out.tr;simp only[LA,LC,LN];omega) hg.le.size 22;have kle:Le W0 w':=Below.grown' hg.le k2 (NL _) (fun g hh=>(AK h1 g hh).1);refine⟨v',w',q,?_,fun t ht h=>?_,k1⟩
    ·have hs:=A5.sety hg kle k2 (AY.pre hg.own h1 k2 k3) h1.ne_undef (v:=v');unfold A5G;rw[AE _ (by simp),AR _ (by rw[hz];decide),AE _ (by simp),AE _ (by simp)];exact hs
    ·unfold vbS at h⊢;split at h<;>first|exact h|exact k3|exact AY.apart h k2 hg.xz|exact AY.apart h k2 hg.xt|exact absurd rfl ht|exact absurd hy (AY.ne_undef h)
   ·refine G4.run ?_;intro a W hz hu hg hop;have hle:Le W (W.alloc (Obj.cells #[.int .u8 32] 5)):=(AC W).alloc _;have k1:AY W.heap.size (W.alloc (Obj.cells #[.int .u8 32] 5)) (.slice (some ⟨W.heap.size,0,none⟩) 1 1) [32]:=DK W _ 32 rfl
    refine⟨.slice (some ⟨W.heap.size,0,none⟩) 1 1,W.alloc (Obj.cells #[.int .u8 32] 5),?_,?_,fun t _ h=>Nv b W0.heap.size W2.heap.size AO A3 n2 co p.tr.length c3 T2 p.tr t _ _ _ hle h,k1.base hg.sz⟩
    ·simp only[execOp];go_simp
    ·have hs:=A5.setz hg hle k1.fr k1.frz;unfold A5G;rw[AE _ (by simp),AE _ (by simp),AR _ (by rw[hz];decide),AE _ (by simp)];exact hs
  case hend2=>
   intro s_ wz hg hS;have s17:AY W0.heap.size wz (s_ 17) ((T2++[47])++p.tr):=hS 17 (by decide);have s18:AY W2.heap.size wz (s_ 18) [32]:=hS 18 (by decide);obtain⟨n17,A17,c17,e17⟩:=s17.shape;obtain⟨n18,A18,c18,e18⟩:=s18.shape;rw[e17]at s17;rw[e18]at s18;have HS17:=Hi s17;have HS18:=Hi (s18.bv (by decide));have HLZ2:=Hi hg.le;clear hS hg s17 s18
   simp only[Aj,Act.put,List.setIfInBounds_toArray,List.set_cons_zero,List.set_cons_succ,List.drop_succ_cons,List.drop_zero];rw[e17,e18];clear e17 e18
   go_upto_region 3 with(at_builtin;refine AJ rfl (.tmp 17) (.tmp 18) rfl (base:=W0.heap.size) rfl rfl HS17.out HS18.out (by have:=HN2.out;have:=HS.out.tr;simp only[LA,LC,LN];omega) HLZ2.out.size ?_)
   intro v3 W3 hown3 hgrow3;have HL3:Hid (Le W0 W3):=Hi (Below.grown' HLZ2.out hgrow3 (NL _) (fun g hg=>(AK HS17.out g hg).1));have HO3:=Hi hown3;obtain⟨n3,B3,d3,rfl⟩:=hown3.shape;clear hown3 hgrow3;have g19:W3.cell? ⟨b,19,none⟩=some (.slice A4 p.host.length c4):=HL3.out.cell HC4.out;have g20:W3.cell? ⟨b,20,none⟩=some (.int .i64 xo):=HL3.out.cell HC5.out;go_wp2_with fail
   refine(K4 W3 (.slice A4 p.host.length c4) p.host xo (HB4.out.le HL3.out) (by have:=HS.out.host;omega) HPO.out).mono ?_;rintro e W4 ⟨v4,rfl,hown4,hle4⟩;have HO4:=Hi (HO3.out.le hle4);have HHL:=Hi (EP HS.out.host HPO.out);have HB44:=Hi (hown4.bv (by have:=HHL.out;omega));have HL4:Hid (Le W0 W4):=Hi (HL3.out.trans hle4);obtain⟨n4,B4,d4,rfl⟩:=hown4.shape
   clear hown4 hle4 g19 g20;go_upto_region 4 with(at_builtin;refine AJ rfl (.tmp 20) (.tmp 25) rfl (base:=W0.heap.size) rfl rfl HO4.out HB44.out (by have:=HN2.out;have:=HS.out.tr;have:=HHL.out;simp only[LA,LC,LN];omega) HL4.out.size ?_)
   intro v7 W7 hown7 hgrow7;have HL7:Hid (Le W0 W7):=Hi (Below.grown' HL4.out hgrow7 (NL _) (fun g hg=>(AK HO4.out g hg).1));obtain⟨T7,hT7⟩:∃T,T=T2++47::(p.tr++32::CZ p.host xo):=⟨_,rfl⟩;have HT7:=Hi hT7;have HO7:Hid (AY W0.heap.size W7 v7 T7):=Hi (by rw[hT7];exact hown7)
   have HLT7:Hid (T7.length≤1100000000):=Hi (by rw[hT7];have:=HN2.out;have:=HS.out.tr;have:=HHL.out;simp only[LA,LC,LN];omega);have g14:W7.cell? ⟨b,14,none⟩=some (.slice Aq p.ps.length cq):=AB (HL7.out.heap HB.out) 14;obtain⟨n7,A7,c7,rfl⟩:=hown7.shape;clear hown7 hgrow7 hT7;by_cases hp0:p.ps=[]
   ·have hpl:decide (0<p.ps.length)=false:=by rw[hp0];rfl
    have HE:Hid (KV p=T7):=Hi (by rw[HT7.out,HT2.out,HPX.out];unfold KV lwP;rw[if_pos hp0];simp);clear hp0;go_wp2;go_ret;exact⟨_,rfl,by rw[HE.out];exact HO7.out.base (by have:=HL0.out.size;omega),HL0.out.trans HL7.out⟩
   ·have hpl:decide (0<p.ps.length)=true:=decide_eq_true (List.length_pos_iff.2 hp0);have HE:Hid (KV p=T7++59::ptP p.ps 59 p.ps.length):=Hi (by rw[HT7.out,HT2.out,HPX.out];unfold KV lwP;rw[if_neg hp0];simp);clear hp0;go_upto_region 5 with fail
    have hm5:(Tryz.prog).follows .mixedOrders=true:=by kernel_rfl
    refine G3.wp_region_grow_tail (vcS b (Value.ownBlock (.slice A7 n7 c7)) W0.heap.size (.slice A7 n7 c7) (.slice Aq p.ps.length cq) (T7) ((ptP p.ps 59 p.ps.length))) (apG W0 (.slice A7 n7 c7) (T7)) 39 6 [31,32,33,34,35,36] hm5 (by kernel_rfl) rfl rfl ⟨HL7.out.drew,HO7.out.le (AC _).drew⟩ ?hold5 ?hs5 ?hend5;case hold5=>
     intro t ht;simp only[List.mem_cons,List.mem_nil_iff,or_false,not_or]at ht;unfold vcS;split<;>first|rfl|trivial|(exfalso;simp at ht)
    case hs5=>
     simp only[List.take_succ_cons,List.take_zero];refine⟨?_,?_,?_,?_,?_,?_,trivial⟩
     ·refine AA fun a W hg hop=>?_;have h1:_=_:=hq hop 3;refine⟨_,?_,rfl⟩;simp only[execOp,h1];go_simp
     ·refine GrowStep.le ?_ ?_ ?_ ?_
      ·exact fun t v w1 w2 k h=>Nu _ _ _ _ _ _ _ t v w1 w2 k h
      ·exact fun _ _ _ _ h=>h
      ·exact fun w1 w2 k h=>EY h k
      intro a W hg hop;refine⟨.slice (some ⟨W.heap.size,0,none⟩) 1 1,W.alloc (Obj.cells #[.int .u8 59] 5),?_,(AC W).alloc _,?_⟩
      ·simp only[execOp];go_simp
      ·exact BvN.new (w0:=W) (CO W [59] (by decide) (0,0)) (fun k hk=>by simp only[Value.ownBlock,Option.some.injEq]at hk;omega) hg.own.lt
     ·refine Bu (.tmp 31) (.tmp 32) 22 rfl ?_;intro a W hg hop;have h1:_=_:=hq hop 31;have h2:BvN (Value.ownBlock (.slice A7 n7 c7)) W (a.eval (.tmp 32)) [59]:=(hq hop 32);obtain⟨v',w',q,k1,k2,k3⟩:=BI hg.own h2.1 (by have:=HLT7.out;have:=HS.out.ps _ (NL _);simp only[LC,LN]at this⊢;omega) hg.le.size 22
      refine⟨v',w',by rw[h1];exact q,⟨Below.grown' hg.le k2 (NL _) (fun g hh=>(AK hg.own g hh).1),k3⟩,fun t u ht h=>QL _ _ _ _ _ _ _ t u _ _ k2 ht h,fun _ _ h=>h,k1⟩
     ·refine AA fun a W hg hop=>?_;have h1:_=_:=hq hop 1;refine⟨_,?_,rfl⟩;simp only[execOp,h1];go_simp
     ·refine AA fun a W hg hop=>?_;have h1:_=_:=hq hop 34;have h2:W.cell? ⟨b,14,none⟩=some (.slice Aq p.ps.length cq):=(AB (hg.le.heap HB.out) 14);refine⟨_,?_,rfl⟩;simp only[execOp,h1];go_simp
     ·refine AG ?_ ?_ ?_ ?_
      ·exact fun t v w1 w2 k h=>Nu _ _ _ _ _ _ _ t v w1 w2 k h
      ·exact fun _ _ _ _ h=>h
      ·exact fun w1 w2 k h=>EY h k
      intro a W hg hop;have h1:_=_:=hq hop 35;have h1':=tg h1;refine⟨71,#[.slice Aq p.ps.length cq,.int .u8 59],?_,(GY (.slice Aq p.ps.length cq) p.ps 59 W (HX.out.ps.le (HL0.out.trans hg.le)) (fun k hk=>by have:=HS.out.ps k hk;omega) HS.out.pm).mono ?_⟩
      ·simp only[execOp,h1];go_simp
      ·rintro e w' ⟨v',rfl,hown,hle⟩;exact⟨_,rfl,hle,BvN.new (hown.bv (by have:=HS.out.ps _ (NL _);omega)) (fun k hk=>(AK hown k hk).1) hg.own.lt⟩
    case hend5=>
     intro v wz hg hS;have s2:AY W0.heap.size wz (v 33) (T7++[59]):=hS 33 (by decide);have s5:Bv wz (v 36) ((ptP p.ps 59 p.ps.length)):=(hS 36 (by decide):BvN _ wz (v 36) ((ptP p.ps 59 p.ps.length))).1;obtain⟨ns2,As2,cs2,es2⟩:=s2.shape;rw[es2]at s2;obtain⟨ms5,As5,cs5,es5⟩:∃m A c,v 36= .slice A m c:=by obtain⟨A,c,e⟩:=s5.form;exact⟨_,A,c,e⟩
     rw[es5]at s5;have HS2:=Hi s2;have HS5:=Hi s5;have HLZ:=Hi hg.le;have HLEN:Hid ((T7++[59]).length+((ptP p.ps 59 p.ps.length)).length≤140737488355328):=Hi (by have:=HLT7.out;have:=HS.out.ps _ (NL _);simp only[LA,LC,LN];omega);clear hS hg s2 s5
     simp only[Aj,Act.put,List.setIfInBounds_toArray,List.set_cons_zero,List.set_cons_succ,List.drop_succ_cons,List.drop_zero];rw[es2];rw[es5];clear es2 es5;go_wp2_with (at_builtin;refine AJ rfl (.tmp 33) (.tmp 36) rfl (base:=W0.heap.size) rfl rfl HS2.out HS5.out HLEN.out HLZ.out.size ?_)
     intro vz wz2 hownz hgrowz;have HOZ:=Hi hownz;have HLZ2:Hid (Le W0 wz2):=Hi (Below.grown' HLZ.out hgrowz (NL _) (fun g hg=>(AK HS2.out g hg).1));clear hownz hgrowz;go_wp2;go_ret;exact⟨_,rfl,by rw[HE.out];exact HOZ.out.base (by have:=HL0.out.size;omega),HL0.out.trans HLZ2.out⟩
end Go.Proofs.YtejhpdcjafbklaaGreatDoor
namespace Go.Proofs.YtejhpdcjafbklaaGreatDoor
open Go.RowKit Go.Sort
theorem Ig(w:World)(T:TypeId)(nd:Nat)(hs:nd≤24):Holds (fun(b:UInt8)=>Value.int .u8 (b.toNat:Int)) (w.alloc (.cells Lib.zeros24 T)) w.heap.size 0 (Array.replicate nd (0:UInt8)):=fun j hj=>by
 have hj':j<nd:=by simpa using hj
 refine⟨?_,World.frozen?_alloc_new _ _ _ _⟩;rw[World.cell?_alloc_new,Lib.zeros24_at _ (by omega),getElem!_pos _ j hj];simp
theorem NY(w:World)(o:Obj)(dk:Array UInt8)(k:Nat):∃os,(putRow (fun(b:UInt8)=>Value.int .u8 (b.toNat:Int)) (w.alloc o) w.heap.size 0 dk).drewN k=grow (w.drewN k) os:=by
 rw[alloc_eq_grow];obtain⟨os',_,e⟩:=putRow_grow_new (fun(b:UInt8)=>Value.int .u8 (b.toNat:Int)) w #[o] w.heap.size 0 dk (NL _);exact⟨os',by rw[e];rfl⟩
theorem RL(u:Nat)(hu:u<4294967296)(w:World)(hL:BW w):
 Calls Tryz.prog 72 #[.int .u64 u,.int .i64 10] w fun e w'=>e= .returned (.string (st (Lib.decDigits u)))∧Le w w':=by
 by_cases hs:u<100
 ·go_enter Tryz.func72,Tryz.ntmps72;go_wp2_with (go_at_call 95;refine(Any.internal_strconv_small {Tryz.laysM171 with} u hs _).mono ?_;rintro e w' ⟨rfl,rfl⟩)
  go_ret;exact⟨rfl,AC _⟩
 ·have hu1:1≤u:=by omega
  have hu64:u<18446744073709551616:=by omega
  have hnd:Lib.nDigits u≤20:=by have:=Lib.numDigits_eq u hu1 hu64;split at this<;>omega
  have htab:=hL.pow;have hal:Tryz.prog.arrayLen 180=24:=by simp[Program.arrayLen,Tryz.underlying180]
  have hsl:∀W,(Instr.sliceAt 180 (.pointer (some ⟨w.heap.size,0,none⟩)) none (some (.int .i64 (Lib.nDigits u:Int))) none).run Tryz.prog W= .ok (.slice (some ⟨w.heap.size,0,none⟩) (Lib.nDigits u) 24) W:=fun W=>by
   rw[run_sliceAt_array_h W 180 ⟨w.heap.size,0,none⟩ (by simp[Program.arrayLen,Program.elem,Tryz.underlying180]) .i64 (Lib.nDigits u:Int) (by omega) (by rw[hal];omega)];go_simp
  have hH0:=Ig w 180 (Lib.nDigits u) (by omega);have hfmt:=Any.internal_strconv_formatBase10 {Tryz.laysM171 with} w.heap.size 0 24 u (Array.replicate (Lib.nDigits u) 0) (w.alloc (.cells Lib.zeros24 180)) hH0 (by rw[Array.size_replicate];exact Lib.lt_pow_nDigits u) hu64 (by rw[Array.size_replicate];omega);rw[Array.size_replicate]at hfmt;have HH0:=Hi hH0;have HFM:=Hi hfmt
  clear hH0 hal hfmt;go_enter Tryz.func72,Tryz.ntmps72;go_wp2_with (go_at_call 96;refine(Any.internal_strconv_numDigits {Tryz.laysM171 with} u hu1 hu64 _ (Lib.tabIs_alloc htab _)).mono ?_;rintro e w' ⟨rfl,rfl⟩)
  refine HFM.out.mono ?_;rintro e w' ⟨rfl,k,v',dk,rfl,hF⟩
  have hcv:(convert 22 9 (.slice (some ⟨w.heap.size,0,none⟩) (Lib.nDigits u) 24)).run Tryz.prog ((putRow (fun(b:UInt8)=>Value.int .u8 (b.toNat:Int)) (w.alloc (.cells Lib.zeros24 180)) w.heap.size 0 dk).drewN k)= .ok (.string ⟨(Lib.decDigits u).toArray⟩) ((putRow (fun(b:UInt8)=>Value.int .u8 (b.toNat:Int)) (w.alloc (.cells Lib.zeros24 180)) w.heap.size 0 dk).drewN k):=by
   have h:=run_convert_bytes_back (P:=Tryz.prog) ((putRow (fun(b:UInt8)=>Value.int .u8 (b.toNat:Int)) (w.alloc (.cells Lib.zeros24 180)) w.heap.size 0 dk).drewN k) 22 9 5 ⟨w.heap.size,0,none⟩ 24 (Lib.decDigits u) Tryz.underlying22 Tryz.underlying5 Tryz.underlying9 (fun j hj=>by
    rw[Lib.row_is_numeral hF j hj,Lib.add_plain,World.cell?_drewN];exact cell?_putRow (fun(b:UInt8)=>Value.int .u8 (b.toNat:Int)) _ w.heap.size 0 _ dk HH0.out (by rw[hF.size,Array.size_replicate]) j (by rw[hF.size];rw[Lib.decDigits_length]at hj;exact hj))
   rw[Lib.decDigits_length]at h;exact h
  go_wp2;go_ret;obtain⟨os,eo⟩:=NY w (.cells Lib.zeros24 180) dk k;refine⟨rfl,?_⟩;have hle:=LS w k os;rw[←eo]at hle;exact hle
theorem OH(u:Nat)(hu:u<4294967296)(w:World)(hL:BW w):
 Calls Tryz.prog 48 #[.int .u64 u,.int .i64 10] w fun e w'=>e= .returned (.string (st (Lib.decDigits u)))∧Le w w':=by
 have HC:=Hi (RL u hu w hL);go_enter Tryz.func48,Tryz.ntmps48;go_wp2_with fail
 refine HC.out.mono ?_;rintro e w' ⟨rfl,hle⟩;have HL:=Hi hle;clear hle;go_wp2;go_ret;exact⟨rfl,HL.out⟩
end Go.Proofs.YtejhpdcjafbklaaGreatDoor
namespace Go.Proofs.YtejhpdcjafbklaaGreatDoor
open Go.RowKit
def CvB(W0 w:World)(v:Value)(l:Tx):Prop:=∃(g cap:Nat) (C:Array Value),v= .slice (some ⟨g,0,none⟩) l.length cap∧W0.heap.size≤g∧w.heap[g]? =some (.cells C 5 (C.size,C.size+1))∧C.size=cap∧l.length≤cap∧cap≤9223372036854775807∧l.length≤140737488355328∧∀j (h:j<l.length),C[j]? =some (.int .u8 (l[j].toNat:Int))
theorem CvB.le{W0 w w':World}{v:Value}{l:Tx}(h:CvB W0 w v l)(k:Le w w'):CvB W0 w' v l:=by
 obtain⟨g,cap,C,e,h1,h2,h3⟩:=h;exact⟨g,cap,C,e,h1,k.heap h2,h3⟩
theorem CvB.form{W0 w:World}{v:Value}{l:Tx}(h:CvB W0 w v l):∃g cap,v= .slice (some ⟨g,0,none⟩) l.length cap:=by
 obtain⟨g,cap,C,e,_⟩:=h;exact⟨g,cap,e⟩
theorem CvB.conv{W0 w:World}{l:Tx}(h0:W0.heap.size≤w.heap.size)(hl:l.length≤1000000):CvB W0 (Lib.bytesWorld w 5 (st l)) (.slice (some ⟨w.heap.size,0,none⟩) (st l).size (Mg w 5 (st l))) l:=by
 have hsz:(st l).size=l.length:=AF l;have hge:=grownCap_ge w (st l).size 0 5;have hcs:(Lib.bytesCells w 5 (st l)).size=Mg w 5 (st l):=by
  have hd:(st l).data.size=(st l).size:=rfl;unfold Lib.bytesCells Mg;simp only[Array.size_append,Array.size_map,Array.size_replicate,hd];omega
 refine⟨w.heap.size,Mg w 5 (st l),Lib.bytesCells w 5 (st l),by rw[hsz],h0,Lib.bytesWorld_at_new w _ (st l),hcs,?_,Gm w _ _ (by rw[hsz];omega),by omega,fun j hj=>?_⟩
 ·unfold Mg;omega
 ·have hb:=(P2 w 5 (st l) (by rw[hsz];omega) (Gm w _ _ (by rw[hsz];omega)));rw[AV]at hb;obtain⟨A,c,e,_,_,_,h4⟩:=hb;obtain⟨b,o,e2,hc⟩:=h4 (by omega);have hcj:=hc j hj;injection e with e1 _ _
  rw[e2]at e1;injection e1 with e1
  injection e1 with e3 e4 _
  subst e3 e4;rw[Nat.zero_add,AB (Lib.bytesWorld_at_new w 5 (st l)) j]at hcj;exact hcj
theorem Ga{W0 w:World}{v x:Value}{l m:Tx}(h:CvB W0 w v l)(hx:Bv w x m)(hl:l.length+m.length≤140737488355328)(hb:Le W0 w)(ty:TypeId):
 ∃v' w',(Builtin.append_ #[22,22] ty #[v,x]).run Tryz.prog w= .ok v' w'∧Bv w' v' (l++m)∧Le W0 w':=by
 obtain⟨i0,hi0,hz0,hz1,hz2⟩:=info_parts FT;obtain⟨g,cap,C,rfl,hg,hh,hC,hn,hcap,hl2,hcs⟩:=h;have hcell:∀j,w.cell? ⟨g,j,none⟩=C[j]? :=fun j=>AB hh j;obtain⟨A,c,rfl,h1,h2,h3,h4⟩:=hx;cases A with
 |none=>
  have hm:m.length=0:=by
   rcases Nat.eq_zero_or_pos m.length with h|h
   ·exact h
   ·obtain⟨_,_,e,_⟩:=h4 h;cases e
  obtain rfl:m=[]:=List.eq_nil_of_length_eq_zero hm;refine⟨.slice (some ⟨g,0,none⟩) l.length cap,w,?_,?_,hb⟩
  ·simp[Builtin.append_,run_underlying Tryz.underlying22,sizeOf,typeInfo,hi0,Builtin.lenOf,Builtin.firstCells,hn,storeCells]
  ·rw[List.append_nil];exact⟨_,_,rfl,hn,hcap,hl2,fun _=>⟨g,0,rfl,fun j hj=>by rw[Nat.zero_add,hcell];exact hcs j hj⟩⟩
 |some ad=>
  have hnews:∀j u,(u8s m)[j]? =some u→w.cell? (ad.add j)=some u:=fun j u hu=>by
   unfold u8s at hu;rw[List.getElem?_map]at hu;have hj:j<m.length:=by
    rcases Nat.lt_or_ge j m.length with h|h
    ·exact h
    ·rw[List.getElem?_eq_none h]at hu;cases hu
   rw[List.getElem?_eq_getElem hj,Option.map_some,Option.some.injEq]at hu;subst hu;obtain⟨b,o,e,hc⟩:=h4 (by omega);injection e with e
   subst e;rw[B6];exact hc j hj
  have hone:∀u∈u8s m,u.oneCell'=true:=fun u hu=>by
   unfold u8s at hu;obtain⟨_,_,rfl⟩:=List.mem_map.1 hu;rfl
  have hul:(u8s m).length=m.length:=by unfold u8s;simp
  by_cases hroom:l.length+m.length≤cap
  ·have hso:∀j,j<(u8s m).length→(w.cell? ⟨g,0+l.length*i0.size+j,none⟩).isSome=true:=fun j hj=>by
    rw[hcell,Array.getElem?_eq_getElem (by rw[hz1];omega)];rfl
   have hr:=run_append_room_cells (P:=Tryz.prog) w 22 ty 5 i0 Tryz.underlying22 hi0 g 0 l.length cap ad m.length c (u8s m) (by rw[hz1,hul];omega) hnews hone hroom hso
    (fun j hj=>by
     have hf:w.frozen? ⟨g,0+l.length*i0.size+j,none⟩=(decide (C.size≤0+l.length*i0.size+j)&&decide (0+l.length*i0.size+j<C.size+1)):=by
      simp[World.frozen?,hh]
     rw[hf,hz1];have h9:¬C.size≤0+l.length*1+j:=by omega
     rw[decide_eq_false h9,Bool.false_and])
   refine⟨_,_,hr,⟨_,_,by rw[LA],by rw[LA];exact hroom,hcap,by rw[LA];exact hl,fun _=>⟨g,0,rfl,fun j hj=>?_⟩⟩,Go.below_setCells hg _ _ _ hb⟩;rw[LA]at hj;show(w.setCells g (0+l.length*i0.size) (u8s m)).cell? ⟨g,0+j,none⟩=_;rw[show 0+j=j from Nat.zero_add j];by_cases hjl:j<l.length
   ·rw[World.cell?_setCells_out g (u8s m) _ w ⟨g,j,none⟩ (fun _ _=> .inl (by rw[hz1];show j<_;omega)),hcell,hcs j hjl];simp[List.getElem_append_left hjl]
   ·have:=World.cell?_setCells_in g (u8s m) (0+l.length*i0.size) w hso (j-l.length) (by omega);rw[show 0+l.length*i0.size+(j-l.length)=j by rw[hz1];omega]at this;rw[this];unfold u8s;simp[List.getElem_append_right (Nat.le_of_not_lt hjl)]
  ·obtain⟨v',w',q,k1,k2⟩:=run_append_arg_grows (P:=Tryz.prog) w 22 ty 5 i0 (.int .u8 0) 1 1 Tryz.underlying22 hi0 hz0 hz1 hz2 rfl (by decide) ⟨g,0,none⟩ l.length cap (u8s l) (by unfold u8s;simp) (fun j u hu=>by
    unfold u8s at hu;rw[List.getElem?_map]at hu;have hj:j<l.length:=by
     rcases Nat.lt_or_ge j l.length with h|h
     ·exact h
     ·rw[List.getElem?_eq_none h]at hu;cases hu
    rw[List.getElem?_eq_getElem hj,Option.map_some,Option.some.injEq]at hu;subst hu;rw[B6,Nat.zero_add,hcell];exact hcs j hj) ad m.length c (u8s m) (by rw[hul];omega) hnews (by omega) (by unfold maxLen;omega) (by omega)
   have ho:AY w.heap.size w' v' (l++m):=by
    unfold AY;rw[LA];unfold u8s at k1⊢;rw[List.map_append];exact k1
   exact⟨v',w',q,ho.bv (by rw[LA];exact hl),Below.grown' hb k2 (NL _) (fun g hg=>by cases hg)⟩
theorem Ez{W0 w:World}{ops:Array Oper}{rest:List Oper}{o:Oper}{a:Act}{Q:Exit→Act→World→Prop}(hgd:o.guard=none)(s x:Operand)
 (ho:o.op= .call {callee:= .builtin .append,args:= #[s,x],argTypes:= #[22,22]}){v xv:Value}{l m:Tx}(hs:a.eval s=v)(hx:a.eval x=xv)
 (hown:CvB W0 w v l)(hm:Bv w xv m)(hl:l.length+m.length≤140737488355328)(hb:Le W0 w)
 (h:∀v' w',Bv w' v' (l++m)→Le W0 w'→wpList Tryz.prog ops Q rest (a.put o.dst v') w'):wpList Tryz.prog ops Q (o::rest) a w:=by
 refine wpList_plain hgd fun K hK=>?_;obtain⟨v',w',q,k1,k2⟩:=Ga hown hm hl hb o.type;unfold Oper.wp execOp;simp only[ho,resolve,invoke,builtin,Sem.run_bind,Sem.run_pure,Result.andThen_ok,List.map_toArray,List.map_cons,List.map_nil,hs,hx,q];exact hK _ _ (h v' w' k1 k2)
def voS(W0:World)(b nu:Nat)(At:Option Addr)(nt ct:Nat):Nat→Value→World→Prop
 |1,v,_=>v=(.pointer (some ⟨b,0,none⟩))
 |19,v,_=>v=(.pointer (some ⟨b,15,none⟩))
 |20,v,_=>v=(.int .u32 nu)
 |21,v,_=>v=(.int .u64 nu)
 |22,v,_=>v=(.string (st (Lib.decDigits nu)))
 |23,v,_=>v=(.string (st (Lib.decDigits nu++[32])))
 |24,v,w_=>CvB W0 w_ v (Lib.decDigits nu++[32])
 |25,v,_=>v=(.pointer (some ⟨b,2,none⟩))
 |26,v,_=>v=(.slice At nt ct)
 |_,_,_=>True
theorem Nr(W0:World)(b nu:Nat)(At:Option Addr)(nt ct:Nat)(t:Nat)(v:Value)(w1 w2:World)(k:Le w1 w2)(h:voS W0 b nu At nt ct t v w1):voS W0 b nu At nt ct t v w2:=by
 unfold voS at h⊢;split at h<;>first|exact h|exact CvB.le h k
theorem Jm{p:PH}(h:HSz p):(MY p.disp p.uri p.ps).length≤2000000000:=by
 have h1:=h.disp;have h2:=h.ulen;have h3:=h.ps _ (NL _);unfold MY dqT brT lwP;split<;>split<;>simp only[LA,LC,LN]<;>omega
theorem I4{p:PH}(h:HSz p):(KV p).length≤2000000000:=by
 have h1:=h.proto;have h2:=h.ver;have h3:=h.ps _ (NL _);have h4:=h.tr;have h5:=EP h.host h.hi;unfold KV lwP;split<;>simp only[LA,LC,LN]<;>omega
theorem MH{n:Nat}(h:n<4294967296):(Lib.decDigits n).length≤21:=by
 have:=Lib.itoa_length_le n (by omega) (by omega);rw[Lib.itoa_nonneg]at this;exact this
theorem Mr(ψ:Nat→Prop)(x:HV)(p:PH)(w:World)(hx:Hz ψ w x p)(hw:p.uri.wild=false)(hs:HSz p)(hL:BW w):
 Calls Tryz.prog 27 #[x.val] w fun e w'=>∃v,e= .returned v∧Bv w' v (vTx p p.uri)∧Le w w':=by
 obtain⟨tt,xn,xx,xd,xu,xp,nu,x1,x2,x3,x4,xo⟩:=x;have HTP:Hid (tt=p.t):=Hi hx.t;have HNP:Hid (nu=p.num):=Hi hx.num;obtain⟨At,ct,rfl⟩:=(show Bv w xx p.text from hx.text).form;have HX:=Hi hx;have HS:=Hi hs;have HW:=Hi hw;have HNU:Hid (nu<4294967296):=Hi (by rw[HNP.out];exact hs.num);have HDL:Hid ((Lib.decDigits nu).length≤21):=Hi (MH HNU.out)
 have HL:=Hi hL;clear hx hw hs hL;obtain⟨XV,hXV⟩:∃x:HV,x=⟨tt,xn,.slice At p.text.length ct,xd,xu,xp,nu,x1,x2,x3,x4,xo⟩:=⟨_,rfl⟩;rw[←hXV]at HX⊢;have HXV:=Hi hXV;clear hXV;change Calls _ _ #[.agg XV.row] _ _;go_enter Tryz.func27,Tryz.ntmps27;go_upto_region 1 with fail
 change Code.wp _ _ _ _ (w.alloc (Obj.cells XV.row 37));have HB:=Hi (heap_alloc_new w (Obj.cells XV.row 37));have HL0:Hid (Le w (w.alloc (Obj.cells XV.row 37))):=Hi ((AC w).alloc _);generalize w.alloc (Obj.cells XV.row 37)=W0 at HB HL0⊢;obtain⟨b,hb⟩:∃b,b=w.heap.size:=⟨_,rfl⟩;rw[←hb]at HB⊢;clear hb;have HX0:=Hi (HX.out.le HL0.out);have HLA:=Hi (HL.out.le HL0.out)
 have g0:W0.cell? ⟨b,0,none⟩=some (.int .i64 tt):=by rw[AB HB.out 0,HXV.out];rfl
 have HCN:Hid (W0.cell? ⟨b,15,none⟩=some (.int .u32 nu)):=Hi (by rw[AB HB.out 15,HXV.out];rfl);have HCT:Hid (W0.cell? ⟨b,2,none⟩=some (.slice At p.text.length ct)):=Hi (by rw[AB HB.out 2,HXV.out];rfl);have HBT:Hid (Bv W0 (.slice At p.text.length ct) p.text):=Hi (by have h:=HX0.out.text;rw[HXV.out]at h;exact h);have HXU:Hid (XV.uri=xu):=Hi (by rw[HXV.out])
 go_upto_if 5 with fail
 go_cut [5]from 5 to 10 (fun sx wx=>∃q:Bool,sx= .bool q∧W0=wx∧(q=true↔BP tt))
 case first=>
  by_cases e0:tt=1
  ·have b0:((tt:Int)==1)=true:=by rw[e0];rfl
   have HQ:Hid (BP tt):=Hi (by rw[e0];decide);clear e0;go_wp2;go_meet;case rel=>exact⟨true,by first|rfl|exact congrArg Value.bool b0,rfl,fun _=>HQ.out,fun _=>rfl⟩
  have b0:((tt:Int)==1)=false:=by rw[beq_eq_false_iff_ne];exact e0
  by_cases e1:tt=2
  ·have b1:((tt:Int)==2)=true:=by rw[e1];rfl
   have HQ:Hid (BP tt):=Hi (by rw[e1];decide);clear e0 e1;go_wp2;go_meet;case rel=>exact⟨true,by first|rfl|exact congrArg Value.bool b1,rfl,fun _=>HQ.out,fun _=>rfl⟩
  have b1:((tt:Int)==2)=false:=by rw[beq_eq_false_iff_ne];exact e1
  by_cases e2:tt=3
  ·have b2:((tt:Int)==3)=true:=by rw[e2];rfl
   have HQ:Hid (BP tt):=Hi (by rw[e2];decide);clear e0 e1 e2;go_wp2;go_meet;case rel=>exact⟨true,by first|rfl|exact congrArg Value.bool b2,rfl,fun _=>HQ.out,fun _=>rfl⟩
  have b2:((tt:Int)==3)=false:=by rw[beq_eq_false_iff_ne];exact e2
  by_cases e3:tt=14
  ·have b3:((tt:Int)==14)=true:=by rw[e3];rfl
   have HQ:Hid (BP tt):=Hi (by rw[e3];decide);clear e0 e1 e2 e3;go_wp2;go_meet;case rel=>exact⟨true,by first|rfl|exact congrArg Value.bool b3,rfl,fun _=>HQ.out,fun _=>rfl⟩
  have b3:((tt:Int)==14)=false:=by rw[beq_eq_false_iff_ne];exact e3
  have HQ:Hid (¬(BP tt)):=Hi (by unfold BP;omega);clear e0 e1 e2 e3;go_wp2;go_meet;case rel=>exact⟨false,rfl,rfl,(fun h=>by cases h),fun h=>absurd h HQ.out⟩
 case rest=>
 obtain⟨q,rfl,rfl,hqq⟩:=hcut;cases q;case true=>
  have HV:Hid (vTx p p.uri=MY p.disp p.uri p.ps):=Hi (by have h:=hqq.1 rfl;rw[HTP.out]at h;unfold vTx;rw[if_pos h]);clear hqq g0;go_wp2_with (refine wpList_load_row rfl 37 (.tmp 1) rfl b rfl 37 XV.row (0,0) _ HB.out Tryz.underlying37 rfl AS ?_)
  refine(O1 ψ XV p W0 HX0.out HW.out HS.out).mono ?_;rintro e W1 ⟨v,rfl,hown,hle⟩;have HBV:=Hi (hown.bv (by have:=Jm HS.out;omega));have HLE:=Hi hle;clear hown hle;go_wp2;go_ret;exact⟨_,rfl,by rw[HV.out];exact HBV.out,HL0.out.trans HLE.out⟩
 have HA:Hid (¬BP tt):=Hi (fun h=>by have:=hqq.2 h;cases this);clear hqq;go_upto_if 12 with fail
 go_cut [12]from 12 to 15 (fun sx wx=>∃q:Bool,sx= .bool q∧W0=wx∧(q=true↔tt=4∨tt=10))
 case first=>
  by_cases e0:tt=4
  ·have b0:((tt:Int)==4)=true:=by rw[e0];rfl
   have HQ:Hid (tt=4∨tt=10):=Hi (by rw[e0];decide);clear e0;go_wp2;go_meet;case rel=>exact⟨true,by first|rfl|exact congrArg Value.bool b0,rfl,fun _=>HQ.out,fun _=>rfl⟩
  have b0:((tt:Int)==4)=false:=by rw[beq_eq_false_iff_ne];exact e0
  by_cases e1:tt=10
  ·have b1:((tt:Int)==10)=true:=by rw[e1];rfl
   have HQ:Hid (tt=4∨tt=10):=Hi (by rw[e1];decide);clear e0 e1;go_wp2;go_meet;case rel=>exact⟨true,by first|rfl|exact congrArg Value.bool b1,rfl,fun _=>HQ.out,fun _=>rfl⟩
  have b1:((tt:Int)==10)=false:=by rw[beq_eq_false_iff_ne];exact e1
  have HQ:Hid (¬(tt=4∨tt=10)):=Hi (by omega);clear e0 e1;go_wp2;go_meet;case rel=>exact⟨false,rfl,rfl,(fun h=>by cases h),fun h=>absurd h HQ.out⟩
 case rest=>
 obtain⟨q,rfl,rfl,hqq⟩:=hcut;cases q;case true=>
  have HV:Hid (vTx p p.uri=p.text):=Hi (by
   have h:=hqq.1 rfl;have ha:=HA.out;rw[HTP.out]at h ha;unfold vTx;rw[if_neg ha,if_neg (by omega),if_neg (by omega),if_neg (by omega),if_neg (by unfold Et;omega)])
  have g2:=HCT.out;clear hqq;go_wp2;go_ret;exact⟨_,rfl,by rw[HV.out];exact HBT.out,HL0.out⟩
 have HB4:Hid (¬(tt=4∨tt=10)):=Hi (fun h=>by have:=hqq.2 h;cases this);clear hqq;by_cases h5:tt=5
 ·have b5:((tt:Int)==5)=true:=by rw[h5];rfl
  have HV:Hid (vTx p p.uri=Lib.decDigits nu++32::p.text):=Hi (by
   have ha:=HA.out;rw[HTP.out]at h5 ha;unfold vTx;rw[if_neg ha,if_pos h5,HNP.out])
  clear h5;go_upto_region 11 with fail
  have hm_vo:(Tryz.prog).follows .mixedOrders=true:=by kernel_rfl
  refine G3.wp_region_grow_tail (voS W0 b nu At p.text.length ct) ((Le W0)) 50 8 [19,20,21,22,23,24,25,26] hm_vo (by kernel_rfl) rfl rfl ?hG_vo ?hold_vo ?hs_vo ?hend_vo;case hG_vo=>exact(AC W0).drew
  case hold_vo=>
   intro t ht;simp only[List.mem_cons,List.mem_nil_iff,or_false,not_or]at ht;unfold voS;split<;>first|exact True.intro|(exfalso;simp at ht;done)|rfl
  case hs_vo=>
   simp only[List.take_succ_cons,List.take_zero];refine⟨?_,?_,?_,?_,?_,?_,?_,?_,trivial⟩
   ·refine AA fun a W hg hop=>?_;have h1:_=_:=hq hop 1;have h1':=tg h1;refine⟨_,?_,rfl⟩;simp only[execOp,h1];go_simp
   ·refine AA fun a W hg hop=>?_;have h19:_=_:=hq hop 19;have h19':=tg h19;have hc:W.cell? ⟨b,15,none⟩=some (.int .u32 nu):=hg.cell HCN.out;refine⟨_,?_,rfl⟩;simp only[execOp,h19];go_simp
   ·refine AA fun a W hg hop=>?_;have h20:_=_:=hq hop 20;have h20':=tg h20;refine⟨_,?_,rfl⟩;have hwr:=IntWalk.u64_in (nu:Int) (by have:=HNU.out;omega);simp only[execOp,h20];go_simp
   ·refine AG ?_ ?_ ?_ ?_
    ·exact fun t v w1 w2 kl h=>Nr W0 b nu At p.text.length ct t v w1 w2 kl h
    ·exact fun _ _ _ _ h=>h
    ·exact fun w1 w2 k h=>Le.trans h k
    ·intro a W hg hop;have h21:_=_:=hq hop 21;have h21':=tg h21;refine⟨48,#[.int .u64 nu,.int .i64 10],?_,(OH nu HNU.out W (HLA.out.le hg)).mono ?_⟩
     ·simp only[execOp,h21];go_simp
     ·rintro e w' ⟨rfl,hle⟩;exact⟨_,rfl,hle,rfl⟩
   ·refine AA fun a W hg hop=>?_;have h22:_=_:=hq hop 22;have h22':=tg h22;refine⟨_,?_,rfl⟩;have hst:(st (Lib.decDigits nu))++(⟨#[32]⟩:ByteArray)=st (Lib.decDigits nu++[32]):=GG (Lib.decDigits nu) [32];simp only[execOp,h22];go_simp;first|exact hst|(rw[AF];have:=HDL.out;omega)
   ·refine GrowStep.le ?_ ?_ ?_ ?_
    ·exact fun t v w1 w2 k h=>Nr W0 b nu At p.text.length ct t v w1 w2 k h
    ·exact fun _ _ _ _ h=>h
    ·exact fun w1 w2 k h=>Le.trans h k
    ·intro a W hg hop;have h23:_=_:=hq hop 23;have h23':=tg h23;have hqq:=Iw (P:=Tryz.prog) (e:=5) Tryz.underlying9 Tryz.underlying22 Tryz.underlying5 (st (Lib.decDigits nu++[32])) W;refine⟨_,_,?_,LR W _ _,CvB.conv hg.size (by rw[LA];have:=HDL.out;simp only[LC,LN];omega)⟩;simp only[execOp,h23];go_simp;first|done|(rw[hqq];done)|(rw[hqq];rfl)|rfl
   ·refine AA fun a W hg hop=>?_;have h1:_=_:=hq hop 1;have h1':=tg h1;refine⟨_,?_,rfl⟩;simp only[execOp,h1];go_simp
   ·refine AA fun a W hg hop=>?_;have h25:_=_:=hq hop 25;have h25':=tg h25;have hc:W.cell? ⟨b,2,none⟩=some (.slice At p.text.length ct):=hg.cell HCT.out;refine⟨_,?_,rfl⟩;simp only[execOp,h25];go_simp
  case hend_vo=>
   intro s_ wz hg hS;have h24:CvB W0 wz (s_ 24) (Lib.decDigits nu++[32]):=hS 24 (by decide);have h26:s_ 26= .slice At p.text.length ct:=hS 26 (by decide);have HLW:=Hi (show Le W0 wz from hg);obtain⟨g,cap,e24⟩:=h24.form;rw[e24]at h24;have H24:=Hi h24;clear hS hg h24;simp only[Aj,Act.put,List.setIfInBounds_toArray,List.set_cons_zero,List.set_cons_succ,List.drop_succ_cons,List.drop_zero]
   rw[e24,h26];clear e24 h26;have HBT1:=Hi (HBT.out.le HLW.out);go_wp2_with (at_builtin;refine Ez rfl (.tmp 24) (.tmp 26) rfl (W0:=W0) rfl rfl H24.out HBT1.out (by have:=HDL.out;have:=HS.out.text;simp only[LA,LC,LN];omega) HLW.out ?_)
   intro v7 W7 hb7 hl7;have HB7:=Hi hb7;have HL7:=Hi hl7;clear hb7 hl7;go_wp2;go_ret;exact⟨_,rfl,by rw[HV.out];exact HB7.out,HL0.out.trans HL7.out⟩
 have b5:((tt:Int)==5)=false:=by rw[beq_eq_false_iff_ne];exact h5
 have HN5:=Hi h5;clear h5;go_upto_if 28 with fail
 go_cut [28]from 28 to 32 (fun sx wx=>∃q:Bool,sx= .bool q∧W0=wx∧(q=true↔tt=6∨tt=7∨tt=8))
 case first=>
  by_cases e0:tt=6
  ·have b0:((tt:Int)==6)=true:=by rw[e0];rfl
   have HQ:Hid (tt=6∨tt=7∨tt=8):=Hi (by rw[e0];decide);clear e0;go_wp2;go_meet;case rel=>exact⟨true,by first|rfl|exact congrArg Value.bool b0,rfl,fun _=>HQ.out,fun _=>rfl⟩
  have b0:((tt:Int)==6)=false:=by rw[beq_eq_false_iff_ne];exact e0
  by_cases e1:tt=7
  ·have b1:((tt:Int)==7)=true:=by rw[e1];rfl
   have HQ:Hid (tt=6∨tt=7∨tt=8):=Hi (by rw[e1];decide);clear e0 e1;go_wp2;go_meet;case rel=>exact⟨true,by first|rfl|exact congrArg Value.bool b1,rfl,fun _=>HQ.out,fun _=>rfl⟩
  have b1:((tt:Int)==7)=false:=by rw[beq_eq_false_iff_ne];exact e1
  by_cases e2:tt=8
  ·have b2:((tt:Int)==8)=true:=by rw[e2];rfl
   have HQ:Hid (tt=6∨tt=7∨tt=8):=Hi (by rw[e2];decide);clear e0 e1 e2;go_wp2;go_meet;case rel=>exact⟨true,by first|rfl|exact congrArg Value.bool b2,rfl,fun _=>HQ.out,fun _=>rfl⟩
  have b2:((tt:Int)==8)=false:=by rw[beq_eq_false_iff_ne];exact e2
  have HQ:Hid (¬(tt=6∨tt=7∨tt=8)):=Hi (by omega);clear e0 e1 e2;go_wp2;go_meet;case rel=>exact⟨false,rfl,rfl,(fun h=>by cases h),fun h=>absurd h HQ.out⟩
 case rest=>
 obtain⟨q,rfl,rfl,hqq⟩:=hcut;cases q;case true=>
  have HV:Hid (vTx p p.uri=Lib.decDigits nu):=Hi (by
   have h:=hqq.1 rfl;have ha:=HA.out;rw[HTP.out]at h ha;unfold vTx;rw[if_neg ha,if_neg (by omega),if_pos h,HNP.out])
  have g15:=HCN.out;have hwr:=IntWalk.u64_in (nu:Int) (by have:=HNU.out;omega);clear hqq;go_wp2_with fail
  refine(OH nu HNU.out W0 HLA.out).mono ?_;rintro e W1 ⟨rfl,hle⟩;obtain⟨B1,c1,V1,q1,le1,bt1⟩:=AT (base:=0) W1 (st (Lib.decDigits nu)) (Nat.zero_le _) (by rw[AF];have:=HDL.out;omega);rw[AV]at bt1;have HBN:=Hi bt1.1;have HLE:Hid (Le w V1):=Hi ((HL0.out.trans hle).trans le1);clear bt1 hle le1;go_wp2;go_ret;exact⟨_,rfl,by rw[HV.out];exact HBN.out,HLE.out⟩
 have HN6:Hid (¬(tt=6∨tt=7∨tt=8)):=Hi (fun h=>by have:=hqq.2 h;cases this);clear hqq;by_cases h9:tt=9
 ·have b9:((tt:Int)==9)=true:=by rw[h9];rfl
  have HV:Hid (vTx p p.uri=KV p):=Hi (by
   have ha:=HA.out;rw[HTP.out]at h9 ha;unfold vTx;rw[if_neg ha,if_neg (by omega),if_neg (by omega),if_pos h9])
  clear h9;go_wp2_with (refine wpList_load_row rfl 37 (.tmp 1) rfl b rfl 37 XV.row (0,0) _ HB.out Tryz.underlying37 rfl AS ?_)
  refine(Ou ψ XV p W0 HX0.out HS.out).mono ?_;rintro e W1 ⟨v,rfl,hown,hle⟩;have HBV:=Hi (hown.bv (by have:=I4 HS.out;omega));have HLE:=Hi hle;clear hown hle;go_wp2;go_ret;exact⟨_,rfl,by rw[HV.out];exact HBV.out,HL0.out.trans HLE.out⟩
 have b9:((tt:Int)==9)=false:=by rw[beq_eq_false_iff_ne];exact h9
 have HN9:=Hi h9;clear h9;go_upto_if 41 with fail
 go_cut [41]from 41 to 45 (fun sx wx=>∃q:Bool,sx= .bool q∧W0=wx∧(q=true↔Et tt))
 case first=>
  by_cases e0:tt=11
  ·have b0:((tt:Int)==11)=true:=by rw[e0];rfl
   have HQ:Hid (Et tt):=Hi (by rw[e0];decide);clear e0;go_wp2;go_meet;case rel=>exact⟨true,by first|rfl|exact congrArg Value.bool b0,rfl,fun _=>HQ.out,fun _=>rfl⟩
  have b0:((tt:Int)==11)=false:=by rw[beq_eq_false_iff_ne];exact e0
  by_cases e1:tt=12
  ·have b1:((tt:Int)==12)=true:=by rw[e1];rfl
   have HQ:Hid (Et tt):=Hi (by rw[e1];decide);clear e0 e1;go_wp2;go_meet;case rel=>exact⟨true,by first|rfl|exact congrArg Value.bool b1,rfl,fun _=>HQ.out,fun _=>rfl⟩
  have b1:((tt:Int)==12)=false:=by rw[beq_eq_false_iff_ne];exact e1
  by_cases e2:tt=13
  ·have b2:((tt:Int)==13)=true:=by rw[e2];rfl
   have HQ:Hid (Et tt):=Hi (by rw[e2];decide);clear e0 e1 e2;go_wp2;go_meet;case rel=>exact⟨true,by first|rfl|exact congrArg Value.bool b2,rfl,fun _=>HQ.out,fun _=>rfl⟩
  have b2:((tt:Int)==13)=false:=by rw[beq_eq_false_iff_ne];exact e2
  have HQ:Hid (¬(Et tt)):=Hi (by unfold Et;omega);clear e0 e1 e2;go_wp2;go_meet;case rel=>exact⟨false,rfl,rfl,(fun h=>by cases h),fun h=>absurd h HQ.out⟩
 case rest=>
 obtain⟨q,rfl,rfl,hqq⟩:=hcut;cases q;case true=>
  have HV:Hid (vTx p p.uri=brT p.uri):=Hi (by
   have h:=hqq.1 rfl;have ha:=HA.out;have h5:=HN5.out;have h6:=HN6.out;have h9:=HN9.out;rw[HTP.out]at h ha h5 h6 h9;unfold vTx;rw[if_neg ha,if_neg h5,if_neg h6,if_neg h9,if_pos h])
  clear hqq;go_wp2_with (refine BN rfl 35 (.tmp 45) rfl b 4 rfl 37 XV.row XV.uri.row (0,0) _ HB.out (CF XV) Tryz.underlying35 rfl AI ?_)
  refine(JK W0 XV.uri p.uri HX0.out.uri.toUq HS.out.uri HS.out.ulen).mono ?_;rintro e W1 ⟨v,rfl,hown,hle⟩;have HBV:=Hi (hown.bv (by have:=HS.out.ulen;unfold brT;simp only[LA,LC,LN];omega));have HLE:=Hi hle;clear hown hle;go_wp2;go_ret;exact⟨_,rfl,by rw[HV.out];exact HBV.out,HL0.out.trans HLE.out⟩
 have HV:Hid (vTx p p.uri=p.text):=Hi (by
  have ha:=HA.out;have h5:=HN5.out;have h6:=HN6.out;have h9:=HN9.out;have hr:¬Et tt:=fun h=>by have:=hqq.2 h;cases this
  rw[HTP.out]at ha h5 h6 h9 hr;unfold vTx;rw[if_neg ha,if_neg h5,if_neg h6,if_neg h9,if_neg hr])
 have g2:=HCT.out;clear hqq;go_wp2;go_ret;exact⟨_,rfl,by rw[HV.out];exact HBT.out,HL0.out⟩
theorem Ey{w:World}{ops:Array Oper}{rest:List Oper}{o:Oper}{a:Act}{Q:Exit→Act→World→Prop}(hgd:o.guard=none)(s x:Operand)
 (ho:o.op= .call {callee:= .builtin .append,args:= #[s,x],argTypes:= #[22,9]}){base:Nat}{v:Value}{l m:Tx}(hs:a.eval s=v)(hx:a.eval x= .string (st m))
 (hown:AY base w v l)(hl:l.length+m.length≤140737488355328)(hbase:base≤w.heap.size)
 (h:∀v' w',AY base w' v' (l++m)→w.grownBy w' v.ownBlock→wpList Tryz.prog ops Q rest (a.put o.dst v') w'):wpList Tryz.prog ops Q (o::rest) a w:=by
 obtain⟨i0,hi0,hz0,hz1,hz2⟩:=info_parts FT;refine Lib.wpList_append_own_string w hgd s x 22 9 ho base 5 i0 Tryz.underlying22 Tryz.underlying9 hi0 hz0 hz1 hz2 v l.length (u8s l) hs hown (st m) hx (by rw[AF];unfold maxLen;omega) (by rw[AF];omega) hbase ?_;intro v' w' h1 h2 _;refine h v' w' ?_ h2;have e:Lib.strCells (st m)=u8s m:=rfl;rw[e,AF]at h1;unfold AY
 rw[LA];unfold u8s at h1⊢;rw[List.map_append];exact h1
theorem H7{p:PH}(h:HSz p):(vTx p p.uri).length≤2000000100:=by
 have h1:=Jm h;have h2:=I4 h;have h3:=h.text;have h4:=h.ulen;have h5:=MH h.num;unfold vTx brT
 (repeat' split)<;>(try simp only[LA,LC,LN])<;>omega
theorem Hz.withUri{ψ:Nat→Prop}{w:World}{x:HV}{p:PH}{y:UV}{v:PU}(h:Hz ψ w x p)(hy:Uz ψ w y v):Hz ψ w {x with uri:=y} {p with uri:=v}:=
 ⟨h.t,h.name,h.text,h.disp,hy,h.ps,h.op,h.num,h.proto,h.ver,h.tr,h.host,h.port⟩
theorem JI(ψ:Nat→Prop)(x:HV)(p:PH)(v:PU)(w:World)(hx0:Hz ψ w x p)(hgv:gv p.uri=some v)(hl:p.uri.scheme.length+p.uri.raw.length≤1099511626000)(hw:v.wild=false)(hs:HSz {p with uri:=v})
 (ht:0≤p.t∧p.t≤14)(hL:BW w):
 Calls Tryz.prog 10 #[x.val] w fun e w'=>∃a b,e= .returned (.tuple #[a,b])∧Bv w' a (hTx p v)∧Bv w' b (vTx p v)∧Le w w':=by
 have HX:=Hi hx0.now;have HFX:=Hi hx0.fit;have HGV:=Hi hgv;have HLN:=Hi hl;have HW:=Hi hw;have HS:=Hi hs;have HT:=Hi ht;have HL:=Hi hL;clear hx0 hgv hl hw hs ht hL;change Calls _ _ #[.agg x.row] _ _;go_enter Tryz.func10,Tryz.ntmps10;go_upto_region 1 with fail
 change Code.wp _ _ _ _ (w.alloc (Obj.cells x.row 37));have HB:=Hi (heap_alloc_new w (Obj.cells x.row 37));have HL0:Hid (Le w (w.alloc (Obj.cells x.row 37))):=Hi ((AC w).alloc _);have HSZ:Hid ((w.alloc (Obj.cells x.row 37)).heap.size=w.heap.size+1):=Hi (by simp);generalize w.alloc (Obj.cells x.row 37)=W0 at HB HL0 HSZ⊢;obtain⟨b,hb⟩:∃b,b=w.heap.size:=⟨_,rfl⟩;rw[←hb]at HB HSZ⊢
 have HBW:Hid (w.heap.size=b):=Hi hb.symm;clear hb;go_wp2_with (refine BN rfl 35 (.tmp 7) rfl b 4 rfl 37 x.row x.uri.row (0,0) _ HB.out (CF x) Tryz.underlying35 rfl AI ?_)
 refine(Ir (·<w.heap.size) x.uri p.uri W0 (HX.out.uri.le HL0.out) (fun _=>HLN.out)).mono ?_;rintro e W1 ⟨y,ok,rfl,hle1,hone,hok,huz⟩;have HUZ1:=Hi (huz v HGV.out);have HY1:=Hi hone;have HL1:=Hi hle1;have HR1:=Hi (hle1.heap HB.out);clear hle1 hone hok huz
 go_upto_region 2 with(refine BG rfl 35 (.tmp 12) (.tmp 10) rfl b 4 y.row rfl rfl 37 _ HR1.out AI (show 4+10≤21 by decide) HY1.out ?_)
 intro W2 hz2 hk2;rw[HV.put_uri]at hz2;have HR2:=Hi hz2;have HL2:Hid (Le w W2):=Hi (Below.trans (Le.trans HL0.out HL1.out) (hk2.below (by have:=HBW.out;omega) (Le.trans HL0.out HL1.out).size));have HUZ:Hid (Uz (fun _=>True) W2 y v):=Hi ((HUZ1.out.setH HR1.out HFX.out.nou hk2 (fun g' hg'=>by have:=HBW.out;have:=HSZ.out;omega)).imp fun _ _=>trivial);clear hz2 hk2
 have HX2:Hid (Hz (fun _=>True) W2 {x with uri:=y} {p with uri:=v}):=Hi (((HX.out.le HL2.out).imp fun _ _=>trivial).withUri HUZ.out);obtain⟨X,hX⟩:∃X:HV,X={x with uri:=y}:=⟨_,rfl⟩;obtain⟨P,hP⟩:∃P:PH,P={p with uri:=v}:=⟨_,rfl⟩;have HPV:Hid (vTx P P.uri=vTx p v∧nTx P=nTx p∧P.t=p.t∧P.name=p.name∧P.uri.wild=false):=Hi (by rw[hP];exact⟨rfl,rfl,rfl,rfl,HW.out⟩);rw[←hX]at HR2 HX2
 rw[←hP]at HX2 HS;clear hX hP;go_wp2_with (refine wpList_load_row rfl 37 (.tmp 1) rfl b rfl 37 X.row (0,0) _ HR2.out Tryz.underlying37 rfl AS ?_)
 refine(Mr _ X P W2 HX2.out HPV.out.2.2.2.2 HS.out (HL.out.le HL2.out)).mono ?_;rintro e W3 ⟨v4,rfl,hb4,hle3⟩;have HB4:=Hi hb4;have HL3:=Hi hle3;have HX3:=Hi (HX2.out.le hle3);have HR3:=Hi (hle3.heap HR2.out);obtain⟨A4,c4,rfl⟩:=hb4.form;clear hb4 hle3;obtain⟨An,cn,en⟩:=HX3.out.name.form
 have g1:W3.cell? ⟨b,1,none⟩=some (.slice An P.name.length cn):=by rw[AB HR3.out 1,←en];rfl
 have HBN:Hid (Bv W3 (.slice An P.name.length cn) P.name):=Hi (by rw[←en];exact HX3.out.name);clear en;obtain⟨tt,htt⟩:∃t,t=X.t:=⟨_,rfl⟩;have HTT:Hid (tt=p.t):=Hi (by rw[htt,HX3.out.t,HPV.out.2.2.1]);have g0:W3.cell? ⟨b,0,none⟩=some (.int .i64 tt):=by rw[AB HR3.out 0,htt];rfl
 clear htt;go_upto_region 4 with fail
 go_cut [24]from 17 to 25 (fun s24 wx=>∃q:Bool,s24= .bool q∧W3=wx∧(q=true↔0<tt))
 case first=>
  by_cases h0:0<tt
  ·have hd0:decide (0<tt)=true:=decide_eq_true h0;have hd1:decide (tt≤14)=true:=decide_eq_true (by have:=HTT.out;have:=HT.out;omega);have H0:=Hi h0;clear h0;go_wp2;go_meet;case rel=>exact⟨true,rfl,rfl,fun _=>H0.out,fun _=>rfl⟩
  ·have hd0:decide (0<tt)=false:=decide_eq_false h0;have H0:=Hi h0;clear h0;go_wp2;go_meet;case rel=>exact⟨false,rfl,rfl,(fun h=>by cases h),fun h=>by have:=H0.out;omega⟩
 case rest=>
 obtain⟨q,rfl,rfl,hqq⟩:=hcut;have HQ:=Hi hqq;clear hqq;go_upto_if 24 with fail
 go_cut [5]from 25 to 29 (fun s5 wx=>∃A c,s5= .slice A (nTx p).length c∧Bv wx s5 (nTx p)∧Le W3 wx)
 case first=>
  cases q;case true=>
   have h0:=HQ.out.1 rfl;have HN:Hid (nTx p=nmT tt):=Hi (by have e:=HTT.out;have:=HT.out;unfold nTx;rw[←e,if_pos ⟨h0,by omega⟩]);have HTR:Hid (1≤tt∧tt≤14):=Hi (by have:=HTT.out;have:=HT.out;omega);clear h0;go_wp2_with fail
   refine(EF tt HTR.out.1 HTR.out.2 W3).mono ?_;rintro e w' ⟨rfl,rfl⟩;obtain⟨B1,c1,V1,q1,le1,bt1⟩:=AT (base:=0) W3 (st (nmT tt)) (Nat.zero_le _) (by rw[AF];have:=C3 tt;omega);rw[AV]at bt1;have HBN1:=Hi bt1.1;have HLV:=Hi le1;clear bt1 le1;go_wp2;go_meet;case rel=>exact⟨_,_,by rw[HN.out,←AF],by rw[HN.out];exact HBN1.out,HLV.out⟩
  case false=>
   have HN:Hid (nTx p=P.name):=Hi (by
    have e:=HTT.out;have h0:¬(0<tt):=fun h=>by have:=HQ.out.2 h;cases this
    unfold nTx;rw[←e,if_neg (fun h=>h0 h.1)];exact HPV.out.2.2.2.1.symm)
   go_wp2;go_meet;case rel=>exact⟨_,_,by rw[HN.out],by rw[HN.out];exact HBN.out,AC _⟩
 case rest=>
 obtain⟨A5,c5,rfl,hb5,hle5⟩:=hcut
 rename World=>W5
 have HB5:=Hi hb5;have HL5:Hid (Le w W5):=Hi ((HL2.out.trans HL3.out).trans hle5);have HB45:=Hi (HB4.out.le hle5);have HNL:Hid ((nTx p).length≤1000000):=Hi (by
  have h1:=C3 p.t;have h2:=HS.out.name;rw[HPV.out.2.2.2.1]at h2;unfold nTx;split<;>omega)
 have HN0:=Hi (AY.nil W5.heap.size W5);have HVL:=Hi (H7 HS.out);clear hb5 hle5 g0 g1;go_wp2_with (at_builtin;refine AJ rfl (.const (.slice none 0 0)) (.tmp 29) rfl (base:=W5.heap.size) rfl rfl HN0.out HB5.out (by have:=HNL.out;simp only[LN];omega) (NL _) ?_)
 intro v6 W6 hown6 hgrow6;have HL6:Hid (Le W5 W6):=Hi (Below.grown' (AC W5) hgrow6 (NL _) (fun g hg=>by cases hg));have HO6:Hid (AY W5.heap.size W6 v6 (nTx p)):=Hi hown6;obtain⟨n6,A6,c6,rfl⟩:=hown6.shape;clear hown6 hgrow6
 go_wp2_with (at_builtin;refine Ey rfl (.tmp 30) (.const (.string ⟨#[58,32]⟩)) rfl (base:=W5.heap.size) (m:=[58,32]) rfl rfl HO6.out (by have:=HNL.out;simp only[LC,LN];omega) HL6.out.size ?_)
 intro v7 W7 hown7 hgrow7;have HL7:Hid (Le W5 W7):=Hi (Below.grown' HL6.out hgrow7 (NL _) (fun g hg=>(AK HO6.out g hg).1));have HO7:=Hi hown7;have HB47:=Hi (HB45.out.le HL7.out);obtain⟨n7,A7,c7,rfl⟩:=hown7.shape;clear hown7 hgrow7
 go_wp2_with (at_builtin;refine AJ rfl (.tmp 31) (.tmp 32) rfl (base:=W5.heap.size) rfl rfl HO7.out HB47.out (by have:=HNL.out;have:=HVL.out;simp only[LA,LC,LN];omega) HL7.out.size ?_)
 intro v8 W8 hown8 hgrow8;have HL8:Hid (Le W5 W8):=Hi (Below.grown' HL7.out hgrow8 (NL _) (fun g hg=>(AK HO7.out g hg).1));have HO8:Hid (Bv W8 v8 (nTx p++58::32::vTx P P.uri)):=Hi (hown8.bv (by have:=HNL.out;have:=HVL.out;simp only[LA,LC,LN];omega));have HB48:=Hi (HB45.out.le HL8.out);clear hown8 hgrow8;go_wp2
 go_ret2
 refine⟨_,_,rfl,?_,by rw[←HPV.out.1];exact HB48.out,HL5.out.trans HL8.out⟩;have h:=HO8.out;rw[HPV.out.1]at h;exact h
def hvN(l:KVs)(k:Nat):Nat:=l.length+((l.take k).map (fun x=>x.1.length+x.2.length)).sum
theorem NQ{l:KVs}{k:Nat}(h:k<l.length):hvN l (k+1)=hvN l k+(l[k].1.length+l[k].2.length):=by
 unfold hvN;rw[List.take_succ_eq_append_getElem h,List.map_append,List.sum_append];simp only[List.map_cons,List.map_nil,List.sum_cons,List.sum_nil];omega
theorem Ol{l:List Nat}{x:Nat}(h:x∈l):x≤l.sum:=by
 induction l with
 |nil=>cases h
 |cons y r ih=>
  rw[List.sum_cons];rcases List.mem_cons.1 h with rfl|h
  ·omega
  ·have:=ih h;omega
theorem Lj{l:KVs}{x:Tx×Tx}(h:x∈l):l.length+(x.1.length+x.2.length)≤hvN l l.length:=by
 unfold hvN;rw[List.take_length];have:=Ol (List.mem_map_of_mem (f:=fun x:Tx×Tx=>x.1.length+x.2.length) h);omega
theorem Pb(l:KVs)(k:Nat):l.length≤hvN l k:=by unfold hvN;omega
def QD(l:KVs)(w:World)(e:Ending)(w':World):Prop:=∃n:Nat,e= .returned (.int .i64 n)∧(n≤8192→hvN l l.length≤n)∧n≤1125899906842624∧Le w w'
theorem Il(φ:Nat→Prop)(v:Value)(l:KVs)(w:World)(hv:Kq φ w v l):Calls Tryz.prog 15 #[v] w (QD l w):=by
 have HV:=Hi hv;obtain⟨A,c,rfl,h1,h2,h3,h5⟩:=hv;have H5:=Hi h5;clear h5;go_enter Tryz.func15,Tryz.ntmps15;go_wp2
 go_loopg [3,4] (l.length) (fun n s i wr=>∃k:Nat,n+k=l.length∧i= .int .i64 k∧s= .int .i64 (hvN l k)∧hvN l k≤1125899906842624∧Dr w wr)
 case atStart=>exact⟨0,by omega,rfl,by simp[hvN],by simp[hvN];omega,Dr.refl w⟩
 case round=>
  obtain⟨k,hn,rfl,rfl,hb,hdr⟩:=hrel;have HD:=Hi hdr;have HN:gk+k≤l.length∧l.length≤gk+k:=by omega
  clear hn hdr;by_cases hlt:k<l.length
  ·obtain⟨g,o,rfl,_,hc⟩:=H5.out (by omega);obtain⟨x,y,d1,d2,hx,hy⟩:=hc k hlt;obtain⟨Ax,cx,rfl,lx⟩:=As hx.1;obtain⟨Ay,cy,rfl,ly⟩:=As hy.1;have lx':=hx.1;have ly':=hy.1;have bx:l[k].1.length≤140737488355328:=by obtain⟨_,_,_,_,_,h⟩:=lx';exact h.1
   have bY:l[k].2.length≤140737488355328:=by obtain⟨_,_,_,_,_,h⟩:=ly';exact h.1
   have e1:=HD.out.le.cell d1;have e2:=HD.out.le.cell d2;have hs:=NQ hlt;have HS:=Hi hs;clear hc d1 d2 hx hy lx ly lx' ly' hs;by_cases hm:hvN l k≤65536
   ·have hle:decide ((hvN l k:Int)≤65536)=true:=decide_eq_true (by omega);have HM:=Hi hm;have H2:Hid (hvN l (k+1)≤1125899906842624):=Hi (by have:=HS.out;omega);generalize hvN l k=n0 at hle HM HS hb hm;generalize l[k].1.length=a at e1 bx HS;generalize l[k].2.length=b at e2 bY HS;have s1:IntKind.i64.wrap ((a:Int)+b)=(a:Int)+b:=IntWalk.i64_in _ (by omega)
    have s2:IntKind.i64.wrap ((n0:Int)+((a:Int)+b))=(n0:Int)+((a:Int)+b):=IntWalk.i64_in _ (by omega);have S3:Hid ((n0:Int)+((a:Int)+b)=((hvN l (k+1):Nat):Int)):=Hi (by have:=HS.out;omega);clear bx bY hb hm;go_wp2
    go_quiet (fail)
    rw[S3.out];go_wp2;go_roundg (gk-1)
    case measure=>omega
    case rel=>exact⟨k+1,by omega,by go_num,rfl,H2.out,HD.out.step _⟩
   ·have hle:decide ((hvN l k:Int)≤65536)=false:=decide_eq_false (by omega);have HX:Hid ((hvN l k≤8192→hvN l l.length≤hvN l k)∧hvN l k≤1125899906842624):=Hi ⟨fun h=>by omega,hb⟩;clear hm hb HS;generalize hvN l k=n0 at hle HX;go_wp2;go_ret;exact⟨n0,rfl,HX.out.1,HX.out.2,HD.out.le⟩
  ·have e:k=l.length:=by omega
   have HX:Hid ((hvN l k≤8192→hvN l l.length≤hvN l k)∧hvN l k≤1125899906842624):=Hi ⟨fun _=>by rw[e];exact NL _,hb⟩;clear e hb;generalize hvN l k=n0 at HX;go_wp2;go_ret;exact⟨n0,rfl,HX.out.1,HX.out.2,HD.out.le⟩
end Go.Proofs.YtejhpdcjafbklaaGreatDoor
