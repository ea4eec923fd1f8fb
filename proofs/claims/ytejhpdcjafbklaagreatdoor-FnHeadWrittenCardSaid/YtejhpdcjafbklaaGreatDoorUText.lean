/- The law FnHeadWritten: UText. -/
import Derived.Deep.CutBlock
import Derived.Lib.ItoaLen
import Derived.Test.YtejhpdcjafbklaaGreatDoorText
import Derived.Test.YtejhpdcjafbklaaGreatDoorIp
set_option linter.all false
set_option maxHeartbeats 16000000
set_option maxRecDepth 8000
namespace Go.Proofs.YtejhpdcjafbklaaGreatDoor
open Go.RowKit
theorem Ck(w:World)(v:Value)(l:KVs)(hv:Hp w v l):Calls Tryz.prog 93 #[v] w fun e w'=>e= .returned (.int .i64 l.length)∧w=w':=by
 obtain⟨A,c,rfl,_⟩:=hv;go_enter Tryz.func93,Tryz.ntmps93;go_wp2;go_ret;exact⟨rfl,rfl⟩
theorem Au(l:Tx):(st l).toList.isEmpty=decide (l=[]):=by rw[DX];cases l<;>rfl
def wrS(b o bb k:Nat)(x y:Value)(s0:Nat)(t:Nat)(v:Value)(_:World):Prop:=
 if t=s0 then v= .iface 127 (.pointer (some ⟨bb,0,none⟩))else if t=s0+1 then v= .pointer (some ⟨b,o,none⟩)else if t=s0+2 then v= .pointer (some ⟨b,o,none⟩)
 else if t=s0+3 then v= .pointer (some ⟨b,k,none⟩)else if t=s0+4 then v=x else if t=s0+5 then v=y
 else if t=s0+6 then v= .func (Fn.method "WriteString") #[.iface 127 (.pointer (some ⟨bb,0,none⟩))] #[]
 else if t=s0+7 then v= .func (Fn.method "WriteString") #[.iface 127 (.pointer (some ⟨bb,0,none⟩))] #[]
 else if t=s0+8 then v= .iface 127 (.pointer (some ⟨bb,0,none⟩))
 else if t=0 then v= .pointer (some ⟨b,o,none⟩)else if t=1 then v= .iface 127 (.pointer (some ⟨bb,0,none⟩))else True
def I8(u:PU):Tx:=if u.scheme=[]then Fb else u.scheme
def uSl(u:PU):Tx:=if u.slash=true then [47,47]else []
def CH(u:PU):Tx:=if u.user=[]then []else u.user++((if u.pass=[]then []else 58::u.pass)++[64])
def Cg(u:PU):Tx:=if 0<u.port then 58::Lib.itoa u.port else []
def uPs(l:KVs)(c sep:UInt8):Tx:=if l=[]then []else c::AZ l sep
def BY(u:PU):Tx:=
 I8 u++(58::(if u.raw=[]then uSl u++(CH u++(u.host++(Cg u++(uPs u.ps 59 59++uPs u.hs 63 38))))else u.raw))
structure UW(w0:World)(bb:Nat)(t:Tx)(w:World):Prop where
 le:Le w0 w
 bld:Bld w0.heap.size bb t w
theorem UW.ws{w0:World}{bb:Nat}{t:Tx}{w:World}(h:UW w0 bb t w)(s:ByteArray)(hl:t.length+s.size≤140737488355328):
 Calls Tryz.prog 107 #[.pointer (some ⟨bb,0,none⟩),.string s] w fun e w'=>e= .returned (.tuple #[.int .i64 s.size,.nilIface])∧UW w0 bb (t++bs s) w':=
 (Hx _ _ _ s _ h.bld hl).mono fun e w' ⟨he,h1,h2⟩=>⟨he,Below.trans h.le h2.1,h1⟩
theorem UW.grow{w0:World}{bb:Nat}{t:Tx}{w w':World}(h:UW w0 bb t w)(k:Le w w'):UW w0 bb t w':=⟨h.le.trans k,h.bld.le k⟩
def UIn(w:World)(b o:Nat)(u:PU):Prop:=∃pv hv,(∀k v,(u.cells pv hv)[k]? =some v→w.cell? ⟨b,o+k,none⟩=some v)∧Hp w pv u.ps∧Hp w hv u.hs∧u.small
theorem UIn.le{w w':World}{b o:Nat}{u:PU}(h:UIn w b o u)(k:Le w w'):UIn w' b o u:=by
 obtain⟨pv,hv,h1,h2,h3,h4⟩:=h;exact⟨pv,hv,fun j v e=>k.cell (h1 j v e),h2.le k,h3.le k,h4⟩
theorem UAt.in_{w:World}{b:Nat}{u:PU}(h:UAt w b u):UIn w b 0 u:=by
 obtain⟨pv,hv,h1,h2,h3,h4⟩:=h;exact⟨pv,hv,fun j v e=>by rw[Nat.zero_add,AB h1];exact e,h2,h3,h4⟩
theorem Bn(w0 w:World)(b o bb:Nat)(t0:Tx)(ht0:t0.length≤1099511627776)(u:PU)(hu:UIn w0 b o u)(hw:UW w0 bb t0 w)(hL:BW w0)
 (hn:∀k (h:k<(st u.host).size),(st u.host)[k]'h≠58)
 (hlp:(u.ps.flatMap (Ae 59)).length≤1099511627776)(hlh:(u.hs.flatMap (Ae 38)).length≤1099511627776):
 Calls Tryz.prog 69 #[.pointer (some ⟨b,o,none⟩),.iface 127 (.pointer (some ⟨bb,0,none⟩))] w fun e w'=>e= .returned (.tuple #[])∧UW w0 bb (t0++BY u) w':=by
 obtain⟨pv,hv,hbk,hp,hh,hs⟩:=hu;have HBK:=Hi hbk;have HP:=Hi hp;have HH:=Hi hh;have hsc:u.scheme.length≤1099511627776∧u.raw.length≤1099511627776∧u.user.length≤1099511627776∧u.pass.length≤1099511627776∧u.host.length≤1099511627776:=⟨hs.1,hs.2.1,hs.2.2.1,hs.2.2.2.1,hs.2.2.2.2.1⟩;have hsu:(I8 u).length≤1099511627776:=by
  unfold I8;split
  ·decide
  ·exact hsc.1
 have hus:(CH u).length≤2199023255560:=by
  unfold CH;split
  ·simp
  ·split<;>simp only[LA,LC,LN]<;>omega
 have hpl:=Lib.itoa_length_le u.port hs.2.2.2.2.2.1 hs.2.2.2.2.2.2;have hpo:(Cg u).length≤22:=by
  unfold Cg;split
  ·simp only[LC];omega
  ·simp
 have hpt:(AZ u.ps 59).length≤1099511627776:=by unfold AZ;simp only[List.length_drop];omega
 have hht:(AZ u.hs 38).length≤1099511627776:=by unfold AZ;simp only[List.length_drop];omega
 have hsl:(uSl u).length≤2:=by unfold uSl;split<;>simp
 have HS:=Hi hs;have HPO:Hid (-9223372036854775808≤u.port∧u.port≤9223372036854775807):=Hi hs.2.2.2.2.2;have HZ:=Hi (⟨hsc,hsu,hpl,hus,hpo,hpt,hht,hsl,ht0⟩:_∧_∧_∧_∧_∧_∧_∧_∧_);have HLAID:=Hi hL;have HW0:=Hi hw;have HHN:=Hi hn;have HLP:=Hi hlp;have HLH:=Hi hlh;have g0:w.cell? ⟨b,o,none⟩=some (.string (st u.scheme)):=hw.le.cell (hbk 0 _ rfl)
 clear ht0 hbk hp hh hs hL hw hn hlp hlh hsc hsu hpl hus hpo hpt hht hsl;go_enter Tryz.func69,Tryz.ntmps69;go_upto_if 13 with fail
 go_cut [4]from 5 (fun s4 wc=>s4= .string (st (I8 u))∧wc=w)
 case first=>
  by_cases h0:u.scheme=[]
  ·have h1:(st u.scheme).toList.isEmpty=true:=by rw[Au];simpa using h0
   have h2:Hid (I8 u=Fb):=Hi (by unfold I8;rw[if_pos h0]);clear h0;rw[h1];go_wp2;go_meet;case rel=>exact⟨by rw[h2.out];rfl,rfl⟩
  ·have h1:(st u.scheme).toList.isEmpty=false:=by rw[Au];simpa using h0
   have h2:Hid (I8 u=u.scheme):=Hi (by unfold I8;rw[if_neg h0]);clear h0;rw[h1];go_wp2;go_meet;case rel=>exact⟨by rw[h2.out],rfl⟩
 obtain⟨rfl,rfl⟩:=hcut;have hut:Hid (BY u=I8 u++(58::(if u.raw=[]then uSl u++(CH u++(u.host++(Cg u++(uPs u.ps 59 59++uPs u.hs 63 38))))else u.raw))):=Hi rfl;generalize I8 u=sch at HZ hut⊢;clear g0;have hna:∀(n:Nat) (w:World),(nilAhead (n+1) 127 (.pointer (some ⟨bb,0,none⟩)) "WriteString").run Tryz.prog w= .ok (some false) w:=fun n w=>by kernel_rfl
 go_wp2_with fail
 refine(HW0.out.ws (st sch) (by have hz:=HZ.out;simp only[LA,LC,LN,AF];(try simp only[ByteArray.size,List.size_toArray,LC,LN]);omega)).mono ?_;rintro e w1 ⟨rfl,hw1⟩;have HW1:Hid (UW w0 bb (t0++sch) w1):=Hi hw1;clear hw1;go_wp2_with fail
 refine(HW1.out.ws ⟨#[58]⟩ (by have hz:=HZ.out;simp only[LA,LC,LN,AF];(try simp only[ByteArray.size,List.size_toArray,LC,LN]);omega)).mono ?_;rintro e w2 ⟨rfl,hw2⟩;have HW2:Hid (UW w0 bb (t0++sch++[58]) w2):=Hi hw2;clear hw2;have g1:w2.cell? ⟨b,o+1,none⟩=some (.string (st u.raw)):=HW2.out.le.cell (HBK.out 1 _ rfl)
 by_cases hraw:u.raw=[];case neg=>
  have h1:(st u.raw).toList.isEmpty=false:=by rw[Au];simpa using hraw
  rw[if_neg hraw]at hut;clear hraw;go_wp2;go_still_tail 8,(by kernel_rfl)
  change wpList _ _ _ _ _ (World.drew _);have HWd3:=Hi (HW2.out.grow (AC _).drew);generalize World.drew _=wd3 at HWd3⊢;go_wp2_with fail
  refine(HWd3.out.ws (st u.raw) (by have hz:=HZ.out;simp only[LA,LC,LN,AF];(try simp only[ByteArray.size,List.size_toArray,LC,LN]);omega)).mono ?_;rintro e w3 ⟨rfl,hw3⟩;have HW3:Hid (UW w0 bb (t0++sch++[58]++u.raw) w3):=Hi hw3;clear hw3;go_wp2
  (try simp only[Exit.inBlock,Exit.then])
  refine bodyPost_ret (results_none rfl _ _ _) rfl ?_;refine⟨rfl,?_⟩;rw[hut.out];have h:=HW3.out;simp only[List.nil_append,List.append_assoc,List.singleton_append]at h;exact h
 have h1:(st u.raw).toList.isEmpty=true:=by rw[Au];simpa using hraw
 rw[if_pos hraw]at hut;clear hraw;have g3:w2.cell? ⟨b,o+3,none⟩=some (.bool u.slash):=HW2.out.le.cell (HBK.out 3 _ rfl);go_upto_if 36 with fail
 go_cut []from 5 (fun wc=>UW w0 bb (t0++sch++[58]++uSl u) wc)
 case first=>
  by_cases hsl:u.slash=true
  ·rw[hsl];have h2:Hid (uSl u=[47,47]):=Hi (by unfold uSl;rw[if_pos hsl]);clear hsl;go_wp2_with fail
   refine(HW2.out.ws ⟨#[47,47]⟩ (by have hz:=HZ.out;simp only[LA,LC,LN,AF];(try simp only[ByteArray.size,List.size_toArray,LC,LN]);omega)).mono ?_;rintro e w3 ⟨rfl,hw3⟩;have HW3:Hid (UW w0 bb (t0++sch++[58]++[47,47]) w3):=Hi hw3;clear hw3;go_wp2;go_meet;case rel=>rw[h2.out];exact HW3.out
  ·rw[show u.slash=false from by simpa using hsl];have h2:Hid (uSl u=[]):=Hi (by unfold uSl;rw[if_neg hsl]);clear hsl;go_wp2;go_meet;case rel=>rw[h2.out,List.append_nil];exact HW2.out
 rename World=>w3
 have HW3:=Hi hcut;clear hcut;have g4:w3.cell? ⟨b,o+4,none⟩=some (.string (st u.user)):=HW3.out.le.cell (HBK.out 4 _ rfl);go_upto_if 43 with fail
 go_cut []from 5 (fun wc=>UW w0 bb (t0++sch++[58]++uSl u++CH u) wc)
 case first=>
  by_cases hu0:u.user=[]
  ·have hq:(st u.user).toList.isEmpty=true:=by rw[Au];simpa using hu0
   have h2:Hid (CH u=[]):=Hi (by unfold CH;rw[if_pos hu0]);rw[hq];clear hu0;go_wp2;go_meet;case rel=>rw[h2.out,List.append_nil];exact HW3.out
  ·have hq:(st u.user).toList.isEmpty=false:=by rw[Au];simpa using hu0
   have h2:Hid (CH u=u.user++((if u.pass=[]then []else 58::u.pass)++[64])):=Hi (by unfold CH;rw[if_neg hu0]);rw[hq];clear hu0;go_wp2;go_still_tail 8,(by kernel_rfl)
   change wpList _ _ _ _ _ (World.drew _);have HWd4:=Hi (HW3.out.grow (AC _).drew);generalize World.drew _=wd4 at HWd4⊢;go_wp2_with fail
   refine(HWd4.out.ws (st u.user) (by have hz:=HZ.out;simp only[LA,LC,LN,AF];(try simp only[ByteArray.size,List.size_toArray,LC,LN]);omega)).mono ?_;rintro e w4 ⟨rfl,hw4⟩;have HW4:Hid (UW w0 bb (t0++sch++[58]++uSl u++u.user) w4):=Hi hw4;clear hw4
   have g5:w4.cell? ⟨b,o+5,none⟩=some (.string (st u.pass)):=HW4.out.le.cell (HBK.out 5 _ rfl);by_cases hp0:u.pass=[]
   ·have hq2:(st u.pass).toList.isEmpty=true:=by rw[Au];simpa using hp0
    rw[if_pos hp0]at h2;clear hp0;go_wp2_with fail
    refine(HW4.out.ws ⟨#[64]⟩ (by have hz:=HZ.out;simp only[LA,LC,LN,AF];(try simp only[ByteArray.size,List.size_toArray,LC,LN]);omega)).mono ?_;rintro e w5 ⟨rfl,hw5⟩;have HW5:Hid (UW w0 bb (t0++sch++[58]++uSl u++u.user++[64]) w5):=Hi hw5;clear hw5;go_wp2;go_meet
    case rel=>rw[h2.out];have h:=HW5.out;simp only[List.nil_append,List.append_assoc]at h⊢;exact h
   ·have hq2:(st u.pass).toList.isEmpty=false:=by rw[Au];simpa using hp0
    rw[if_neg hp0]at h2;clear hp0;go_wp2_with fail
    refine(HW4.out.ws ⟨#[58]⟩ (by have hz:=HZ.out;simp only[LA,LC,LN,AF];(try simp only[ByteArray.size,List.size_toArray,LC,LN]);omega)).mono ?_;rintro e w5 ⟨rfl,hw5⟩;have HW5:Hid (UW w0 bb (t0++sch++[58]++uSl u++u.user++[58]) w5):=Hi hw5;clear hw5
    have g5':w5.cell? ⟨b,o+5,none⟩=some (.string (st u.pass)):=HW5.out.le.cell (HBK.out 5 _ rfl);go_wp2;go_still_tail 8,(by kernel_rfl)
    change wpList _ _ _ _ _ (World.drew _);have HWd6:=Hi (HW5.out.grow (AC _).drew);generalize World.drew _=wd6 at HWd6⊢;go_wp2_with fail
    refine(HWd6.out.ws (st u.pass) (by have hz:=HZ.out;simp only[LA,LC,LN,AF];(try simp only[ByteArray.size,List.size_toArray,LC,LN]);omega)).mono ?_;rintro e w6 ⟨rfl,hw6⟩;have HW6:Hid (UW w0 bb (t0++sch++[58]++uSl u++u.user++[58]++u.pass) w6):=Hi hw6;clear hw6;go_wp2_with fail
    refine(HW6.out.ws ⟨#[64]⟩ (by have hz:=HZ.out;simp only[LA,LC,LN,AF];(try simp only[ByteArray.size,List.size_toArray,LC,LN]);omega)).mono ?_;rintro e w7 ⟨rfl,hw7⟩;have HW7:Hid (UW w0 bb (t0++sch++[58]++uSl u++u.user++[58]++u.pass++[64]) w7):=Hi hw7;clear hw7;go_wp2;go_meet
    case rel=>rw[h2.out];have h:=HW7.out;simp only[List.nil_append,List.append_assoc,List.cons_append]at h⊢;exact h
 rename_i w4
 have HW4:=Hi hcut;clear hcut;go_wp2;have hm:(Tryz.prog).follows .mixedOrders=true:=by kernel_rfl
 refine wp_region_grow_tail (wrS b o bb (o+6) (.string (st u.host)) (.string (st u.host)) 71) (UW w0 bb (t0++sch++[58]++uSl u++CH u)) 148 9 [71,72,73,74,75,76,77,78,79] hm (by kernel_rfl) rfl rfl (HW4.out.grow (AC _).drew) ?hold5 ?hs5 ?hend5;case hold5=>
  intro t ht;simp only[List.mem_cons,List.mem_nil_iff,or_false,not_or]at ht;unfold wrS;simp only[if_neg ht.1,if_neg ht.2.1,if_neg ht.2.2.1,if_neg ht.2.2.2.1,if_neg ht.2.2.2.2.1,if_neg ht.2.2.2.2.2.1,if_neg ht.2.2.2.2.2.2.1,if_neg ht.2.2.2.2.2.2.2.1,if_neg ht.2.2.2.2.2.2.2.2];split
  ·rename_i e;subst e;rfl
  ·split
   ·rename_i e;subst e;rfl
   ·exact trivial
 case hs5=>
  simp only[List.take_succ_cons,List.take_zero];refine⟨?_,?_,?_,?_,?_,?_,?_,?_,?_,trivial⟩
  ·refine AA fun a W hg hop=>?_;have h1:a.eval (.tmp 1)=(Value.iface 127 (.pointer (some ⟨bb,0,none⟩))):=(hop 1 (by simp[Op.operands,Call.operands]));refine⟨_,?_,rfl⟩;simp only[execOp,h1];go_simp
  ·refine AA fun a W hg hop=>?_;have h1:a.eval (.tmp 0)=(Value.pointer (some ⟨b,o,none⟩)):=(hop 0 (by simp[Op.operands,Call.operands]));refine⟨_,?_,rfl⟩;simp only[execOp,h1];go_simp
  ·refine AA fun a W hg hop=>?_;have h1:a.eval (.tmp 72)=(Value.pointer (some ⟨b,o,none⟩)):=(hop 72 (by simp[Op.operands,Call.operands]));refine⟨_,?_,rfl⟩;simp only[execOp,h1];go_simp
  ·refine AA fun a W hg hop=>?_;have h1:a.eval (.tmp 73)=(Value.pointer (some ⟨b,o,none⟩)):=(hop 73 (by simp[Op.operands,Call.operands]));refine⟨_,?_,rfl⟩;simp only[execOp,h1];go_simp
  ·refine AA fun a W hg hop=>?_;have h1:a.eval (.tmp 74)= .pointer (some ⟨b,o+6,none⟩):=(hop 74 (by simp[Op.operands,Call.operands]));have h2:W.cell? ⟨b,o+6,none⟩=some (.string (st u.host)):=hg.le.cell (HBK.out 6 _ rfl);refine⟨_,?_,rfl⟩;simp only[execOp,h1];go_simp
  ·refine AG ?_ ?_ ?_ ?_
   ·exact fun t u w w' _ h=>h
   ·exact fun _ _ _ _ h=>h
   ·exact fun w w' k h=>h.grow k
   intro a W hg hop;have h1:a.eval (.tmp 75)= .string (st u.host):=(hop 75 (by simp[Op.operands,Call.operands]));have h1':=tg h1;refine⟨91,#[.string (st u.host)],?_,(Ka (st u.host) W HHN.out (by have:=HZ.out;rw[AF];omega) (HLAID.out.le hg.le)).mono ?_⟩
   ·simp only[execOp,h1];go_simp
   ·rintro e w' ⟨rfl,hle⟩;exact⟨_,rfl,hle,rfl⟩
  ·refine AA fun a W hg hop=>?_;have h1:a.eval (.tmp 71)=(Value.iface 127 (.pointer (some ⟨bb,0,none⟩))):=(hop 71 (by simp[Op.operands,Call.operands]));have h1':=tg h1;refine⟨_,?_,rfl⟩;simp only[execOp];go_simp
  ·refine AA fun a W hg hop=>?_;have h1:a.eval (.tmp 77)=(Value.func (Fn.method "WriteString") #[(Value.iface 127 (.pointer (some ⟨bb,0,none⟩)))] #[]):=(hop 77 (by simp[Op.operands,Call.operands]));refine⟨_,?_,rfl⟩;simp only[execOp,h1];go_simp
  ·refine AA fun a W hg hop=>?_;have h1:a.eval (.tmp 71)=(Value.iface 127 (.pointer (some ⟨bb,0,none⟩))):=(hop 71 (by simp[Op.operands,Call.operands]));refine⟨_,?_,rfl⟩;simp only[execOp,h1];go_simp
 case hend5=>
  intro v wt hG hS;have HWt:=Hi hG;have v71:v 71=(Value.iface 127 (.pointer (some ⟨bb,0,none⟩))):=hS 71 (by simp);have v72:v 72=(Value.pointer (some ⟨b,o,none⟩)):=hS 72 (by simp);have v73:v 73=(Value.pointer (some ⟨b,o,none⟩)):=hS 73 (by simp);have v74:v 74=Value.pointer (some ⟨b,o+6,none⟩):=hS 74 (by simp);have v75:v 75= .string (st u.host):=hS 75 (by simp)
  have v76:v 76= .string (st u.host):=hS 76 (by simp);have v77:v 77=(Value.func (Fn.method "WriteString") #[(Value.iface 127 (.pointer (some ⟨bb,0,none⟩)))] #[]):=hS 77 (by simp);have v78:v 78=(Value.func (Fn.method "WriteString") #[(Value.iface 127 (.pointer (some ⟨bb,0,none⟩)))] #[]):=hS 78 (by simp);have v79:v 79=(Value.iface 127 (.pointer (some ⟨bb,0,none⟩))):=hS 79 (by simp);clear hS hG
  simp only[Aj,v71,v72,v73,v74,v75,v76,v77,v78,v79,Act.put,List.setIfInBounds_toArray,List.set_cons_zero,List.set_cons_succ,List.drop_succ_cons,List.drop_zero];clear v71 v72 v73 v74 v75 v76 v77 v78 v79;go_wp2_with fail
  refine(HWt.out.ws (st u.host) (by have hz:=HZ.out;simp only[LA,LC,LN,AF];(try simp only[ByteArray.size,List.size_toArray,LC,LN]);omega)).mono ?_;rintro e w5 ⟨rfl,hw5⟩;have HW5:Hid (UW w0 bb (t0++sch++[58]++uSl u++CH u++u.host) w5):=Hi hw5;clear hw5
  have g7:w5.cell? ⟨b,o+7,none⟩=some (.int .i64 u.port):=HW5.out.le.cell (HBK.out 7 _ rfl);go_upto_if 85 with fail
  go_cut []from 5 (fun wc=>UW w0 bb (t0++sch++[58]++uSl u++CH u++u.host++Cg u) wc)
  case first=>
   by_cases hpo:0<u.port
   ·have hq:decide (0<u.port)=true:=by simpa using hpo
    have h2:Hid (Cg u=58::Lib.itoa u.port):=Hi (by unfold Cg;rw[if_pos hpo]);simp only[hq];clear hpo;go_wp2_with fail
    refine(HW5.out.ws ⟨#[58]⟩ (by have hz:=HZ.out;simp only[LA,LC,LN,AF];(try simp only[ByteArray.size,List.size_toArray,LC,LN]);omega)).mono ?_;rintro e w6 ⟨rfl,hw6⟩;have HW6:Hid (UW w0 bb (t0++sch++[58]++uSl u++CH u++u.host++[58]) w6):=Hi hw6;clear hw6;go_wp2
    have hm:(Tryz.prog).follows .mixedOrders=true:=by kernel_rfl
    refine wp_region_grow_tail (wrS b o bb (o+7) (.int .i64 u.port) (.string (st (Lib.itoa u.port))) 88) (UW w0 bb (t0++sch++[58]++uSl u++CH u++u.host++[58])) 148 9 [88,89,90,91,92,93,94,95,96] hm (by kernel_rfl) rfl rfl (HW6.out.grow (AC _).drew) ?hold7 ?hs7 ?hend7;case hold7=>
     intro t ht;simp only[List.mem_cons,List.mem_nil_iff,or_false,not_or]at ht;unfold wrS;simp only[if_neg ht.1,if_neg ht.2.1,if_neg ht.2.2.1,if_neg ht.2.2.2.1,if_neg ht.2.2.2.2.1,if_neg ht.2.2.2.2.2.1,if_neg ht.2.2.2.2.2.2.1,if_neg ht.2.2.2.2.2.2.2.1,if_neg ht.2.2.2.2.2.2.2.2];split
     ·rename_i e;subst e;rfl
     ·split
      ·rename_i e;subst e;rfl
      ·exact trivial
    case hs7=>
     simp only[List.take_succ_cons,List.take_zero];refine⟨?_,?_,?_,?_,?_,?_,?_,?_,?_,trivial⟩
     ·refine AA fun a W hg hop=>?_;have h1:a.eval (.tmp 1)=(Value.iface 127 (.pointer (some ⟨bb,0,none⟩))):=(hop 1 (by simp[Op.operands,Call.operands]));refine⟨_,?_,rfl⟩;simp only[execOp,h1];go_simp
     ·refine AA fun a W hg hop=>?_;have h1:a.eval (.tmp 0)=(Value.pointer (some ⟨b,o,none⟩)):=(hop 0 (by simp[Op.operands,Call.operands]));refine⟨_,?_,rfl⟩;simp only[execOp,h1];go_simp
     ·refine AA fun a W hg hop=>?_;have h1:a.eval (.tmp 89)=(Value.pointer (some ⟨b,o,none⟩)):=(hop 89 (by simp[Op.operands,Call.operands]));refine⟨_,?_,rfl⟩;simp only[execOp,h1];go_simp
     ·refine AA fun a W hg hop=>?_;have h1:a.eval (.tmp 90)=(Value.pointer (some ⟨b,o,none⟩)):=(hop 90 (by simp[Op.operands,Call.operands]));refine⟨_,?_,rfl⟩;simp only[execOp,h1];go_simp
     ·refine AA fun a W hg hop=>?_;have h1:a.eval (.tmp 91)= .pointer (some ⟨b,o+7,none⟩):=(hop 91 (by simp[Op.operands,Call.operands]));have h2:W.cell? ⟨b,o+7,none⟩=some (.int .i64 u.port):=hg.le.cell (HBK.out 7 _ rfl);refine⟨_,?_,rfl⟩;simp only[execOp,h1];go_simp
     ·refine AG ?_ ?_ ?_ ?_
      ·exact fun t u w w' _ h=>h
      ·exact fun _ _ _ _ h=>h
      ·exact fun w w' k h=>h.grow k
      intro a W hg hop;have h1:a.eval (.tmp 92)= .int .i64 u.port:=(hop 92 (by simp[Op.operands,Call.operands]));have h1':=tg h1;refine⟨92,#[.int .i64 u.port],?_,(Fl u.port W HPO.out.1 HPO.out.2 (HLAID.out.le hg.le)).mono ?_⟩
      ·simp only[execOp,h1];go_simp
      ·rintro e w' ⟨rfl,hle⟩;exact⟨_,rfl,hle,rfl⟩
     ·refine AA fun a W hg hop=>?_;have h1:a.eval (.tmp 88)=(Value.iface 127 (.pointer (some ⟨bb,0,none⟩))):=(hop 88 (by simp[Op.operands,Call.operands]));have h1':=tg h1;refine⟨_,?_,rfl⟩;simp only[execOp];go_simp
     ·refine AA fun a W hg hop=>?_;have h1:a.eval (.tmp 94)=(Value.func (Fn.method "WriteString") #[(Value.iface 127 (.pointer (some ⟨bb,0,none⟩)))] #[]):=(hop 94 (by simp[Op.operands,Call.operands]));refine⟨_,?_,rfl⟩;simp only[execOp,h1];go_simp
     ·refine AA fun a W hg hop=>?_;have h1:a.eval (.tmp 88)=(Value.iface 127 (.pointer (some ⟨bb,0,none⟩))):=(hop 88 (by simp[Op.operands,Call.operands]));refine⟨_,?_,rfl⟩;simp only[execOp,h1];go_simp
    case hend7=>
     intro v wt hG hS;have HWt:=Hi hG;have v88:v 88=(Value.iface 127 (.pointer (some ⟨bb,0,none⟩))):=hS 88 (by simp);have v89:v 89=(Value.pointer (some ⟨b,o,none⟩)):=hS 89 (by simp);have v90:v 90=(Value.pointer (some ⟨b,o,none⟩)):=hS 90 (by simp);have v91:v 91=Value.pointer (some ⟨b,o+7,none⟩):=hS 91 (by simp);have v92:v 92= .int .i64 u.port:=hS 92 (by simp)
     have v93:v 93= .string (st (Lib.itoa u.port)):=hS 93 (by simp);have v94:v 94=(Value.func (Fn.method "WriteString") #[(Value.iface 127 (.pointer (some ⟨bb,0,none⟩)))] #[]):=hS 94 (by simp);have v95:v 95=(Value.func (Fn.method "WriteString") #[(Value.iface 127 (.pointer (some ⟨bb,0,none⟩)))] #[]):=hS 95 (by simp);have v96:v 96=(Value.iface 127 (.pointer (some ⟨bb,0,none⟩))):=hS 96 (by simp)
     clear hS hG;simp only[Aj,v88,v89,v90,v91,v92,v93,v94,v95,v96,Act.put,List.setIfInBounds_toArray,List.set_cons_zero,List.set_cons_succ,List.drop_succ_cons,List.drop_zero];clear v88 v89 v90 v91 v92 v93 v94 v95 v96;go_wp2_with fail
     refine(HWt.out.ws (st (Lib.itoa u.port)) (by have hz:=HZ.out;simp only[LA,LC,LN,AF];(try simp only[ByteArray.size,List.size_toArray,LC,LN]);omega)).mono ?_;rintro e w7 ⟨rfl,hw7⟩;have HW7:Hid (UW w0 bb (t0++sch++[58]++uSl u++CH u++u.host++[58]++Lib.itoa u.port) w7):=Hi hw7;clear hw7;go_wp2;go_meet
     case rel=>rw[h2.out];have h:=HW7.out;simp only[List.nil_append,List.append_assoc,List.cons_append]at h⊢;exact h
   ·have hq:decide (0<u.port)=false:=by simpa using hpo
    have h2:Hid (Cg u=[]):=Hi (by unfold Cg;rw[if_neg hpo]);simp only[hq];clear hpo;go_wp2;go_meet;case rel=>rw[h2.out,List.append_nil];exact HW5.out
  rename World=>w6
  have HW6:=Hi hcut;clear hcut;have g8:w6.cell? ⟨b,o+8,none⟩=some (pv):=HW6.out.le.cell (HBK.out 8 _ rfl);obtain⟨A8,c8,e8,hp8⟩:=HP.out;rw[e8]at g8;have HP8:Hid (Hp w0 (.slice A8 u.ps.length c8) u.ps):=e8▸HP;cases A8 with
  |none=>
   have h0:u.ps=[]:=by
    rcases hx:u.ps with _|⟨x,r⟩
    ·rfl
    ·obtain⟨g,o,e,_⟩:=hp8.2.2.2.2 (by rw[hx];simp);cases e
   have hpf:Hid (uPs u.ps 59 59=[]):=Hi (by unfold uPs;rw[if_pos h0]);clear hp8 h0 e8;have g9:w6.cell? ⟨b,o+9,none⟩=some (hv):=HW6.out.le.cell (HBK.out 9 _ rfl);obtain⟨A9,c9,e9,hp9⟩:=HH.out;rw[e9]at g9;have HH9:Hid (Hp w0 (.slice A9 u.hs.length c9) u.hs):=e9▸HH;cases A9 with
   |none=>
    have h0:u.hs=[]:=by
     rcases hx:u.hs with _|⟨x,r⟩
     ·rfl
     ·obtain⟨g,o,e,_⟩:=hp9.2.2.2.2 (by rw[hx];simp);cases e
    have hf:Hid (uPs u.hs 63 38=[]):=Hi (by unfold uPs;rw[if_pos h0]);clear hp9 h0 e9;go_wp2
    go_returns
    refine⟨rfl,?_⟩;rw[hut.out,hpf.out,hf.out];have h:=HW6.out;simp only[List.nil_append,List.append_assoc,List.cons_append,List.append_nil]at h⊢;exact h
   |some a9=>
    go_wp2_with fail
    refine(Ck _ _ u.hs (HH9.out.le HW6.out.le)).mono ?_;rintro e wl ⟨rfl,rfl⟩;by_cases h0:u.hs=[]
    ·have hzn:¬0<u.hs.length:=by rw[h0];simp
     have hzl:u.hs.length≤0:=by omega
     have hf:Hid (uPs u.hs 63 38=[]):=Hi (by unfold uPs;rw[if_pos h0]);clear hp9 e9 h0;go_wp2
     go_returns
     refine⟨rfl,?_⟩;rw[hut.out,hpf.out,hf.out];have h:=HW6.out;simp only[List.nil_append,List.append_assoc,List.cons_append,List.append_nil]at h⊢;exact h
    ·have hpos:0<u.hs.length:=List.length_pos_iff.2 h0;have hz:decide ((0:Int)<(u.hs.length:Int))=true:=by simp;omega
     have hf:Hid (uPs u.hs 63 38=63::AZ u.hs 38):=Hi (by unfold uPs;rw[if_neg h0]);clear hp9 h0;go_wp2_with fail
     refine(HW6.out.ws ⟨#[63]⟩ (by have hz:=HZ.out;simp only[LA,LC,LN,AF];(try simp only[ByteArray.size,List.size_toArray,LC,LN]);omega)).mono ?_;rintro e w7 ⟨rfl,hw7⟩;have HW7:Hid (UW w0 bb (t0++sch++[58]++uSl u++CH u++u.host++Cg u++[63]) w7):=Hi hw7;clear hw7;go_wp2
     have hm:(Tryz.prog).follows .mixedOrders=true:=by kernel_rfl
     refine wp_region_grow_tail (wrS b o bb (o+9) (hv) (.string (st (AZ u.hs 38))) 138) (UW w0 bb (t0++sch++[58]++uSl u++CH u++u.host++Cg u++[63])) 148 9 [138,139,140,141,142,143,144,145,146] hm (by kernel_rfl) rfl rfl (HW7.out.grow (AC _).drew) ?hold8 ?hs8 ?hend8;case hold8=>
      intro t ht;simp only[List.mem_cons,List.mem_nil_iff,or_false,not_or]at ht;unfold wrS;simp only[if_neg ht.1,if_neg ht.2.1,if_neg ht.2.2.1,if_neg ht.2.2.2.1,if_neg ht.2.2.2.2.1,if_neg ht.2.2.2.2.2.1,if_neg ht.2.2.2.2.2.2.1,if_neg ht.2.2.2.2.2.2.2.1,if_neg ht.2.2.2.2.2.2.2.2];split
      ·rename_i e;subst e;rfl
      ·split
       ·rename_i e;subst e;rfl
       ·exact trivial
     case hs8=>
      simp only[List.take_succ_cons,List.take_zero];refine⟨?_,?_,?_,?_,?_,?_,?_,?_,?_,trivial⟩
      ·refine AA fun a W hg hop=>?_;have h1:a.eval (.tmp 1)=(Value.iface 127 (.pointer (some ⟨bb,0,none⟩))):=(hop 1 (by simp[Op.operands,Call.operands]));refine⟨_,?_,rfl⟩;simp only[execOp,h1];go_simp
      ·refine AA fun a W hg hop=>?_;have h1:a.eval (.tmp 0)=(Value.pointer (some ⟨b,o,none⟩)):=(hop 0 (by simp[Op.operands,Call.operands]));refine⟨_,?_,rfl⟩;simp only[execOp,h1];go_simp
      ·refine AA fun a W hg hop=>?_;have h1:a.eval (.tmp 139)=(Value.pointer (some ⟨b,o,none⟩)):=(hop 139 (by simp[Op.operands,Call.operands]));refine⟨_,?_,rfl⟩;simp only[execOp,h1];go_simp
      ·refine AA fun a W hg hop=>?_;have h1:a.eval (.tmp 140)=(Value.pointer (some ⟨b,o,none⟩)):=(hop 140 (by simp[Op.operands,Call.operands]));refine⟨_,?_,rfl⟩;simp only[execOp,h1];go_simp
      ·refine AA fun a W hg hop=>?_;have h1:a.eval (.tmp 141)= .pointer (some ⟨b,o+9,none⟩):=(hop 141 (by simp[Op.operands,Call.operands]));have h2:W.cell? ⟨b,o+9,none⟩=some (hv):=hg.le.cell (HBK.out 9 _ rfl);refine⟨_,?_,rfl⟩;simp only[execOp,h1];go_simp
      ·refine AG ?_ ?_ ?_ ?_
       ·exact fun t u w w' _ h=>h
       ·exact fun _ _ _ _ h=>h
       ·exact fun w w' k h=>h.grow k
       intro a W hg hop;have h1:a.eval (.tmp 142)=hv:=(hop 142 (by simp[Op.operands,Call.operands]));have h1':=tg h1;refine⟨94,#[hv,.int .u8 38],?_,(Df W hv u.hs 38 (HH.out.le hg.le) HLH.out).mono ?_⟩
       ·simp only[execOp,h1];go_simp
       ·rintro e w' ⟨rfl,hle⟩;exact⟨_,rfl,hle,rfl⟩
      ·refine AA fun a W hg hop=>?_;have h1:a.eval (.tmp 138)=(Value.iface 127 (.pointer (some ⟨bb,0,none⟩))):=(hop 138 (by simp[Op.operands,Call.operands]));have h1':=tg h1;refine⟨_,?_,rfl⟩;simp only[execOp];go_simp
      ·refine AA fun a W hg hop=>?_;have h1:a.eval (.tmp 144)=(Value.func (Fn.method "WriteString") #[(Value.iface 127 (.pointer (some ⟨bb,0,none⟩)))] #[]):=(hop 144 (by simp[Op.operands,Call.operands]));refine⟨_,?_,rfl⟩;simp only[execOp,h1];go_simp
      ·refine AA fun a W hg hop=>?_;have h1:a.eval (.tmp 138)=(Value.iface 127 (.pointer (some ⟨bb,0,none⟩))):=(hop 138 (by simp[Op.operands,Call.operands]));refine⟨_,?_,rfl⟩;simp only[execOp,h1];go_simp
     case hend8=>
      intro v wt hG hS;have HWt:=Hi hG;have v138:v 138=(Value.iface 127 (.pointer (some ⟨bb,0,none⟩))):=hS 138 (by simp);have v139:v 139=(Value.pointer (some ⟨b,o,none⟩)):=hS 139 (by simp);have v140:v 140=(Value.pointer (some ⟨b,o,none⟩)):=hS 140 (by simp);have v141:v 141=Value.pointer (some ⟨b,o+9,none⟩):=hS 141 (by simp);have v142:v 142=hv:=hS 142 (by simp)
      have v143:v 143= .string (st (AZ u.hs 38)):=hS 143 (by simp);have v144:v 144=(Value.func (Fn.method "WriteString") #[(Value.iface 127 (.pointer (some ⟨bb,0,none⟩)))] #[]):=hS 144 (by simp);have v145:v 145=(Value.func (Fn.method "WriteString") #[(Value.iface 127 (.pointer (some ⟨bb,0,none⟩)))] #[]):=hS 145 (by simp)
      have v146:v 146=(Value.iface 127 (.pointer (some ⟨bb,0,none⟩))):=hS 146 (by simp);clear hS hG;simp only[Aj,v138,v139,v140,v141,v142,v143,v144,v145,v146,Act.put,List.setIfInBounds_toArray,List.set_cons_zero,List.set_cons_succ,List.drop_succ_cons,List.drop_zero];clear v138 v139 v140 v141 v142 v143 v144 v145 v146;go_wp2_with fail
      refine(HWt.out.ws (st (AZ u.hs 38)) (by have hz:=HZ.out;simp only[LA,LC,LN,AF];(try simp only[ByteArray.size,List.size_toArray,LC,LN]);omega)).mono ?_;rintro e w8 ⟨rfl,hw8⟩;have HW8:Hid (UW w0 bb (t0++sch++[58]++uSl u++CH u++u.host++Cg u++[63]++AZ u.hs 38) w8):=Hi hw8;clear hw8;go_wp2
      go_returns
      refine⟨rfl,?_⟩;rw[hut.out,hpf.out,hf.out];have h:=HW8.out;simp only[List.nil_append,List.append_assoc,List.cons_append,List.append_nil]at h⊢;exact h
  |some a8=>
   go_wp2_with fail
   refine(Ck _ _ u.ps (HP8.out.le HW6.out.le)).mono ?_;rintro e wl ⟨rfl,rfl⟩;by_cases h0:u.ps=[]
   ·have hzn8:¬0<u.ps.length:=by rw[h0];simp
    have hzl8:u.ps.length≤0:=by omega
    have hpf:Hid (uPs u.ps 59 59=[]):=Hi (by unfold uPs;rw[if_pos h0]);clear hp8 e8 h0;have g9:w6.cell? ⟨b,o+9,none⟩=some (hv):=HW6.out.le.cell (HBK.out 9 _ rfl);obtain⟨A9,c9,e9,hp9⟩:=HH.out;rw[e9]at g9;have HH9:Hid (Hp w0 (.slice A9 u.hs.length c9) u.hs):=e9▸HH;cases A9 with
    |none=>
     have h0:u.hs=[]:=by
      rcases hx:u.hs with _|⟨x,r⟩
      ·rfl
      ·obtain⟨g,o,e,_⟩:=hp9.2.2.2.2 (by rw[hx];simp);cases e
     have hf:Hid (uPs u.hs 63 38=[]):=Hi (by unfold uPs;rw[if_pos h0]);clear hp9 h0 e9;go_wp2
     go_returns
     refine⟨rfl,?_⟩;rw[hut.out,hpf.out,hf.out];have h:=HW6.out;simp only[List.nil_append,List.append_assoc,List.cons_append,List.append_nil]at h⊢;exact h
    |some a9=>
     go_wp2_with fail
     refine(Ck _ _ u.hs (HH9.out.le HW6.out.le)).mono ?_;rintro e wl ⟨rfl,rfl⟩;by_cases h0:u.hs=[]
     ·have hzn:¬0<u.hs.length:=by rw[h0];simp
      have hzl:u.hs.length≤0:=by omega
      have hf:Hid (uPs u.hs 63 38=[]):=Hi (by unfold uPs;rw[if_pos h0]);clear hp9 e9 h0;go_wp2
      go_returns
      refine⟨rfl,?_⟩;rw[hut.out,hpf.out,hf.out];have h:=HW6.out;simp only[List.nil_append,List.append_assoc,List.cons_append,List.append_nil]at h⊢;exact h
     ·have hpos:0<u.hs.length:=List.length_pos_iff.2 h0;have hz:decide ((0:Int)<(u.hs.length:Int))=true:=by simp;omega
      have hf:Hid (uPs u.hs 63 38=63::AZ u.hs 38):=Hi (by unfold uPs;rw[if_neg h0]);clear hp9 h0;go_wp2_with fail
      refine(HW6.out.ws ⟨#[63]⟩ (by have hz:=HZ.out;simp only[LA,LC,LN,AF];(try simp only[ByteArray.size,List.size_toArray,LC,LN]);omega)).mono ?_;rintro e w7 ⟨rfl,hw7⟩;have HW7:Hid (UW w0 bb (t0++sch++[58]++uSl u++CH u++u.host++Cg u++[63]) w7):=Hi hw7;clear hw7;go_wp2
      have hm:(Tryz.prog).follows .mixedOrders=true:=by kernel_rfl
      refine wp_region_grow_tail (wrS b o bb (o+9) (hv) (.string (st (AZ u.hs 38))) 138) (UW w0 bb (t0++sch++[58]++uSl u++CH u++u.host++Cg u++[63])) 148 9 [138,139,140,141,142,143,144,145,146] hm (by kernel_rfl) rfl rfl (HW7.out.grow (AC _).drew) ?hold8 ?hs8 ?hend8;case hold8=>
       intro t ht;simp only[List.mem_cons,List.mem_nil_iff,or_false,not_or]at ht;unfold wrS;simp only[if_neg ht.1,if_neg ht.2.1,if_neg ht.2.2.1,if_neg ht.2.2.2.1,if_neg ht.2.2.2.2.1,if_neg ht.2.2.2.2.2.1,if_neg ht.2.2.2.2.2.2.1,if_neg ht.2.2.2.2.2.2.2.1,if_neg ht.2.2.2.2.2.2.2.2];split
       ·rename_i e;subst e;rfl
       ·split
        ·rename_i e;subst e;rfl
        ·exact trivial
      case hs8=>
       simp only[List.take_succ_cons,List.take_zero];refine⟨?_,?_,?_,?_,?_,?_,?_,?_,?_,trivial⟩
       ·refine AA fun a W hg hop=>?_;have h1:a.eval (.tmp 1)=(Value.iface 127 (.pointer (some ⟨bb,0,none⟩))):=(hop 1 (by simp[Op.operands,Call.operands]));refine⟨_,?_,rfl⟩;simp only[execOp,h1];go_simp
       ·refine AA fun a W hg hop=>?_;have h1:a.eval (.tmp 0)=(Value.pointer (some ⟨b,o,none⟩)):=(hop 0 (by simp[Op.operands,Call.operands]));refine⟨_,?_,rfl⟩;simp only[execOp,h1];go_simp
       ·refine AA fun a W hg hop=>?_;have h1:a.eval (.tmp 139)=(Value.pointer (some ⟨b,o,none⟩)):=(hop 139 (by simp[Op.operands,Call.operands]));refine⟨_,?_,rfl⟩;simp only[execOp,h1];go_simp
       ·refine AA fun a W hg hop=>?_;have h1:a.eval (.tmp 140)=(Value.pointer (some ⟨b,o,none⟩)):=(hop 140 (by simp[Op.operands,Call.operands]));refine⟨_,?_,rfl⟩;simp only[execOp,h1];go_simp
       ·refine AA fun a W hg hop=>?_;have h1:a.eval (.tmp 141)= .pointer (some ⟨b,o+9,none⟩):=(hop 141 (by simp[Op.operands,Call.operands]));have h2:W.cell? ⟨b,o+9,none⟩=some (hv):=hg.le.cell (HBK.out 9 _ rfl);refine⟨_,?_,rfl⟩;simp only[execOp,h1];go_simp
       ·refine AG ?_ ?_ ?_ ?_
        ·exact fun t u w w' _ h=>h
        ·exact fun _ _ _ _ h=>h
        ·exact fun w w' k h=>h.grow k
        intro a W hg hop;have h1:a.eval (.tmp 142)=hv:=(hop 142 (by simp[Op.operands,Call.operands]));have h1':=tg h1;refine⟨94,#[hv,.int .u8 38],?_,(Df W hv u.hs 38 (HH.out.le hg.le) HLH.out).mono ?_⟩
        ·simp only[execOp,h1];go_simp
        ·rintro e w' ⟨rfl,hle⟩;exact⟨_,rfl,hle,rfl⟩
       ·refine AA fun a W hg hop=>?_;have h1:a.eval (.tmp 138)=(Value.iface 127 (.pointer (some ⟨bb,0,none⟩))):=(hop 138 (by simp[Op.operands,Call.operands]));have h1':=tg h1;refine⟨_,?_,rfl⟩;simp only[execOp];go_simp
       ·refine AA fun a W hg hop=>?_;have h1:a.eval (.tmp 144)=(Value.func (Fn.method "WriteString") #[(Value.iface 127 (.pointer (some ⟨bb,0,none⟩)))] #[]):=(hop 144 (by simp[Op.operands,Call.operands]));refine⟨_,?_,rfl⟩;simp only[execOp,h1];go_simp
       ·refine AA fun a W hg hop=>?_;have h1:a.eval (.tmp 138)=(Value.iface 127 (.pointer (some ⟨bb,0,none⟩))):=(hop 138 (by simp[Op.operands,Call.operands]));refine⟨_,?_,rfl⟩;simp only[execOp,h1];go_simp
      case hend8=>
       intro v wt hG hS;have HWt:=Hi hG;have v138:v 138=(Value.iface 127 (.pointer (some ⟨bb,0,none⟩))):=hS 138 (by simp);have v139:v 139=(Value.pointer (some ⟨b,o,none⟩)):=hS 139 (by simp);have v140:v 140=(Value.pointer (some ⟨b,o,none⟩)):=hS 140 (by simp);have v141:v 141=Value.pointer (some ⟨b,o+9,none⟩):=hS 141 (by simp);have v142:v 142=hv:=hS 142 (by simp)
       have v143:v 143= .string (st (AZ u.hs 38)):=hS 143 (by simp);have v144:v 144=(Value.func (Fn.method "WriteString") #[(Value.iface 127 (.pointer (some ⟨bb,0,none⟩)))] #[]):=hS 144 (by simp);have v145:v 145=(Value.func (Fn.method "WriteString") #[(Value.iface 127 (.pointer (some ⟨bb,0,none⟩)))] #[]):=hS 145 (by simp)
       have v146:v 146=(Value.iface 127 (.pointer (some ⟨bb,0,none⟩))):=hS 146 (by simp);clear hS hG;simp only[Aj,v138,v139,v140,v141,v142,v143,v144,v145,v146,Act.put,List.setIfInBounds_toArray,List.set_cons_zero,List.set_cons_succ,List.drop_succ_cons,List.drop_zero];clear v138 v139 v140 v141 v142 v143 v144 v145 v146;go_wp2_with fail
       refine(HWt.out.ws (st (AZ u.hs 38)) (by have hz:=HZ.out;simp only[LA,LC,LN,AF];(try simp only[ByteArray.size,List.size_toArray,LC,LN]);omega)).mono ?_;rintro e w8 ⟨rfl,hw8⟩;have HW8:Hid (UW w0 bb (t0++sch++[58]++uSl u++CH u++u.host++Cg u++[63]++AZ u.hs 38) w8):=Hi hw8;clear hw8;go_wp2
       go_returns
       refine⟨rfl,?_⟩;rw[hut.out,hpf.out,hf.out];have h:=HW8.out;simp only[List.nil_append,List.append_assoc,List.cons_append,List.append_nil]at h⊢;exact h
   ·have hpos:0<u.ps.length:=List.length_pos_iff.2 h0;have hz8:decide ((0:Int)<(u.ps.length:Int))=true:=by simp;omega
    have hpf:Hid (uPs u.ps 59 59=59::AZ u.ps 59):=Hi (by unfold uPs;rw[if_neg h0]);clear hp8 h0;go_wp2_with fail
    refine(HW6.out.ws ⟨#[59]⟩ (by have hz:=HZ.out;simp only[LA,LC,LN,AF];(try simp only[ByteArray.size,List.size_toArray,LC,LN]);omega)).mono ?_;rintro e w7 ⟨rfl,hw7⟩;have HW7:Hid (UW w0 bb (t0++sch++[58]++uSl u++CH u++u.host++Cg u++[59]) w7):=Hi hw7;clear hw7;go_wp2
    have hm:(Tryz.prog).follows .mixedOrders=true:=by kernel_rfl
    refine wp_region_grow_tail (wrS b o bb (o+8) (pv) (.string (st (AZ u.ps 59))) 113) (UW w0 bb (t0++sch++[58]++uSl u++CH u++u.host++Cg u++[59])) 148 9 [113,114,115,116,117,118,119,120,121] hm (by kernel_rfl) rfl rfl (HW7.out.grow (AC _).drew) ?hold8 ?hs8 ?hend8;case hold8=>
     intro t ht;simp only[List.mem_cons,List.mem_nil_iff,or_false,not_or]at ht;unfold wrS;simp only[if_neg ht.1,if_neg ht.2.1,if_neg ht.2.2.1,if_neg ht.2.2.2.1,if_neg ht.2.2.2.2.1,if_neg ht.2.2.2.2.2.1,if_neg ht.2.2.2.2.2.2.1,if_neg ht.2.2.2.2.2.2.2.1,if_neg ht.2.2.2.2.2.2.2.2];split
     ·rename_i e;subst e;rfl
     ·split
      ·rename_i e;subst e;rfl
      ·exact trivial
    case hs8=>
     simp only[List.take_succ_cons,List.take_zero];refine⟨?_,?_,?_,?_,?_,?_,?_,?_,?_,trivial⟩
     ·refine AA fun a W hg hop=>?_;have h1:a.eval (.tmp 1)=(Value.iface 127 (.pointer (some ⟨bb,0,none⟩))):=(hop 1 (by simp[Op.operands,Call.operands]));refine⟨_,?_,rfl⟩;simp only[execOp,h1];go_simp
     ·refine AA fun a W hg hop=>?_;have h1:a.eval (.tmp 0)=(Value.pointer (some ⟨b,o,none⟩)):=(hop 0 (by simp[Op.operands,Call.operands]));refine⟨_,?_,rfl⟩;simp only[execOp,h1];go_simp
     ·refine AA fun a W hg hop=>?_;have h1:a.eval (.tmp 114)=(Value.pointer (some ⟨b,o,none⟩)):=(hop 114 (by simp[Op.operands,Call.operands]));refine⟨_,?_,rfl⟩;simp only[execOp,h1];go_simp
     ·refine AA fun a W hg hop=>?_;have h1:a.eval (.tmp 115)=(Value.pointer (some ⟨b,o,none⟩)):=(hop 115 (by simp[Op.operands,Call.operands]));refine⟨_,?_,rfl⟩;simp only[execOp,h1];go_simp
     ·refine AA fun a W hg hop=>?_;have h1:a.eval (.tmp 116)= .pointer (some ⟨b,o+8,none⟩):=(hop 116 (by simp[Op.operands,Call.operands]));have h2:W.cell? ⟨b,o+8,none⟩=some (pv):=hg.le.cell (HBK.out 8 _ rfl);refine⟨_,?_,rfl⟩;simp only[execOp,h1];go_simp
     ·refine AG ?_ ?_ ?_ ?_
      ·exact fun t u w w' _ h=>h
      ·exact fun _ _ _ _ h=>h
      ·exact fun w w' k h=>h.grow k
      intro a W hg hop;have h1:a.eval (.tmp 117)=pv:=(hop 117 (by simp[Op.operands,Call.operands]));have h1':=tg h1;refine⟨94,#[pv,.int .u8 59],?_,(Df W pv u.ps 59 (HP.out.le hg.le) HLP.out).mono ?_⟩
      ·simp only[execOp,h1];go_simp
      ·rintro e w' ⟨rfl,hle⟩;exact⟨_,rfl,hle,rfl⟩
     ·refine AA fun a W hg hop=>?_;have h1:a.eval (.tmp 113)=(Value.iface 127 (.pointer (some ⟨bb,0,none⟩))):=(hop 113 (by simp[Op.operands,Call.operands]));have h1':=tg h1;refine⟨_,?_,rfl⟩;simp only[execOp];go_simp
     ·refine AA fun a W hg hop=>?_;have h1:a.eval (.tmp 119)=(Value.func (Fn.method "WriteString") #[(Value.iface 127 (.pointer (some ⟨bb,0,none⟩)))] #[]):=(hop 119 (by simp[Op.operands,Call.operands]));refine⟨_,?_,rfl⟩;simp only[execOp,h1];go_simp
     ·refine AA fun a W hg hop=>?_;have h1:a.eval (.tmp 113)=(Value.iface 127 (.pointer (some ⟨bb,0,none⟩))):=(hop 113 (by simp[Op.operands,Call.operands]));refine⟨_,?_,rfl⟩;simp only[execOp,h1];go_simp
    case hend8=>
     intro v wt hG hS;have HWt:=Hi hG;have v113:v 113=(Value.iface 127 (.pointer (some ⟨bb,0,none⟩))):=hS 113 (by simp);have v114:v 114=(Value.pointer (some ⟨b,o,none⟩)):=hS 114 (by simp);have v115:v 115=(Value.pointer (some ⟨b,o,none⟩)):=hS 115 (by simp);have v116:v 116=Value.pointer (some ⟨b,o+8,none⟩):=hS 116 (by simp);have v117:v 117=pv:=hS 117 (by simp)
     have v118:v 118= .string (st (AZ u.ps 59)):=hS 118 (by simp);have v119:v 119=(Value.func (Fn.method "WriteString") #[(Value.iface 127 (.pointer (some ⟨bb,0,none⟩)))] #[]):=hS 119 (by simp);have v120:v 120=(Value.func (Fn.method "WriteString") #[(Value.iface 127 (.pointer (some ⟨bb,0,none⟩)))] #[]):=hS 120 (by simp)
     have v121:v 121=(Value.iface 127 (.pointer (some ⟨bb,0,none⟩))):=hS 121 (by simp);clear hS hG;simp only[Aj,v113,v114,v115,v116,v117,v118,v119,v120,v121,Act.put,List.setIfInBounds_toArray,List.set_cons_zero,List.set_cons_succ,List.drop_succ_cons,List.drop_zero];clear v113 v114 v115 v116 v117 v118 v119 v120 v121;go_wp2_with fail
     refine(HWt.out.ws (st (AZ u.ps 59)) (by have hz:=HZ.out;simp only[LA,LC,LN,AF];(try simp only[ByteArray.size,List.size_toArray,LC,LN]);omega)).mono ?_;rintro e w8 ⟨rfl,hw8⟩;have HW8:Hid (UW w0 bb (t0++sch++[58]++uSl u++CH u++u.host++Cg u++[59]++AZ u.ps 59) w8):=Hi hw8;clear hw8
     have g9:w8.cell? ⟨b,o+9,none⟩=some (hv):=HW8.out.le.cell (HBK.out 9 _ rfl);obtain⟨A9,c9,e9,hp9⟩:=HH.out;rw[e9]at g9;have HH9:Hid (Hp w0 (.slice A9 u.hs.length c9) u.hs):=e9▸HH;cases A9 with
     |none=>
      have h0:u.hs=[]:=by
       rcases hx:u.hs with _|⟨x,r⟩
       ·rfl
       ·obtain⟨g,o,e,_⟩:=hp9.2.2.2.2 (by rw[hx];simp);cases e
      have hf:Hid (uPs u.hs 63 38=[]):=Hi (by unfold uPs;rw[if_pos h0]);clear hp9 h0 e9;go_wp2
      go_returns
      refine⟨rfl,?_⟩;rw[hut.out,hpf.out,hf.out];have h:=HW8.out;simp only[List.nil_append,List.append_assoc,List.cons_append,List.append_nil]at h⊢;exact h
     |some a9=>
      go_wp2_with fail
      refine(Ck _ _ u.hs (HH9.out.le HW8.out.le)).mono ?_;rintro e wl ⟨rfl,rfl⟩;by_cases h0:u.hs=[]
      ·have hzn:¬0<u.hs.length:=by rw[h0];simp
       have hzl:u.hs.length≤0:=by omega
       have hf:Hid (uPs u.hs 63 38=[]):=Hi (by unfold uPs;rw[if_pos h0]);clear hp9 e9 h0;go_wp2
       go_returns
       refine⟨rfl,?_⟩;rw[hut.out,hpf.out,hf.out];have h:=HW8.out;simp only[List.nil_append,List.append_assoc,List.cons_append,List.append_nil]at h⊢;exact h
      ·have hpos:0<u.hs.length:=List.length_pos_iff.2 h0;have hz:decide ((0:Int)<(u.hs.length:Int))=true:=by simp;omega
       have hf:Hid (uPs u.hs 63 38=63::AZ u.hs 38):=Hi (by unfold uPs;rw[if_neg h0]);clear hp9 h0;go_wp2_with fail
       refine(HW8.out.ws ⟨#[63]⟩ (by have hz:=HZ.out;simp only[LA,LC,LN,AF];(try simp only[ByteArray.size,List.size_toArray,LC,LN]);omega)).mono ?_;rintro e w9 ⟨rfl,hw9⟩;have HW9:Hid (UW w0 bb (t0++sch++[58]++uSl u++CH u++u.host++Cg u++[59]++AZ u.ps 59++[63]) w9):=Hi hw9;clear hw9;go_wp2
       have hm:(Tryz.prog).follows .mixedOrders=true:=by kernel_rfl
       refine wp_region_grow_tail (wrS b o bb (o+9) (hv) (.string (st (AZ u.hs 38))) 138) (UW w0 bb (t0++sch++[58]++uSl u++CH u++u.host++Cg u++[59]++AZ u.ps 59++[63])) 148 9 [138,139,140,141,142,143,144,145,146] hm (by kernel_rfl) rfl rfl (HW9.out.grow (AC _).drew) ?hold10 ?hs10 ?hend10;case hold10=>
        intro t ht;simp only[List.mem_cons,List.mem_nil_iff,or_false,not_or]at ht;unfold wrS;simp only[if_neg ht.1,if_neg ht.2.1,if_neg ht.2.2.1,if_neg ht.2.2.2.1,if_neg ht.2.2.2.2.1,if_neg ht.2.2.2.2.2.1,if_neg ht.2.2.2.2.2.2.1,if_neg ht.2.2.2.2.2.2.2.1,if_neg ht.2.2.2.2.2.2.2.2];split
        ·rename_i e;subst e;rfl
        ·split
         ·rename_i e;subst e;rfl
         ·exact trivial
       case hs10=>
        simp only[List.take_succ_cons,List.take_zero];refine⟨?_,?_,?_,?_,?_,?_,?_,?_,?_,trivial⟩
        ·refine AA fun a W hg hop=>?_;have h1:a.eval (.tmp 1)=(Value.iface 127 (.pointer (some ⟨bb,0,none⟩))):=(hop 1 (by simp[Op.operands,Call.operands]));refine⟨_,?_,rfl⟩;simp only[execOp,h1];go_simp
        ·refine AA fun a W hg hop=>?_;have h1:a.eval (.tmp 0)=(Value.pointer (some ⟨b,o,none⟩)):=(hop 0 (by simp[Op.operands,Call.operands]));refine⟨_,?_,rfl⟩;simp only[execOp,h1];go_simp
        ·refine AA fun a W hg hop=>?_;have h1:a.eval (.tmp 139)=(Value.pointer (some ⟨b,o,none⟩)):=(hop 139 (by simp[Op.operands,Call.operands]));refine⟨_,?_,rfl⟩;simp only[execOp,h1];go_simp
        ·refine AA fun a W hg hop=>?_;have h1:a.eval (.tmp 140)=(Value.pointer (some ⟨b,o,none⟩)):=(hop 140 (by simp[Op.operands,Call.operands]));refine⟨_,?_,rfl⟩;simp only[execOp,h1];go_simp
        ·refine AA fun a W hg hop=>?_;have h1:a.eval (.tmp 141)= .pointer (some ⟨b,o+9,none⟩):=(hop 141 (by simp[Op.operands,Call.operands]));have h2:W.cell? ⟨b,o+9,none⟩=some (hv):=hg.le.cell (HBK.out 9 _ rfl);refine⟨_,?_,rfl⟩;simp only[execOp,h1];go_simp
        ·refine AG ?_ ?_ ?_ ?_
         ·exact fun t u w w' _ h=>h
         ·exact fun _ _ _ _ h=>h
         ·exact fun w w' k h=>h.grow k
         intro a W hg hop;have h1:a.eval (.tmp 142)=hv:=(hop 142 (by simp[Op.operands,Call.operands]));have h1':=tg h1;refine⟨94,#[hv,.int .u8 38],?_,(Df W hv u.hs 38 (HH.out.le hg.le) HLH.out).mono ?_⟩
         ·simp only[execOp,h1];go_simp
         ·rintro e w' ⟨rfl,hle⟩;exact⟨_,rfl,hle,rfl⟩
        ·refine AA fun a W hg hop=>?_;have h1:a.eval (.tmp 138)=(Value.iface 127 (.pointer (some ⟨bb,0,none⟩))):=(hop 138 (by simp[Op.operands,Call.operands]));have h1':=tg h1;refine⟨_,?_,rfl⟩;simp only[execOp];go_simp
        ·refine AA fun a W hg hop=>?_;have h1:a.eval (.tmp 144)=(Value.func (Fn.method "WriteString") #[(Value.iface 127 (.pointer (some ⟨bb,0,none⟩)))] #[]):=(hop 144 (by simp[Op.operands,Call.operands]));refine⟨_,?_,rfl⟩;simp only[execOp,h1];go_simp
        ·refine AA fun a W hg hop=>?_;have h1:a.eval (.tmp 138)=(Value.iface 127 (.pointer (some ⟨bb,0,none⟩))):=(hop 138 (by simp[Op.operands,Call.operands]));refine⟨_,?_,rfl⟩;simp only[execOp,h1];go_simp
       case hend10=>
        intro v wt hG hS;have HWt:=Hi hG;have v138:v 138=(Value.iface 127 (.pointer (some ⟨bb,0,none⟩))):=hS 138 (by simp);have v139:v 139=(Value.pointer (some ⟨b,o,none⟩)):=hS 139 (by simp);have v140:v 140=(Value.pointer (some ⟨b,o,none⟩)):=hS 140 (by simp);have v141:v 141=Value.pointer (some ⟨b,o+9,none⟩):=hS 141 (by simp);have v142:v 142=hv:=hS 142 (by simp)
        have v143:v 143= .string (st (AZ u.hs 38)):=hS 143 (by simp);have v144:v 144=(Value.func (Fn.method "WriteString") #[(Value.iface 127 (.pointer (some ⟨bb,0,none⟩)))] #[]):=hS 144 (by simp);have v145:v 145=(Value.func (Fn.method "WriteString") #[(Value.iface 127 (.pointer (some ⟨bb,0,none⟩)))] #[]):=hS 145 (by simp)
        have v146:v 146=(Value.iface 127 (.pointer (some ⟨bb,0,none⟩))):=hS 146 (by simp);clear hS hG;simp only[Aj,v138,v139,v140,v141,v142,v143,v144,v145,v146,Act.put,List.setIfInBounds_toArray,List.set_cons_zero,List.set_cons_succ,List.drop_succ_cons,List.drop_zero];clear v138 v139 v140 v141 v142 v143 v144 v145 v146;go_wp2_with fail
        refine(HWt.out.ws (st (AZ u.hs 38)) (by have hz:=HZ.out;simp only[LA,LC,LN,AF];(try simp only[ByteArray.size,List.size_toArray,LC,LN]);omega)).mono ?_;rintro e w10 ⟨rfl,hw10⟩;have HW10:Hid (UW w0 bb (t0++sch++[58]++uSl u++CH u++u.host++Cg u++[59]++AZ u.ps 59++[63]++AZ u.hs 38) w10):=Hi hw10
        clear hw10;go_wp2
        go_returns
        refine⟨rfl,?_⟩;rw[hut.out,hpf.out,hf.out];have h:=HW10.out;simp only[List.nil_append,List.append_assoc,List.cons_append,List.append_nil]at h⊢;exact h
theorem Jp(w0 w:World)(b bb:Nat)(u:PU)(hu:UAt w0 b u)(hw:UW w0 bb [] w)(hL:BW w0)
 (hn:∀k (h:k<(st u.host).size),(st u.host)[k]'h≠58)
 (hlp:(u.ps.flatMap (Ae 59)).length≤1099511627776)(hlh:(u.hs.flatMap (Ae 38)).length≤1099511627776):
 Calls Tryz.prog 69 #[.pointer (some ⟨b,0,none⟩),.iface 127 (.pointer (some ⟨bb,0,none⟩))] w fun e w'=>e= .returned (.tuple #[])∧UW w0 bb (BY u) w':=
 Bn w0 w b 0 bb [] (by simp) u hu.in_ hw hL hn hlp hlh
end Go.Proofs.YtejhpdcjafbklaaGreatDoor
