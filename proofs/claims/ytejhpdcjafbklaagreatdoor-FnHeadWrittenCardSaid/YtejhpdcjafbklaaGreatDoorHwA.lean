/- The law FnHeadWritten: Tsw HmAd HmVi HwO HwN HwA. -/
import Derived.Test.YtejhpdcjafbklaaGreatDoorOph
set_option linter.all false
set_option maxHeartbeats 4000000
set_option maxRecDepth 8000
namespace Go.Proofs.YtejhpdcjafbklaaGreatDoor
open Go.RowKit
theorem Bld.cells{B b:Nat}{l:Tx}{w:World}(h:Bld B b l w):∃cs fz,w.heap[b]? =some (.cells cs 129 fz):=
 h.elim (fun⟨_,_,hv,_⟩=>⟨_,_,hv⟩) (fun⟨_,_,hv,_⟩=>⟨_,_,hv⟩)
def kvR(x:Tx×Tx):Tx:=x.1++(if x.2.any bl2=true then 61::34::(x.2++[34])else if x.2=[]then []else 61::x.2)
def psP(l:KVs)(sep:UInt8)(k:Nat):Tx:=((l.take k).flatMap (Ae sep)).drop 1
theorem O7(l:KVs)(sep:UInt8):psP l sep l.length=AZ l sep:=by unfold psP AZ;rw[List.take_length]
theorem JS{l:KVs}{sep:UInt8}{k:Nat}(h:k<l.length):psP l sep (k+1)=psP l sep k++((if 0<k then [sep]else [])++kvR l[k]):=by
 unfold psP;rw[Fu l sep k h];cases k with
 |zero=>simp[Ae,kvR]
 |succ k=>
  rw[List.drop_append_of_le_length,if_pos (by omega)]
  ·rfl
  ·cases l with
   |nil=>simp at h
   |cons x r=>simp only[List.take_succ_cons,List.flatMap_cons,Ae,LA,LC];omega
theorem Qd{l:KVs}{sep:UInt8}{k:Nat}(h:k<l.length):(psP l sep k).length+((if 0<k then [sep]else [])++kvR l[k]).length≤(l.flatMap (Ae sep)).length:=by
 have h1:=Eu l sep k h;have h2:=JS (sep:=sep) h;have h3:(psP l sep (k+1)).length≤(l.flatMap (Ae sep)).length:=by
  unfold psP;rw[List.length_drop,Fu l sep k h,LA];omega
 rw[h2,LA]at h3;exact h3
theorem Pz(c:UInt8)(h:c.toNat<128):Utf8.encode (c.toNat:Int)=st [c]:=by
 have hv:Utf8.valid (c.toNat:Int)=true:=by
  simp only[Utf8.valid,Bool.or_eq_true,Bool.and_eq_true,decide_eq_true_eq];omega
 unfold Utf8.encode;rw[if_pos hv];simp only[Int.toNat_natCast,h,if_true];show ByteArray.mk #[UInt8.ofNat c.toNat]=_;rw[UInt8.ofNat_toNat];rfl
theorem EB(base b:Nat)(t0:Tx)(ht0:t0.length≤1099511627776)(w:World)(v:Value)(l:KVs)(sep:UInt8)(hsep:sep.toNat<128)(hv:Hp w v l)(hw:Bld base b t0 w)(hB:base≤w.heap.size)(hlen:(l.flatMap (Ae sep)).length≤1099511627776):
 Calls Tryz.prog 241 #[v,.int .u8 sep.toNat,.iface 127 (.pointer (some ⟨b,0,none⟩))] w fun e w'=>e= .returned (.tuple #[])∧Bld base b (t0++AZ l sep) w'∧BFr base b w w':=by
 obtain⟨A,c,rfl,hc1,hc2,hl,hm,hr⟩:=hv;have HM:=Hi hm;have HLEN:=Hi hlen;have HT0:=Hi ht0;have HW:=Hi hw;have hnil:∀(W:World) (A:Option Addr) (n c:Nat),(binOp .eql 82 (.slice A n c) (.slice none 0 0)).run Tryz.prog W= .ok (.bool A.isNone) W:=fun W A n c=>Lib.run_eql_slice_nil W _ 172 A n c 0 0 Tryz.underlying82;clear hm hlen hw ht0;by_cases h0:l.length=0
 ·have hb0:((l.length:Int)==0)=true:=by simp[h0]
  obtain rfl:l=[]:=List.eq_nil_of_length_eq_zero h0;clear hr;cases A with
  |none=>
   go_enter Tryz.func241,Tryz.ntmps241;go_wp2
   (try simp only[Exit.inBlock,Exit.then])
   refine bodyPost_ret (results_none rfl _ _ _) rfl ?_;exact⟨rfl,by simpa[AZ]using HW.out,BFr.refl _ _ _⟩
  |some a=>
   go_enter Tryz.func241,Tryz.ntmps241;go_wp2
   (try simp only[Exit.inBlock,Exit.then])
   refine bodyPost_ret (results_none rfl _ _ _) rfl ?_;exact⟨rfl,by simpa[AZ]using HW.out,BFr.refl _ _ _⟩
 have hb0:((l.length:Int)==0)=false:=beq_eq_false_iff_ne.2 (by omega);obtain⟨g,o,rfl,⟨cur,fz,hg⟩,hcells⟩:=hr (by omega);have hgb:g≠b:=by
  rintro rfl;obtain⟨cs,fz',h1⟩:=HW.out.cells;rw[hg]at h1;injection h1 with h1
  injection h1 with _ h2
  exact absurd h2 (by decide)
 have HG:=Hi hg;have HCL:=Hi hcells;have henc:=Pz sep hsep;have hna:∀(n:Nat) (w:World),(nilAhead (n+1) 127 (.pointer (some ⟨b,0,none⟩)) "WriteString").run Tryz.prog w= .ok (some false) w:=fun n w=>by kernel_rfl
 clear hg hcells hsep;go_enter Tryz.func241,Tryz.ntmps241;go_wp2;clear henc
 go_loopg [7,21] (l.length) (fun n i j wr=>∃k:Nat,n+k=l.length∧i= .int .i64 k∧j= .int .i64 k∧Bld base b (t0++psP l sep k) wr∧BFr base b w wr)
 case atStart=>exact⟨0,by omega,rfl,rfl,by simpa[psP]using HW.out,BFr.refl _ _ _⟩
 case round=>
  obtain⟨k,hn,rfl,rfl,hln,hfr⟩:=hrel;have HLN:=Hi hln;have HFR:=Hi hfr;have HN:gk+k≤l.length∧l.length≤gk+k:=by omega
  have hsz:=Nat.le_trans hB hfr.1.size;clear hn hln;by_cases hlt:k<l.length
  ·have hcell:∀j x,w.cell? ⟨g,j,none⟩=some x→wr.cell? ⟨g,j,none⟩=some x:=fun j x hx=>(World.cell?_of_block (a:=⟨g,j,none⟩) ((hfr.heap HG.out (by decide) hgb).trans HG.out.symm)).trans hx;have d1:=hcell _ _ (HCL.out k hlt).1;have d2:=hcell _ _ (HCL.out k hlt).2
   have HTL:Hid ((t0++psP l sep k).length+((if 0<k then [sep]else [])++kvR l[k]).length≤2199023255552):=Hi (by have:=Qd (sep:=sep) hlt;have:=HLEN.out;have:=HT0.out;rw[show(t0++psP l sep k).length=t0.length+(psP l sep k).length from LA];omega)
   have HSN:Hid (t0++psP l sep (k+1)=(t0++psP l sep k)++((if 0<k then [sep]else [])++kvR l[k])):=Hi (by rw[JS (sep:=sep) hlt,←List.append_assoc]);clear hcell hfr;obtain⟨key,val,hx⟩:∃key val,l[k]=(key,val):=⟨_,_,rfl⟩;rw[hx]at d1 d2 HTL HSN;have hkv:=HM.out l[k] (List.getElem_mem hlt);rw[hx]at hkv;have HKV:=Hi hkv;clear hkv;have hbl:=HLN.out.lt
   generalize t0++psP l sep k=acc at HLN HTL HSN;clear hx;have HH0:Hid ((wr.alloc (Obj.cells #[.string (st key),.string (st val)] 172)).heap[wr.heap.size]? =some (Obj.cells #[.string (st key),.string (st val)] 172)):=Hi (heap_alloc_new wr _);have HF0:Hid (BFr base b w (wr.alloc (Obj.cells #[.string (st key),.string (st val)] 172))):=Hi (HFR.out.le ((AC wr).alloc _) hB)
   have HB0:Hid (Bld base b acc (wr.alloc (Obj.cells #[.string (st key),.string (st val)] 172))):=Hi (HLN.out.le ((AC wr).alloc _));have hne:wr.heap.size≠b:=by omega
   go_upto_if 26 with fail
   generalize hbk:decide (0<k)=bk;have HBK:=Hi hbk;clear hbk;go_cut []from 27 to 29 (fun wc=>Bld base b (acc++(if 0<k then [sep]else [])) wc∧BFr base b w wc∧wc.heap[wr.heap.size]? =some (Obj.cells #[.string (st key),.string (st val)] 172))
   case first=>
    cases bk;case true=>
     have HK0:Hid (0<k):=Hi (of_decide_eq_true HBK.out);go_wp2_with fail
     refine(Hx base b acc (st [sep]) _ HB0.out (by have:=HTL.out;simp only[LA,AF,LC,LN]at this⊢;omega)).mono ?_;rintro e w1 ⟨rfl,hb1,hf1⟩;have HB1:=Hi hb1;have HF1:=Hi (HF0.out.trans hf1);have HH1:=Hi (hf1.heap HH0.out (by decide) hne);clear hb1 hf1;go_wp2;go_meet
     case rel=>exact⟨by rw[if_pos HK0.out];have:=HB1.out;rw[AV]at this;exact this,HF1.out,HH1.out⟩
    case false=>
     have HK0:Hid (¬0<k):=Hi (of_decide_eq_false HBK.out);go_wp2;go_meet;case rel=>exact⟨by rw[if_neg HK0.out,List.append_nil];exact HB0.out,HF0.out,HH0.out⟩
   rename World=>wq
   obtain⟨hb2,hf2,hh2⟩:=hcut;rw[←List.append_assoc]at HSN;have htl:(acc++(if 0<k then [sep]else [])).length+(kvR (key,val)).length≤2199023255552:=by have:=HTL.out;simp only[LA]at this⊢;omega
   generalize acc++(if 0<k then [sep]else [])=q at hb2 HSN htl;have HB2:=Hi hb2;have HF2:=Hi hf2;have HH2:=Hi hh2;have HQ:=Hi htl;clear hb2 hf2 htl HB0 HF0 HH0 HLN HFR HBK HTL;have c0:wq.cell? ⟨wr.heap.size,0,none⟩=some (.string (st key)):=AB hh2 0;have c1:wq.cell? ⟨wr.heap.size,1,none⟩=some (.string (st val)):=AB hh2 1;clear hh2 d1 d2;by_cases hv0:val=[]
   ·subst hv0;have HT:Hid (kvR (key,[])=key):=Hi (by unfold kvR;simp);have hv1:((st []).toList==([]:List UInt8))=true:=by rw[Bw,AV];rfl
    have hv2:(st []).toList=[]:=by rw[DX]
    go_wp2_with fail
    refine(Hx base b (q) (st key) _ HB2.out (by have hz:=HQ.out;have hk:=HT.out;rw[hk]at hz;simp only[LA,LC,LN,AF,AV]at hz⊢;(try simp only[bs,ByteArray.size,List.size_toArray,LC,LN]);(try simp);omega)).mono ?_;rintro e w3 ⟨rfl,hb3,hf3⟩;have HB3:=Hi hb3;have HF3:=Hi (HF2.out.trans hf3)
    have hh3:=hf3.heap HH2.out (by decide) hne;have HH3:=Hi hh3;have c0:w3.cell? ⟨wr.heap.size,0,none⟩=some (.string (st key)):=AB hh3 0;have c1:w3.cell? ⟨wr.heap.size,1,none⟩=some (.string (st [])):=AB hh3 1;clear hb3 hf3 hh3;go_wp2;go_roundg (gk-1)
    case measure=>omega
    case rel=>exact⟨k+1,by omega,by go_num,by go_num,by rw[HSN.out,HT.out];have:=HB3.out;rw[AV]at this;exact this,HF3.out⟩
   have hv1:((st val).toList==([]:List UInt8))=false:=by rw[Bw,AV];simpa using hv0
   have hv2:((st val).toList.isEmpty)=false:=by rw[Au];simpa using hv0
   by_cases hany:val.any bl2=true
   ·have HT:Hid (kvR (key,val)=key++61::34::(val++[34])):=Hi (by unfold kvR;rw[if_pos hany]);go_wp2_with fail
    refine(Hx base b (q) (st key) _ HB2.out (by have hz:=HQ.out;have hk:=HT.out;rw[hk]at hz;simp only[LA,LC,LN,AF,AV]at hz⊢;(try simp only[bs,ByteArray.size,List.size_toArray,LC,LN]);(try simp);omega)).mono ?_;rintro e w3 ⟨rfl,hb3,hf3⟩;have HB3:=Hi hb3;have HF3:=Hi (HF2.out.trans hf3)
    have hh3:=hf3.heap HH2.out (by decide) hne;have HH3:=Hi hh3;have c0:w3.cell? ⟨wr.heap.size,0,none⟩=some (.string (st key)):=AB hh3 0;have c1:w3.cell? ⟨wr.heap.size,1,none⟩=some (.string (st val)):=AB hh3 1;clear hb3 hf3 hh3;go_wp2_with fail
    refine(F0 (st val) _ (by rw[AF];exact HKV.out.2)).mono ?_;rw[AV,hany];rintro e w4 ⟨rfl,hle4⟩;have HB4:=Hi (HB3.out.le hle4);have HF4:=Hi (HF3.out.le hle4 hB);have hh4:=hle4.heap HH3.out;have HH4:=Hi hh4;have c0:w4.cell? ⟨wr.heap.size,0,none⟩=some (.string (st key)):=AB hh4 0;have c1:w4.cell? ⟨wr.heap.size,1,none⟩=some (.string (st val)):=AB hh4 1
    clear hle4 hh4 hany;go_wp2_with fail
    refine(Hx base b (q++bs (st key)) ⟨#[61,34]⟩ _ HB4.out (by have hz:=HQ.out;have hk:=HT.out;rw[hk]at hz;simp only[LA,LC,LN,AF,AV]at hz⊢;(try simp only[bs,ByteArray.size,List.size_toArray,LC,LN]);(try simp);omega)).mono ?_;rintro e w5 ⟨rfl,hb5,hf5⟩;have HB5:=Hi hb5;have HF5:=Hi (HF4.out.trans hf5)
    have hh5:=hf5.heap HH4.out (by decide) hne;have HH5:=Hi hh5;have c0:w5.cell? ⟨wr.heap.size,0,none⟩=some (.string (st key)):=AB hh5 0;have c1:w5.cell? ⟨wr.heap.size,1,none⟩=some (.string (st val)):=AB hh5 1;clear hb5 hf5 hh5;go_wp2_with fail
    refine(Hx base b (q++bs (st key)++bs ⟨#[61,34]⟩) (st val) _ HB5.out (by have hz:=HQ.out;have hk:=HT.out;rw[hk]at hz;simp only[LA,LC,LN,AF,AV]at hz⊢;(try simp only[bs,ByteArray.size,List.size_toArray,LC,LN]);(try simp);omega)).mono ?_;rintro e w6 ⟨rfl,hb6,hf6⟩;have HB6:=Hi hb6
    have HF6:=Hi (HF5.out.trans hf6);have hh6:=hf6.heap HH5.out (by decide) hne;have HH6:=Hi hh6;have c0:w6.cell? ⟨wr.heap.size,0,none⟩=some (.string (st key)):=AB hh6 0;have c1:w6.cell? ⟨wr.heap.size,1,none⟩=some (.string (st val)):=AB hh6 1;clear hb6 hf6 hh6;go_wp2_with fail
    refine(Hx base b (q++bs (st key)++bs ⟨#[61,34]⟩++bs (st val)) ⟨#[34]⟩ _ HB6.out (by have hz:=HQ.out;have hk:=HT.out;rw[hk]at hz;simp only[LA,LC,LN,AF,AV]at hz⊢;(try simp only[bs,ByteArray.size,List.size_toArray,LC,LN]);(try simp);omega)).mono ?_;rintro e w7 ⟨rfl,hb7,hf7⟩;have HB7:=Hi hb7
    have HF7:=Hi (HF6.out.trans hf7);have hh7:=hf7.heap HH6.out (by decide) hne;have HH7:=Hi hh7;have c0:w7.cell? ⟨wr.heap.size,0,none⟩=some (.string (st key)):=AB hh7 0;have c1:w7.cell? ⟨wr.heap.size,1,none⟩=some (.string (st val)):=AB hh7 1;clear hb7 hf7 hh7;go_wp2;go_roundg (gk-1)
    case measure=>omega
    case rel=>exact⟨k+1,by omega,by go_num,by go_num,by rw[HSN.out,HT.out];exact(show q++bs (st key)++bs ⟨#[61,34]⟩++bs (st val)++bs ⟨#[34]⟩=q++(key++61::34::(val++[34]))from by rw[AV,AV];simp[bs])▸HB7.out,HF7.out⟩
   ·have hany:val.any bl2=false:=by simpa using hany
    have HT:Hid (kvR (key,val)=key++61::val):=Hi (by unfold kvR;rw[hany,if_neg (by simp),if_neg hv0]);go_wp2_with fail
    refine(Hx base b (q) (st key) _ HB2.out (by have hz:=HQ.out;have hk:=HT.out;rw[hk]at hz;simp only[LA,LC,LN,AF,AV]at hz⊢;(try simp only[bs,ByteArray.size,List.size_toArray,LC,LN]);(try simp);omega)).mono ?_;rintro e w3 ⟨rfl,hb3,hf3⟩;have HB3:=Hi hb3;have HF3:=Hi (HF2.out.trans hf3)
    have hh3:=hf3.heap HH2.out (by decide) hne;have HH3:=Hi hh3;have c0:w3.cell? ⟨wr.heap.size,0,none⟩=some (.string (st key)):=AB hh3 0;have c1:w3.cell? ⟨wr.heap.size,1,none⟩=some (.string (st val)):=AB hh3 1;clear hb3 hf3 hh3;go_wp2_with fail
    refine(F0 (st val) _ (by rw[AF];exact HKV.out.2)).mono ?_;rw[AV,hany];rintro e w4 ⟨rfl,hle4⟩;have HB4:=Hi (HB3.out.le hle4);have HF4:=Hi (HF3.out.le hle4 hB);have hh4:=hle4.heap HH3.out;have HH4:=Hi hh4;have c0:w4.cell? ⟨wr.heap.size,0,none⟩=some (.string (st key)):=AB hh4 0;have c1:w4.cell? ⟨wr.heap.size,1,none⟩=some (.string (st val)):=AB hh4 1
    clear hle4 hh4 hany;go_wp2_with fail
    refine(Hx base b (q++bs (st key)) ⟨#[61]⟩ _ HB4.out (by have hz:=HQ.out;have hk:=HT.out;rw[hk]at hz;simp only[LA,LC,LN,AF,AV]at hz⊢;(try simp only[bs,ByteArray.size,List.size_toArray,LC,LN]);(try simp);omega)).mono ?_;rintro e w5 ⟨rfl,hb5,hf5⟩;have HB5:=Hi hb5;have HF5:=Hi (HF4.out.trans hf5)
    have hh5:=hf5.heap HH4.out (by decide) hne;have HH5:=Hi hh5;have c0:w5.cell? ⟨wr.heap.size,0,none⟩=some (.string (st key)):=AB hh5 0;have c1:w5.cell? ⟨wr.heap.size,1,none⟩=some (.string (st val)):=AB hh5 1;clear hb5 hf5 hh5;go_wp2_with fail
    refine(Hx base b (q++bs (st key)++bs ⟨#[61]⟩) (st val) _ HB5.out (by have hz:=HQ.out;have hk:=HT.out;rw[hk]at hz;simp only[LA,LC,LN,AF,AV]at hz⊢;(try simp only[bs,ByteArray.size,List.size_toArray,LC,LN]);(try simp);omega)).mono ?_;rintro e w6 ⟨rfl,hb6,hf6⟩;have HB6:=Hi hb6;have HF6:=Hi (HF5.out.trans hf6)
    have hh6:=hf6.heap HH5.out (by decide) hne;have HH6:=Hi hh6;have c0:w6.cell? ⟨wr.heap.size,0,none⟩=some (.string (st key)):=AB hh6 0;have c1:w6.cell? ⟨wr.heap.size,1,none⟩=some (.string (st val)):=AB hh6 1;clear hb6 hf6 hh6;go_wp2;go_roundg (gk-1)
    case measure=>omega
    case rel=>exact⟨k+1,by omega,by go_num,by go_num,by rw[HSN.out,HT.out];exact(show q++bs (st key)++bs ⟨#[61]⟩++bs (st val)=q++(key++61::val)from by rw[AV,AV];simp[bs])▸HB6.out,HF6.out⟩
  ·have e:k=l.length:=by omega
   have HX:Hid (Bld base b (t0++AZ l sep) wr):=Hi (by have:=HLN.out;rw[e,O7]at this;exact this);clear e;go_wp2
   go_end0
   exact⟨rfl,HX.out,HFR.out⟩
structure AdC(w:World)(b:Nat)(d:Tx)(u:PU)(l:KVs):Prop where
 d:w.cell? ⟨b,0,none⟩=some (.string (st d))
 u:UIn w b 1 u
 wild:w.cell? ⟨b,3,none⟩=some (.bool false)
 l:∃lv,w.cell? ⟨b,11,none⟩=some lv∧Hp w lv l
theorem AdC.le{w w':World}{b:Nat}{d:Tx}{u:PU}{l:KVs}(h:AdC w b d u l)(k:Le w w'):AdC w' b d u l:=
 ⟨k.cell h.d,h.u.le k,k.cell h.wild,by obtain⟨lv,h1,h2⟩:=h.l;exact⟨lv,k.cell h1,h2.le k⟩⟩
structure AdZ(d:Tx)(u:PU)(l:KVs):Prop where
 d:d.length≤137438953472
 ut:(BY u).length≤137438953472
 host:∀k (h:k<(st u.host).size),(st u.host)[k]'h≠58
 lp:(u.ps.flatMap (Ae 59)).length≤1099511627776
 lh:(u.hs.flatMap (Ae 38)).length≤1099511627776
 l:(l.flatMap (Ae 59)).length≤1099511627776
theorem Gk(d:Tx):(dqT d).length≤d.length+3:=by unfold dqT;split<;>simp
structure ViC(w:World)(b:Nat)(pr ve tr ho:Tx)(po:Int)(l:KVs):Prop where
 pr:w.cell? ⟨b,0,none⟩=some (.string (st pr))
 ve:w.cell? ⟨b,1,none⟩=some (.string (st ve))
 tr:w.cell? ⟨b,2,none⟩=some (.string (st tr))
 ho:w.cell? ⟨b,3,none⟩=some (.string (st ho))
 po:w.cell? ⟨b,4,none⟩=some (.int .i64 po)
 l:∃lv,w.cell? ⟨b,5,none⟩=some lv∧Hp w lv l
theorem ViC.le{w w':World}{b:Nat}{pr ve tr ho:Tx}{po:Int}{l:KVs}(h:ViC w b pr ve tr ho po l)(k:Le w w'):ViC w' b pr ve tr ho po l:=
 ⟨k.cell h.pr,k.cell h.ve,k.cell h.tr,k.cell h.ho,k.cell h.po,by obtain⟨lv,h1,h2⟩:=h.l;exact⟨lv,k.cell h1,h2.le k⟩⟩
structure ViZ(pr ve tr ho:Tx)(po:Int)(l:KVs):Prop where
 hpr:pr.length≤137438953472
 hve:ve.length≤137438953472
 htr:tr.length≤137438953472
 hho:ho.length≤137438953472
 hp:∀k (h:k<(st ho).size),(st ho)[k]'h≠58
 hlo: -9223372036854775808≤po
 hhi:po≤9223372036854775807
 hl:(l.flatMap (Ae 59)).length≤1099511627776
def ptV(po:Int):Tx:=if 0<po then 58::Lib.itoa po else []
def vkT(pr ve tr ho:Tx)(po:Int)(l:KVs):Tx:=pr++47::(ve++47::(tr++32::(ho++(ptV po++uPs l 59 59))))
theorem QK(p:PH):kVi p=vkT p.proto p.ver p.tr p.host p.port p.ps:=rfl
theorem Lh(w:World)(v:Value):Calls Tryz.prog 254 #[v] w fun e w'=>e= .returned (.string ⟨#[86,105,97]⟩)∧w'=w:=by
 go_enter Tryz.func254,Tryz.ntmps254;go_wp2;go_ret;exact⟨rfl,rfl⟩
def Lg(b bb:Nat)(ho:Tx):Nat→Value→World→Prop
 |0,v,_=>v=(.pointer (some ⟨b,0,none⟩))
 |1,v,_=>v=(Value.iface 127 (.pointer (some ⟨bb,0,none⟩)))
 |37,v,_=>v=(Value.iface 127 (.pointer (some ⟨bb,0,none⟩)))
 |38,v,_=>v=(.pointer (some ⟨b,0,none⟩))
 |39,v,_=>v=(.pointer (some ⟨b,0,none⟩))
 |40,v,_=>v=(.pointer (some ⟨b,3,none⟩))
 |41,v,_=>v=(Value.string (st ho))
 |42,v,_=>v=(Value.string (st ho))
 |43,v,_=>v=(Value.func (Fn.method "WriteString") #[(Value.iface 127 (.pointer (some ⟨bb,0,none⟩)))] #[])
 |44,v,_=>v=(Value.func (Fn.method "WriteString") #[(Value.iface 127 (.pointer (some ⟨bb,0,none⟩)))] #[])
 |45,v,_=>v=(Value.iface 127 (.pointer (some ⟨bb,0,none⟩)))
 |_,_,_=>True
theorem NP(b bb:Nat)(ho:Tx)(t:Nat)(v:Value)(w1 w2:World)(k:Le w1 w2)(h:Lg b bb ho t v w1):Lg b bb ho t v w2:=by
 unfold Lg at h⊢;split at h<;>first|exact h
def Lf(b bb:Nat)(po:Int):Nat→Value→World→Prop
 |0,v,_=>v=(.pointer (some ⟨b,0,none⟩))
 |1,v,_=>v=(Value.iface 127 (.pointer (some ⟨bb,0,none⟩)))
 |54,v,_=>v=(Value.iface 127 (.pointer (some ⟨bb,0,none⟩)))
 |55,v,_=>v=(.pointer (some ⟨b,0,none⟩))
 |56,v,_=>v=(.pointer (some ⟨b,0,none⟩))
 |57,v,_=>v=(.pointer (some ⟨b,4,none⟩))
 |58,v,_=>v=(Value.int .i64 po)
 |59,v,_=>v=(Value.string (st (Lib.itoa po)))
 |60,v,_=>v=(Value.func (Fn.method "WriteString") #[(Value.iface 127 (.pointer (some ⟨bb,0,none⟩)))] #[])
 |61,v,_=>v=(Value.func (Fn.method "WriteString") #[(Value.iface 127 (.pointer (some ⟨bb,0,none⟩)))] #[])
 |62,v,_=>v=(Value.iface 127 (.pointer (some ⟨bb,0,none⟩)))
 |_,_,_=>True
theorem NO(b bb:Nat)(po:Int)(t:Nat)(v:Value)(w1 w2:World)(k:Le w1 w2)(h:Lf b bb po t v w1):Lf b bb po t v w2:=by
 unfold Lf at h⊢;split at h<;>first|exact h
theorem PY(w0 w:World)(b bb:Nat)(t0 pr ve tr ho:Tx)(po:Int)(l:KVs)(hb:ViC w0 b pr ve tr ho po l)(hw:UW w0 bb t0 w)(hL:BW w0)(hz:ViZ pr ve tr ho po l)(ht0:t0.length≤1000):
 Calls Tryz.prog 259 #[.pointer (some ⟨b,0,none⟩),.iface 127 (.pointer (some ⟨bb,0,none⟩))] w fun e w'=>e= .returned (.tuple #[])∧UW w0 bb (t0++vkT pr ve tr ho po l) w':=by
 have HB:=Hi hb;have HW0:=Hi hw;have HL:=Hi hL;have HHP:=Hi hz.hp;have HFL:=Hi hz.hl;have HPO:=Hi (And.intro hz.hlo hz.hhi);have hpl:(AZ l 59).length≤1099511627776:=by have:=hz.hl;unfold AZ;simp only[List.length_drop];omega
 have hpt:=Lib.itoa_length_le po hz.hlo hz.hhi;have hpt2:(ptV po).length≤100:=by unfold ptV;split<;>simp only[LC,LN]<;>omega
 have HZ:=Hi (⟨hz.hpr,hz.hve,hz.htr,hz.hho,hpl,hpt,hpt2,ht0⟩:_∧_∧_∧_∧_∧_∧_∧_);obtain⟨lv,hcl,hlv⟩:=hb.l;have HLV:=Hi hlv;have HCL:=Hi hcl;have hna:∀(n:Nat) (w:World),(nilAhead (n+1) 127 (.pointer (some ⟨bb,0,none⟩)) "WriteString").run Tryz.prog w= .ok (some false) w:=fun n w=>by kernel_rfl
 clear hb hw hL hz ht0 hpl hpt hpt2 hcl hlv;go_enter Tryz.func259,Tryz.ntmps259;have g0x:w.cell? ⟨b,0,none⟩=some (.string (st pr)):=HW0.out.le.cell HB.out.pr;go_wp2;go_still_tail 8,(by kernel_rfl)
 change wpList _ _ _ _ _ (World.drew _);have HW1:=Hi (HW0.out.grow (AC _).drew);generalize World.drew _=wd1 at HW1⊢;go_wp2_with fail
 refine(HW1.out.ws (st pr) (by have hz:=HZ.out;(try simp only[LA,LC,LN,AF]);(try simp only[ByteArray.size,List.size_toArray,LC,LN]);omega)).mono ?_;rintro e w2 ⟨rfl,hw2⟩;have HW2:Hid (UW w0 bb (t0++pr) w2):=Hi hw2;clear hw2;go_wp2_with fail
 refine(HW2.out.ws ⟨#[47]⟩ (by have hz:=HZ.out;(try simp only[LA,LC,LN,AF]);(try simp only[ByteArray.size,List.size_toArray,LC,LN]);omega)).mono ?_;rintro e w3 ⟨rfl,hw3⟩;have HW3:Hid (UW w0 bb (t0++pr++[47]) w3):=Hi hw3;clear hw3;have g3x:w3.cell? ⟨b,1,none⟩=some (.string (st ve)):=HW3.out.le.cell HB.out.ve;go_wp2
 go_still_tail 8,(by kernel_rfl)
 change wpList _ _ _ _ _ (World.drew _);have HW4:=Hi (HW3.out.grow (AC _).drew);generalize World.drew _=wd4 at HW4⊢;go_wp2_with fail
 refine(HW4.out.ws (st ve) (by have hz:=HZ.out;(try simp only[LA,LC,LN,AF]);(try simp only[ByteArray.size,List.size_toArray,LC,LN]);omega)).mono ?_;rintro e w5 ⟨rfl,hw5⟩;have HW5:Hid (UW w0 bb (t0++pr++[47]++ve) w5):=Hi hw5;clear hw5;go_wp2_with fail
 refine(HW5.out.ws ⟨#[47]⟩ (by have hz:=HZ.out;(try simp only[LA,LC,LN,AF]);(try simp only[ByteArray.size,List.size_toArray,LC,LN]);omega)).mono ?_;rintro e w6 ⟨rfl,hw6⟩;have HW6:Hid (UW w0 bb (t0++pr++[47]++ve++[47]) w6):=Hi hw6;clear hw6;have g6x:w6.cell? ⟨b,2,none⟩=some (.string (st tr)):=HW6.out.le.cell HB.out.tr
 go_wp2;go_still_tail 8,(by kernel_rfl)
 change wpList _ _ _ _ _ (World.drew _);have HW7:=Hi (HW6.out.grow (AC _).drew);generalize World.drew _=wd7 at HW7⊢;go_wp2_with fail
 refine(HW7.out.ws (st tr) (by have hz:=HZ.out;(try simp only[LA,LC,LN,AF]);(try simp only[ByteArray.size,List.size_toArray,LC,LN]);omega)).mono ?_;rintro e w8 ⟨rfl,hw8⟩;have HW8:Hid (UW w0 bb (t0++pr++[47]++ve++[47]++tr) w8):=Hi hw8;clear hw8;go_wp2_with fail
 refine(HW8.out.ws ⟨#[32]⟩ (by have hz:=HZ.out;(try simp only[LA,LC,LN,AF]);(try simp only[ByteArray.size,List.size_toArray,LC,LN]);omega)).mono ?_;rintro e w9 ⟨rfl,hw9⟩;have HW9:Hid (UW w0 bb (t0++pr++[47]++ve++[47]++tr++[32]) w9):=Hi hw9;clear hw9;go_wp2
 have hm_hvih:(Tryz.prog).follows .mixedOrders=true:=by kernel_rfl
 refine G3.wp_region_grow_tail (Lg b bb ho) (UW w0 bb (t0++pr++[47]++ve++[47]++tr++[32])) 85 9 [37,38,39,40,41,42,43,44,45] hm_hvih (by kernel_rfl) rfl rfl ?hG_hvih ?hold_hvih ?hs_hvih ?hend_hvih;case hG_hvih=>exact HW9.out.grow (AC _).drew
 case hold_hvih=>
  intro t ht;simp only[List.mem_cons,List.mem_nil_iff,or_false,not_or]at ht;unfold Lg;split<;>first|rfl|trivial|(exfalso;simp at ht)
 case hs_hvih=>
  simp only[List.take_succ_cons,List.take_zero];refine⟨?_,?_,?_,?_,?_,?_,?_,?_,?_,trivial⟩
  ·refine AA fun a W hg hop=>?_;have h1:_=_:=hq hop 1;have h1':=tg h1;refine⟨_,?_,rfl⟩;simp only[execOp,h1];go_simp
  ·refine AA fun a W hg hop=>?_;have h0:_=_:=hq hop 0;have h0':=tg h0;refine⟨_,?_,rfl⟩;simp only[execOp,h0];go_simp
  ·refine AA fun a W hg hop=>?_;have h38:_=_:=hq hop 38;have h38':=tg h38;refine⟨_,?_,rfl⟩;simp only[execOp,h38];go_simp
  ·refine AA fun a W hg hop=>?_;have h39:_=_:=hq hop 39;have h39':=tg h39;refine⟨_,?_,rfl⟩;simp only[execOp,h39];go_simp
  ·refine AA fun a W hg hop=>?_;have h40:_=_:=hq hop 40;have h40':=tg h40;have hc:W.cell? ⟨b,3,none⟩=some (Value.string (st ho)):=hg.le.cell HB.out.ho;refine⟨_,?_,rfl⟩;simp only[execOp,h40];go_simp
  ·refine AG ?_ ?_ ?_ ?_
   ·exact fun t v w1 w2 k h=>NP b bb ho t v w1 w2 k h
   ·exact fun _ _ _ _ h=>h
   ·exact fun w1 w2 k h=>h.grow k
   ·intro a W hg hop;have h41:_=_:=hq hop 41;have h41':=tg h41;refine⟨91,#[.string (st ho)],?_,(Ka (st ho) W HHP.out (by have:=HZ.out;rw[AF];omega) (HL.out.le hg.le)).mono ?_⟩
    ·simp only[execOp,h41];go_simp
    ·rintro e w' ⟨rfl,hle⟩;exact⟨_,rfl,hle,rfl⟩
  ·refine AA fun a W hg hop=>?_;have h37:_=_:=hq hop 37;have h37':=tg h37;refine⟨_,?_,rfl⟩;simp only[execOp];go_simp
  ·refine AA fun a W hg hop=>?_;have h43:_=_:=hq hop 43;have h43':=tg h43;refine⟨_,?_,rfl⟩;simp only[execOp,h43];go_simp
  ·refine AA fun a W hg hop=>?_;have h37:_=_:=hq hop 37;have h37':=tg h37;refine⟨_,?_,rfl⟩;simp only[execOp,h37];go_simp
 case hend_hvih=>
  intro s_ wz hg hS;have HW10:=Hi (show UW w0 bb (t0++pr++[47]++ve++[47]++tr++[32]) wz from hg);have s37:s_ 37=(Value.iface 127 (.pointer (some ⟨bb,0,none⟩))):=hS 37 (by simp);have s38:s_ 38=(.pointer (some ⟨b,0,none⟩)):=hS 38 (by simp);have s39:s_ 39=(.pointer (some ⟨b,0,none⟩)):=hS 39 (by simp);have s40:s_ 40=(.pointer (some ⟨b,3,none⟩)):=hS 40 (by simp)
  have s41:s_ 41=(Value.string (st ho)):=hS 41 (by simp);have s42:s_ 42=(Value.string (st ho)):=hS 42 (by simp);have s43:s_ 43=(Value.func (Fn.method "WriteString") #[(Value.iface 127 (.pointer (some ⟨bb,0,none⟩)))] #[]):=hS 43 (by simp);have s44:s_ 44=(Value.func (Fn.method "WriteString") #[(Value.iface 127 (.pointer (some ⟨bb,0,none⟩)))] #[]):=hS 44 (by simp)
  have s45:s_ 45=(Value.iface 127 (.pointer (some ⟨bb,0,none⟩))):=hS 45 (by simp);clear hS hg;simp only[Aj,s37,s38,s39,s40,s41,s42,s43,s44,s45,Act.put,List.setIfInBounds_toArray,List.set_cons_zero,List.set_cons_succ,List.drop_succ_cons,List.drop_zero];go_wp2_with fail
  refine(HW10.out.ws (st ho) (by have hz:=HZ.out;(try simp only[LA,LC,LN,AF]);(try simp only[ByteArray.size,List.size_toArray,LC,LN]);omega)).mono ?_;rintro e w11 ⟨rfl,hw11⟩;have HW11:Hid (UW w0 bb (t0++pr++[47]++ve++[47]++tr++[32]++ho) w11):=Hi hw11;clear hw11
  have gd:w11.cell? ⟨b,4,none⟩=some (.int .i64 po):=HW11.out.le.cell HB.out.po;go_upto_if 51 with fail
  go_cut []from 4 (fun wc=>UW w0 bb (t0++pr++[47]++ve++[47]++tr++[32]++ho++ptV po) wc)
  case first=>
   by_cases hd0:0<po
   ·have hqq:decide (0<po)=true:=decide_eq_true hd0;have h2:Hid (ptV po=58::Lib.itoa po):=Hi (by unfold ptV;rw[if_pos hd0]);go_wp2_with fail
    refine(HW11.out.ws ⟨#[58]⟩ (by have hz:=HZ.out;(try simp only[LA,LC,LN,AF]);(try simp only[ByteArray.size,List.size_toArray,LC,LN]);omega)).mono ?_;rintro e w12 ⟨rfl,hw12⟩;have HW12:Hid (UW w0 bb (t0++pr++[47]++ve++[47]++tr++[32]++ho++[58]) w12):=Hi hw12;clear hw12;go_wp2
    have hm_hvip:(Tryz.prog).follows .mixedOrders=true:=by kernel_rfl
    refine G3.wp_region_grow_tail (Lf b bb po) (UW w0 bb (t0++pr++[47]++ve++[47]++tr++[32]++ho++[58])) 85 9 [54,55,56,57,58,59,60,61,62] hm_hvip (by kernel_rfl) rfl rfl ?hG_hvip ?hold_hvip ?hs_hvip ?hend_hvip;case hG_hvip=>exact HW12.out.grow (AC _).drew
    case hold_hvip=>
     intro t ht;simp only[List.mem_cons,List.mem_nil_iff,or_false,not_or]at ht;unfold Lf;split<;>first|rfl|trivial|(exfalso;simp at ht)
    case hs_hvip=>
     simp only[List.take_succ_cons,List.take_zero];refine⟨?_,?_,?_,?_,?_,?_,?_,?_,?_,trivial⟩
     ·refine AA fun a W hg hop=>?_;have h1:_=_:=hq hop 1;have h1':=tg h1;refine⟨_,?_,rfl⟩;simp only[execOp,h1];go_simp
     ·refine AA fun a W hg hop=>?_;have h0:_=_:=hq hop 0;have h0':=tg h0;refine⟨_,?_,rfl⟩;simp only[execOp,h0];go_simp
     ·refine AA fun a W hg hop=>?_;have h55:_=_:=hq hop 55;have h55':=tg h55;refine⟨_,?_,rfl⟩;simp only[execOp,h55];go_simp
     ·refine AA fun a W hg hop=>?_;have h56:_=_:=hq hop 56;have h56':=tg h56;refine⟨_,?_,rfl⟩;simp only[execOp,h56];go_simp
     ·refine AA fun a W hg hop=>?_;have h57:_=_:=hq hop 57;have h57':=tg h57;have hc:W.cell? ⟨b,4,none⟩=some (Value.int .i64 po):=hg.le.cell HB.out.po;refine⟨_,?_,rfl⟩;simp only[execOp,h57];go_simp
     ·refine AG ?_ ?_ ?_ ?_
      ·exact fun t v w1 w2 k h=>NO b bb po t v w1 w2 k h
      ·exact fun _ _ _ _ h=>h
      ·exact fun w1 w2 k h=>h.grow k
      ·intro a W hg hop;have h58:_=_:=hq hop 58;have h58':=tg h58;refine⟨92,#[.int .i64 po],?_,(Fl po W HPO.out.1 HPO.out.2 (HL.out.le hg.le)).mono ?_⟩
       ·simp only[execOp,h58];go_simp
       ·rintro e w' ⟨rfl,hle⟩;exact⟨_,rfl,hle,rfl⟩
     ·refine AA fun a W hg hop=>?_;have h54:_=_:=hq hop 54;have h54':=tg h54;refine⟨_,?_,rfl⟩;simp only[execOp];go_simp
     ·refine AA fun a W hg hop=>?_;have h60:_=_:=hq hop 60;have h60':=tg h60;refine⟨_,?_,rfl⟩;simp only[execOp,h60];go_simp
     ·refine AA fun a W hg hop=>?_;have h54:_=_:=hq hop 54;have h54':=tg h54;refine⟨_,?_,rfl⟩;simp only[execOp,h54];go_simp
    case hend_hvip=>
     intro s_ wz hg hS;have HW13:=Hi (show UW w0 bb (t0++pr++[47]++ve++[47]++tr++[32]++ho++[58]) wz from hg);have s54:s_ 54=(Value.iface 127 (.pointer (some ⟨bb,0,none⟩))):=hS 54 (by simp);have s55:s_ 55=(.pointer (some ⟨b,0,none⟩)):=hS 55 (by simp);have s56:s_ 56=(.pointer (some ⟨b,0,none⟩)):=hS 56 (by simp);have s57:s_ 57=(.pointer (some ⟨b,4,none⟩)):=hS 57 (by simp)
     have s58:s_ 58=(Value.int .i64 po):=hS 58 (by simp);have s59:s_ 59=(Value.string (st (Lib.itoa po))):=hS 59 (by simp);have s60:s_ 60=(Value.func (Fn.method "WriteString") #[(Value.iface 127 (.pointer (some ⟨bb,0,none⟩)))] #[]):=hS 60 (by simp);have s61:s_ 61=(Value.func (Fn.method "WriteString") #[(Value.iface 127 (.pointer (some ⟨bb,0,none⟩)))] #[]):=hS 61 (by simp)
     have s62:s_ 62=(Value.iface 127 (.pointer (some ⟨bb,0,none⟩))):=hS 62 (by simp);clear hS hg;simp only[Aj,s54,s55,s56,s57,s58,s59,s60,s61,s62,Act.put,List.setIfInBounds_toArray,List.set_cons_zero,List.set_cons_succ,List.drop_succ_cons,List.drop_zero];go_wp2_with fail
     refine(HW13.out.ws (st (Lib.itoa po)) (by have hz:=HZ.out;(try simp only[LA,LC,LN,AF]);(try simp only[ByteArray.size,List.size_toArray,LC,LN]);omega)).mono ?_;rintro e w14 ⟨rfl,hw14⟩;have HW14:Hid (UW w0 bb (t0++pr++[47]++ve++[47]++tr++[32]++ho++[58]++(Lib.itoa po)) w14):=Hi hw14;clear hw14;go_wp2;go_meet
     case rel=>rw[h2.out];have h:=HW14.out;simp only[List.nil_append,List.append_assoc,List.cons_append]at h⊢;exact h
   ·have hqq:decide (0<po)=false:=decide_eq_false hd0;have h2:Hid (ptV po=[]):=Hi (by unfold ptV;rw[if_neg hd0]);go_wp2;go_meet;case rel=>rw[h2.out,List.append_nil];exact HW11.out
  rename World=>w31
  have HW31:=Hi hcut;clear hcut;obtain⟨Al,cl,el,hlx⟩:=HLV.out;subst el;have HCL:Hid (w0.cell? ⟨b,5,none⟩=some (.slice Al l.length cl)):=Hi HCL.out;have gl:w31.cell? ⟨b,5,none⟩=some (.slice Al l.length cl):=HW31.out.le.cell HCL.out;cases Al with
  |none=>
   have hl0:l=[]:=by
    rcases hx:l with _|⟨x,r⟩
    ·rfl
    ·obtain⟨g,o,e,_⟩:=hlx.2.2.2.2 (by rw[hx];simp);cases e
   have HPF:Hid (uPs l 59 59=[]):=Hi (by unfold uPs;rw[if_pos hl0]);clear hlx hl0;go_wp2
   go_returns
   refine⟨rfl,?_⟩;have h:=HW31.out;unfold vkT;rw[HPF.out];simp only[List.append_assoc,List.cons_append,List.nil_append,List.append_nil]at h⊢;exact h
  |some al=>
   clear hlx;go_wp2_with fail
   refine(Ck _ _ l (HLV.out.le HW31.out.le)).mono ?_;rintro e wl ⟨rfl,rfl⟩;by_cases hl0:l=[]
   ·have hzn:¬0<l.length:=by rw[hl0];simp
    have hzl:l.length≤0:=by omega
    have HPF:Hid (uPs l 59 59=[]):=Hi (by unfold uPs;rw[if_pos hl0]);clear hl0;go_wp2
    go_returns
    refine⟨rfl,?_⟩;have h:=HW31.out;unfold vkT;rw[HPF.out];simp only[List.append_assoc,List.cons_append,List.nil_append,List.append_nil]at h⊢;exact h
   ·have hpos:0<l.length:=List.length_pos_iff.2 hl0;have hzd:decide ((0:Int)<(l.length:Int))=true:=by simp;omega
    have HPF:Hid (uPs l 59 59=59::AZ l 59):=Hi (by unfold uPs;rw[if_neg hl0]);clear hl0;go_wp2_with fail
    refine(HW31.out.ws ⟨#[59]⟩ (by have hz:=HZ.out;(try simp only[LA,LC,LN,AF]);(try simp only[ByteArray.size,List.size_toArray,LC,LN]);omega)).mono ?_;rintro e w32 ⟨rfl,hw32⟩;have HW32:Hid (UW w0 bb (t0++pr++[47]++ve++[47]++tr++[32]++ho++ptV po++[59]) w32):=Hi hw32;clear hw32
    have gq:w32.cell? ⟨b,5,none⟩=some (.slice (some al) l.length cl):=HW32.out.le.cell HCL.out;go_wp2_with fail
    refine(EB w0.heap.size bb (t0++pr++[47]++ve++[47]++tr++[32]++ho++ptV po++[59]) (by have hz:=HZ.out;simp only[LA,LC,LN];omega) w32 (.slice (some al) l.length cl) l 59 (by decide) (HLV.out.le HW32.out.le) HW32.out.bld HW32.out.le.size HFL.out).mono ?_;rintro e w33 ⟨rfl,hb33,hf33⟩
    have HW33:Hid (UW w0 bb (t0++pr++[47]++ve++[47]++tr++[32]++ho++ptV po++[59]++AZ l 59) w33):=Hi ⟨Below.trans HW32.out.le hf33.1,hb33⟩;clear hb33 hf33;go_wp2
    go_returns
    refine⟨rfl,?_⟩;have h:=HW33.out;unfold vkT;rw[HPF.out];simp only[List.append_assoc,List.cons_append,List.nil_append,List.append_nil]at h⊢;exact h
theorem GL(w0:World)(b:Nat)(pr ve tr ho:Tx)(po:Int)(l:KVs)(hb:ViC w0 b pr ve tr ho po l)(hL:BW w0)(hz:ViZ pr ve tr ho po l):Calls Tryz.prog 257 #[.pointer (some ⟨b,0,none⟩)] w0 fun e w'=>e= .returned (.string (st (vkT pr ve tr ho po l)))∧Le w0 w':=by
 have HB:=Hi hb;have HL:=Hi hL;have HZ:=Hi hz;clear hb hL hz;go_enter Tryz.func257,Tryz.ntmps257;go_wp2_with fail
 refine(PY w0 _ b w0.heap.size [] pr ve tr ho po l HB.out ⟨(AC w0).alloc _,BR w0⟩ HL.out HZ.out (by decide)).mono ?_;rintro e w2 ⟨rfl,hw2⟩;have HW2:=Hi hw2;clear hw2;go_wp2_with fail
 refine(Bj _ _ _ _ HW2.out.bld).mono ?_;rintro e w3 ⟨rfl,_,hf3⟩;have HL3:Hid (Le w0 w3):=Hi (Below.trans HW2.out.le hf3.1);clear hf3;go_wp2;go_ret;exact⟨by simp,HL3.out⟩
def Ld(b bb:Nat)(pr ve tr ho:Tx)(po:Int)(l:KVs):Nat→Value→World→Prop
 |0,v,_=>v=(.pointer (some ⟨b,0,none⟩))
 |1,v,_=>v=(Value.iface 127 (.pointer (some ⟨bb,0,none⟩)))
 |13,v,_=>v=(Value.iface 127 (.pointer (some ⟨bb,0,none⟩)))
 |14,v,_=>v=(.pointer (some ⟨b,0,none⟩))
 |15,v,_=>v=(Value.string (st (vkT pr ve tr ho po l)))
 |16,v,_=>v=(Value.func (Fn.method "WriteString") #[(Value.iface 127 (.pointer (some ⟨bb,0,none⟩)))] #[])
 |17,v,_=>v=(Value.func (Fn.method "WriteString") #[(Value.iface 127 (.pointer (some ⟨bb,0,none⟩)))] #[])
 |18,v,_=>v=(Value.iface 127 (.pointer (some ⟨bb,0,none⟩)))
 |_,_,_=>True
theorem NN(b bb:Nat)(pr ve tr ho:Tx)(po:Int)(l:KVs)(t:Nat)(v:Value)(w1 w2:World)(k:Le w1 w2)(h:Ld b bb pr ve tr ho po l t v w1):Ld b bb pr ve tr ho po l t v w2:=by
 unfold Ld at h⊢;split at h<;>first|exact h
theorem OS{pr ve tr ho:Tx}{po:Int}{l:KVs}(hz:ViZ pr ve tr ho po l):(vkT pr ve tr ho po l).length≤10995116277760:=by
 have h1:=hz.hpr;have h2:=hz.hve;have h3:=hz.htr;have h4:=hz.hho;have hpl:(uPs l 59 59).length≤1099511627777:=by have:=hz.hl;unfold uPs AZ;split<;>simp only[LC,LN,List.length_drop]<;>omega
 have hpt:=Lib.itoa_length_le po hz.hlo hz.hhi;have hpt2:(ptV po).length≤100:=by unfold ptV;split<;>simp only[LC,LN]<;>omega
 unfold vkT;simp only[LA,LC];omega
theorem PZ(w0 w:World)(b bb:Nat)(pr ve tr ho:Tx)(po:Int)(l:KVs)(hb:ViC w0 b pr ve tr ho po l)(hw:UW w0 bb [] w)(hL:BW w0)(hz:ViZ pr ve tr ho po l):
 Calls Tryz.prog 256 #[.pointer (some ⟨b,0,none⟩),.iface 127 (.pointer (some ⟨bb,0,none⟩))] w fun e w'=>e= .returned (.tuple #[])∧UW w0 bb ([86,105,97,58,32]++vkT pr ve tr ho po l) w':=by
 have HVL:=Hi (OS hz);have HB:=Hi hb;have HW0:=Hi hw;have HL:=Hi hL;have HZZ:=Hi hz;have hna:∀(n:Nat) (w:World),(nilAhead (n+1) 127 (.pointer (some ⟨bb,0,none⟩)) "WriteString").run Tryz.prog w= .ok (some false) w:=fun n w=>by kernel_rfl
 clear hb hw hL hz;go_enter Tryz.func256,Tryz.ntmps256;go_wp2;go_still_tail 6,(by kernel_rfl)
 still_call (Lh _ _)
 repeat still_step
 refine wpStill_nil ?_;change wpList _ _ _ _ _ (World.drew _);have HW1:=Hi (HW0.out.grow (AC _).drew);generalize World.drew _=wd1 at HW1⊢;go_wp2_with fail
 refine(HW1.out.ws ⟨#[86,105,97]⟩ (by decide)).mono ?_;rintro e w2 ⟨rfl,hw2⟩;have HW2:Hid (UW w0 bb [86,105,97] w2):=Hi hw2;clear hw2;go_wp2_with fail
 refine(HW2.out.ws ⟨#[58,32]⟩ (by decide)).mono ?_;rintro e w3 ⟨rfl,hw3⟩;have HW3:Hid (UW w0 bb [86,105,97,58,32] w3):=Hi hw3;clear hw3;go_wp2;have hm_hviw:(Tryz.prog).follows .mixedOrders=true:=by kernel_rfl
 refine G3.wp_region_grow_tail (Ld b bb pr ve tr ho po l) (UW w0 bb ([86,105,97,58,32])) 20 6 [13,14,15,16,17,18] hm_hviw (by kernel_rfl) rfl rfl ?hG_hviw ?hold_hviw ?hs_hviw ?hend_hviw;case hG_hviw=>exact HW3.out.grow (AC _).drew
 case hold_hviw=>
  intro t ht;simp only[List.mem_cons,List.mem_nil_iff,or_false,not_or]at ht;unfold Ld;split<;>first|rfl|trivial|(exfalso;simp at ht)
 case hs_hviw=>
  simp only[List.take_succ_cons,List.take_zero];refine⟨?_,?_,?_,?_,?_,?_,trivial⟩
  ·refine AA fun a W hg hop=>?_;have h1:_=_:=hq hop 1;have h1':=tg h1;refine⟨_,?_,rfl⟩;simp only[execOp,h1];go_simp
  ·refine AA fun a W hg hop=>?_;have h0:_=_:=hq hop 0;have h0':=tg h0;refine⟨_,?_,rfl⟩;simp only[execOp,h0];go_simp
  ·refine AG ?_ ?_ ?_ ?_
   ·exact fun t v w1 w2 k h=>NN b bb pr ve tr ho po l t v w1 w2 k h
   ·exact fun _ _ _ _ h=>h
   ·exact fun w1 w2 k h=>h.grow k
   ·intro a W hg hop;have h14:_=_:=hq hop 14;have h14':=tg h14;refine⟨257,#[.pointer (some ⟨b,0,none⟩)],?_,(GL W b pr ve tr ho po l (HB.out.le hg.le) (HL.out.le hg.le) HZZ.out).mono ?_⟩
    ·simp only[execOp,h14];go_simp
    ·rintro e w' ⟨rfl,hle⟩;exact⟨_,rfl,hle,rfl⟩
  ·refine AA fun a W hg hop=>?_;have h13:_=_:=hq hop 13;have h13':=tg h13;refine⟨_,?_,rfl⟩;simp only[execOp];go_simp
  ·refine AA fun a W hg hop=>?_;have h16:_=_:=hq hop 16;have h16':=tg h16;refine⟨_,?_,rfl⟩;simp only[execOp,h16];go_simp
  ·refine AA fun a W hg hop=>?_;have h13:_=_:=hq hop 13;have h13':=tg h13;refine⟨_,?_,rfl⟩;simp only[execOp,h13];go_simp
 case hend_hviw=>
  intro s_ wz hg hS;have HW4:=Hi (show UW w0 bb ([86,105,97,58,32]) wz from hg);have s13:s_ 13=(Value.iface 127 (.pointer (some ⟨bb,0,none⟩))):=hS 13 (by simp);have s14:s_ 14=(.pointer (some ⟨b,0,none⟩)):=hS 14 (by simp);have s15:s_ 15=(Value.string (st (vkT pr ve tr ho po l))):=hS 15 (by simp)
  have s16:s_ 16=(Value.func (Fn.method "WriteString") #[(Value.iface 127 (.pointer (some ⟨bb,0,none⟩)))] #[]):=hS 16 (by simp);have s17:s_ 17=(Value.func (Fn.method "WriteString") #[(Value.iface 127 (.pointer (some ⟨bb,0,none⟩)))] #[]):=hS 17 (by simp);have s18:s_ 18=(Value.iface 127 (.pointer (some ⟨bb,0,none⟩))):=hS 18 (by simp);clear hS hg
  simp only[Aj,s13,s14,s15,s16,s17,s18,Act.put,List.setIfInBounds_toArray,List.set_cons_zero,List.set_cons_succ,List.drop_succ_cons,List.drop_zero];have HZ:=HVL;go_wp2_with fail
  refine(HW4.out.ws (st (vkT pr ve tr ho po l)) (by have hz:=HZ.out;(try simp only[LA,LC,LN,AF]);(try simp only[ByteArray.size,List.size_toArray,LC,LN]);omega)).mono ?_;rintro e w5 ⟨rfl,hw5⟩;have HW5:Hid (UW w0 bb ([86,105,97,58,32]++(vkT pr ve tr ho po l)) w5):=Hi hw5;clear hw5;go_wp2
  go_returns
  exact⟨rfl,HW5.out⟩
theorem Ia(w0:World)(b:Nat)(pr ve tr ho:Tx)(po:Int)(l:KVs)(hb:ViC w0 b pr ve tr ho po l)(hL:BW w0)(hz:ViZ pr ve tr ho po l):Calls Tryz.prog 255 #[.pointer (some ⟨b,0,none⟩)] w0 fun e w'=>e= .returned (.string (st ([86,105,97,58,32]++vkT pr ve tr ho po l)))∧Le w0 w':=by
 have HB:=Hi hb;have HL:=Hi hL;have HZ:=Hi hz;clear hb hL hz;go_enter Tryz.func255,Tryz.ntmps255;go_wp2_with fail
 refine(PZ w0 _ b w0.heap.size pr ve tr ho po l HB.out ⟨(AC w0).alloc _,BR w0⟩ HL.out HZ.out).mono ?_;rintro e w2 ⟨rfl,hw2⟩;have HW2:=Hi hw2;clear hw2;go_wp2_with fail
 refine(Bj _ _ _ _ HW2.out.bld).mono ?_;rintro e w3 ⟨rfl,_,hf3⟩;have HL3:Hid (Le w0 w3):=Hi (Below.trans HW2.out.le hf3.1);clear hf3;go_wp2;go_ret;exact⟨by simp,HL3.out⟩
theorem JQ(vs:List Value):∀(cs:Array Value) (o k:Nat),o+vs.length≤cs.size→(KL cs o vs)[k]? =if o≤k∧k<o+vs.length then vs[k-o]? else cs[k]? :=by
 induction vs with
 |nil=>intro cs o k _;simp[KL];intro h1 h2;omega
 |cons v r ih=>
  intro cs o k hl;simp only[LC]at hl;unfold KL;rw[ih _ _ _ (by simp;omega)];by_cases h:o+1≤k∧k<o+1+r.length
  ·rw[if_pos h,if_pos (by simp only[LC];omega),show k-o=(k-(o+1))+1 from by omega,List.getElem?_cons_succ]
  ·rw[if_neg h];by_cases he:k=o
   ·subst he;rw[if_pos (by simp only[LC];omega),Nat.sub_self];rw[Array.getElem?_setIfInBounds_self_of_lt (by omega)];rfl
   ·rw[if_neg (by simp only[LC];omega),Array.getElem?_setIfInBounds_ne (fun e=>he e.symm)]
section
variable {P:Program}
theorem AU(W:World)(g j:Nat)(ty t:TypeId)(old:Array Value)(v:Value)(hg:W.heap[g]? =some (.cells old t (0,0)))(hi:(P.info? ty).map (·.size)=some v.cells.size)
 (hj:j+v.cells.size≤old.size)(h1:v.cells.all (·.oneCell')=true):
 ∃W',(Instr.storeAt ty (.pointer (some ⟨g,j,none⟩)) v).run P W= .ok () W'∧W'.heap[g]? =some (.cells (KL old j v.cells.toList) t (0,0))∧Kp g W W':=by
 obtain⟨w',r1,r2,r3⟩:=B9 (P:=P) g j t v.cells.toList 0 W old hg (fun u hu=>by
  have:=Array.all_eq_true.1 h1;obtain⟨i,hi,e⟩:=List.getElem_of_mem hu;have:=this i (by simpa using hi);rw[←e];simpa using this) (by simpa using hj)
 refine⟨w',?_,by simpa using r2,r3⟩;cases hqq:P.info? ty with
 |none=>simp[hqq]at hi
 |some i=>
  have hs:i.size=v.cells.size:=by simpa[hqq]using hi
  simp[Instr.storeAt,Instr.sureAddr,storeVar,sizeOf,typeInfo,hqq,hs,r1]
end
theorem Dl{P:Program}{a:Act}{o:Oper}(w:World)(t:TypeId)(parts:List (Nat×Operand))(ho:o.op= .build t parts.toArray)(cells:Array Value)(h:P.built t (parts.map fun x=>(x.1,a.eval x.2))=some cells):
 (execOp a.eval o).run P w= .ok (.value (.agg cells)) w:=by
 have h':P.built t (parts.toArray.map fun(i,x)=>(i,a.eval x)).toList=some cells:=by simpa using h
 unfold execOp;simp only[ho,Sem.run_bind,run_build w t _ cells h',Result.andThen_ok,Sem.run_pure]
theorem GrowStep.run{P:Program}{Q:Exit→Act→World→Prop}{S:Nat→Value→World→Prop}{Z:Nat→World→Prop}{G:World→Prop}{i:Nat}{o:Oper}
 (h:∀(a:Act) (w:World),G w→(∀t,Operand.tmp t∈o.op.operands→S t (a.eval (.tmp t)) w)→
  ∃v w',(execOp a.eval o).run P w= .ok (.value v) w'∧G w'∧(∀t u,o.dst≠some t→S t u w→S t u w')∧(∀j,j≠i→Z j w→Z j w')∧SAt S Z i o.dst v w'):GrowStep P S Z G Q i o:=by
 intro a w hg hop;obtain⟨v,w',hr,h1,h2,h3,h4⟩:=h a w hg hop;unfold Oper.wp;rw[hr];exact⟨v,rfl,h1,h2,h3,h4⟩
def BS(W:World)(b:Nat)(T:TypeId)(n:Nat)(f:Nat→Option Value):Prop:=∃cs:Array Value,cs.size=n∧W.heap[b]? =some (.cells cs T (0,0))∧∀k v,f k=some v→cs[k]? =some v
theorem BS.of{W:World}{b:Nat}{T:TypeId}{cs:Array Value}(h:W.heap[b]? =some (.cells cs T (0,0)))(f:Nat→Option Value)(hf:∀k v,f k=some v→cs[k]? =some v):BS W b T cs.size f:=⟨cs,rfl,h,hf⟩
theorem BS.le{W W':World}{b:Nat}{T:TypeId}{n:Nat}{f:Nat→Option Value}(h:BS W b T n f)(k:Le W W'):BS W' b T n f:=by
 obtain⟨cs,h1,h2,h3⟩:=h;exact⟨cs,h1,k.heap h2,h3⟩
theorem BS.join{W:World}{b:Nat}{T:TypeId}{n:Nat}{f g:Nat→Option Value}(h:BS W b T n f)(k:BS W b T n g):BS W b T n (fun j=>(f j).or (g j)):=by
 obtain⟨cs,h1,h2,h3⟩:=h;obtain⟨cs',k1,k2,k3⟩:=k;rw[h2]at k2;injection k2 with k2;injection k2 with k2
 subst k2;refine⟨cs,h1,h2,fun j v hv=>?_⟩;have hv:(f j).or (g j)=some v:=hv;cases hf:f j with
 |some u=>rw[hf]at hv;exact h3 j v (by rw[hf];simpa using hv)
 |none=>rw[hf]at hv;exact k3 j v (by simpa using hv)
theorem BS.eq{W:World}{b:Nat}{T:TypeId}{n:Nat}{f:Nat→Option Value}(h:BS W b T n f)(row:Array Value)(hr:row.size=n)(hf:∀k,k<n→f k=row[k]?):W.heap[b]? =some (.cells row T (0,0)):=by
 obtain⟨cs,h1,h2,h3⟩:=h;rw[h2]
 congr 2
 refine Array.ext (by omega) fun k hk1 hk2=>?_;have:=h3 k row[k] (by rw[hf k (by omega)];simp);rw[Array.getElem?_eq_getElem hk1]at this;exact Option.some.inj this
def CU(o:Nat)(vs:List Value)(k:Nat):Option Value:=if o≤k∧k<o+vs.length then vs[k-o]? else none
theorem BS.store{W W':World}{b:Nat}{T:TypeId}{n j:Nat}{old:Array Value}{vs:List Value}(h:W.heap[b]? =some (.cells old T (0,0)))(hn:old.size=n)(h':W'.heap[b]? =some (.cells (KL old j vs) T (0,0)))
 (hj:j+vs.length≤n):BS W' b T n (CU j vs)∧∀g,BS W b T n g→(∀k,j≤k→k<j+vs.length→g k=none)→BS W' b T n g:=by
 refine⟨⟨_,(G8 _ _ _).trans hn,h',fun k v hv=>?_⟩,fun g hg ho=>?_⟩
 ·unfold CU at hv;split at hv
  ·rename_i hk;rw[JQ _ _ _ _ (by omega),if_pos hk];exact hv
  ·cases hv
 ·obtain⟨cs,k1,k2,k3⟩:=hg;rw[h]at k2;injection k2 with k2;injection k2 with k2
  subst k2;refine⟨_,(G8 _ _ _).trans hn,h',fun k v hv=>?_⟩;rw[JQ _ _ _ _ (by omega),if_neg (fun hk=>by rw[ho k hk.1 hk.2]at hv;cases hv)];exact k3 k v hv
theorem CM(A:Option Addr)(n c:Nat):(Value.slice A n c).cells.all (·.oneCell')=true:=by
 show(#[Value.slice A n c]:Array Value).all _=true;simp only[List.all_toArray,List.all_cons,List.all_nil,Bool.and_true];rfl
theorem IN(k:IntKind)(n:Int):(Value.int k n).cells.all (·.oneCell')=true:=by
 show(#[Value.int k n]:Array Value).all _=true;simp only[List.all_toArray,List.all_cons,List.all_nil,Bool.and_true];rfl
theorem G9{P:Program}(W:World)(g j:Nat)(ty:TypeId)(part:Array Value)(d:TypeDesc)(hp:∀k v,part[k]? =some v→W.cell? ⟨g,j+k,none⟩=some v)
 (hu:P.underlying ty=some d)(hd:(match d with| .struct _| .array _ _=>true|_=>false)=true)(hi:(P.info? ty).map (·.size)=some part.size):
 (Instr.loadAt ty (.pointer (some ⟨g,j,none⟩))).run P W= .ok (.agg part) W:=by
 have hl:(loadCells ⟨g,j,none⟩ part.toList.length).run P W= .ok part.toList.toArray W:=
  run_loadCells_list (P:=P) W ⟨g,j,none⟩ part.toList (fun k v hv=>by rw[B6];exact hp k v (by simpa using hv))
 cases hqq:P.info? ty with
 |none=>simp[hqq]at hi
 |some i=>
  have hs:i.size=part.size:=by simpa[hqq]using hi
  have hagg:(isAgg ty).run P W= .ok true W:=by
   unfold isAgg;rw[Sem.run_bind,run_underlying hu W];cases d<;>simp_all
  simp only[Array.length_toList,Array.toArray_toList]at hl;simp[Instr.loadAt,Instr.sureAddr,loadVar,Sem.run_bind,hagg,sizeOf,typeInfo,hqq,hs,hl]
theorem HV.all{x:HV}{f:Value→Bool}:x.row.all f=(f (.int .i64 x.t)&&(f x.name&&(f x.text&&(f x.disp&&(f x.uri.scheme&&(f x.uri.raw&&(f (.bool x.uri.wild)&&(f (.bool x.uri.slash)&&(f x.uri.user&&(f x.uri.pass&&(f x.uri.host&&(f (.int .i64 x.uri.port)&&(f x.uri.ps&&(f x.uri.hs&&(f x.ps&&(f (.int .u32 x.num)&&(f x.proto&&(f x.ver&&(f x.tr&&(f x.host&&f (.int .i64 x.port))))))))))))))))))))):=by
 unfold HV.row;simp only[List.all_toArray,List.all_cons,List.all_nil,Bool.and_true]
theorem HV.set_t(x:HV)(v:Int):x.row.setIfInBounds 0 (.int .i64 v)=HV.row {x with t:=v}:=rfl
theorem HV.set_name(x:HV)(v:Value):x.row.setIfInBounds 1 v=HV.row {x with name:=v}:=rfl
theorem HV.set_text(x:HV)(v:Value):x.row.setIfInBounds 2 v=HV.row {x with text:=v}:=rfl
theorem HV.set_disp(x:HV)(v:Value):x.row.setIfInBounds 3 v=HV.row {x with disp:=v}:=rfl
theorem HV.set_ps(x:HV)(v:Value):x.row.setIfInBounds 14 v=HV.row {x with ps:=v}:=rfl
theorem HV.set_num(x:HV)(v:Nat):x.row.setIfInBounds 15 (.int .u32 v)=HV.row {x with num:=v}:=rfl
theorem HV.put_uri(x:HV)(u:UV):KL x.row 4 u.row.toList=HV.row {x with uri:=u}:=by
 unfold UV.row HV.row;simp[KL]
def nmd(p:PH)(v:PU):PH:=
 if p.t<1∨14<p.t then {PH.zero with name:=p.name,text:=p.text}
 else if BP p.t then {PH.zero with t:=p.t,name:=nmT p.t,disp:=p.disp,uri:=v,ps:=p.ps}
 else if p.t=4∨p.t=10 then {PH.zero with t:=p.t,name:=nmT p.t,text:=p.text}
 else if p.t=5 then {PH.zero with t:=p.t,name:=nmT p.t,num:=p.num,text:=p.text}
 else if p.t=6∨p.t=7∨p.t=8 then {PH.zero with t:=p.t,name:=nmT p.t,num:=p.num}
 else if p.t=9 then {PH.zero with t:=p.t,name:=nmT p.t,ps:=p.ps,proto:=p.proto,ver:=p.ver,tr:=p.tr,host:=p.host,port:=p.port}
 else {PH.zero with t:=p.t,name:=nmT p.t,uri:=v}
theorem Qn(p:PH)(v:PU):(nmd p v).t=if p.t<1∨14<p.t then 0 else p.t:=by
 unfold nmd;by_cases h:p.t<1∨14<p.t
 ·rw[if_pos h,if_pos h];rfl
 ·rw[if_neg h,if_neg h]
  (repeat' split)<;>rfl
theorem LI{p:PH}{v:PU}(h:BP p.t∨Et p.t):(nmd p v).uri=v:=by
 unfold nmd;rcases h with h|h
 ·rw[if_neg (by rcases h with h|h|h|h<;>rw[h]<;>decide),if_pos h]
 ·rcases h with h|h|h<;>simp[h,BP]
theorem N9{p:PH}{v:PU}(h:BP p.t∨p.t=9):(nmd p v).ps=p.ps:=by
 unfold nmd;rcases h with h|h
 ·rw[if_neg (by rcases h with h|h|h|h<;>rw[h]<;>decide),if_pos h]
 ·simp[h,BP]
theorem JT{p:PH}{v:PU}(h:p.t=9):(nmd p v).host=p.host:=by
 unfold nmd;simp[h,BP]
theorem Qb{p q:PH}{v:PU}(h0:0≤p.t)(h1:p.t≤14)(hw:p.uri.wild=false)(hg:gv p.uri=some v)(hq:PHk q)(he:nmd q q.uri=nmd p v):Rgt p v:=by
 have ht:p.t≠0→q.t=p.t:=by
  intro hn;have h2:=congrArg PH.t he;rw[Qn,Qn,if_neg (show ¬(p.t<1∨14<p.t)by omega)]at h2;split at h2
  ·exact absurd h2.symm hn
  ·exact h2
 refine⟨h0,h1,hw,hg,fun h=>?_,fun h=>?_,fun h=>?_⟩
 ·have e:=ht (by rcases h with(h|h|h|h)|(h|h|h)<;>rw[h]<;>decide);have hk:=hq.kn (by rw[e];exact h);have h2:=congrArg PH.uri he;rw[LI h,LI (by rw[e];exact h)]at h2;rw[←h2];exact hk
 ·have e:=ht (by rcases h with(h|h|h|h)|h<;>rw[h]<;>decide);have h2:=congrArg PH.ps he;rw[N9 h,N9 (by rw[e];exact h)]at h2;rw[←h2];exact hq.ps
 ·have e:=ht (by rw[h];decide);have h2:=congrArg PH.host he;rw[JT h,JT (by rw[e];exact h)]at h2;rw[←h2];exact hq.host
theorem RI{u v:PU}(h:gv u=some v)(hn:u.raw≠[]):v={PU.zero with scheme:=v.scheme,raw:=v.raw}∧v.scheme.length≤u.scheme.length+u.raw.length+1∧v.raw.length≤u.scheme.length+u.raw.length+1∧v.scheme++58::v.raw=u.scheme++58::u.raw:=by
 obtain⟨h1,h2⟩:=RJ h hn;have e:=GX h1 h2;have hl:=congrArg List.length e;simp only[LA,LC]at hl;rcases JF h1 with k|k|k
 ·exfalso;unfold By at h1;split at h1
  ·cases h1
  ·split at h1
   ·injection h1 with h1;subst h1;exact h2 rfl
   ·dsimp only at h1;split at h1
    ·split at h1
     ·split at h1
      ·injection h1 with h1;subst h1;cases k
      ·cases h1
     ·split at h1
      ·cases h1
      ·split at h1
       ·cases h1
       ·cases hs:Ac (((u.scheme++58::u.raw)).take (BC (u.scheme++58::u.raw) 58)) ((u.scheme++58::u.raw).drop (BC (u.scheme++58::u.raw) 58+1))with
        |none=>rw[hs]at h1;cases h1
        |some w=>
         rw[hs]at h1;injection h1 with h1
         subst h1;unfold Ac at hs;split at hs
         ·cases hs
         ·split at hs
          ·cases hs
          ·split at hs
           ·cases hs
           ·split at hs
            ·cases hs
            ·injection hs with hs
             subst hs;exact h2 rfl
    ·cases h1
 ·exact⟨k.1,by omega,by omega,e⟩
 ·exact absurd k.raw h2
def RW(w0:World)(l:Tx)(w:World)(e:Ending)(w':World):Prop:=∃v m,e= .returned v∧w=w'∧Bv w0 v m∧m.length≤l.length
theorem Fa(v:Value)(l:Tx)(w0 w:World)(h0:Le w0 w)(hv:Bv w0 v l):Calls Tryz.prog 31 #[v] w (RW w0 l w):=by
 have HV:=Hi hv;have H0:=Hi h0;clear hv h0;go_enter Tryz.func31,Tryz.ntmps31;go_wp2
 go_loopg [0] (l.length) (fun n sv wr=>∃m:Tx,n=m.length∧w=wr∧Bv w0 sv m∧m.length≤l.length)
 case atStart=>exact⟨l,rfl,rfl,HV.out,NL _⟩
 case round=>
  obtain⟨m,hn,rfl,hb,hml⟩:=hrel;have HB:=Hi hb;obtain⟨A,c,rfl,h1,h2,h4⟩:=hb;have h3:=h4.1;have HR:=Hi (h4.le H0.out);clear h4;go_upto_region 1 with fail
  go_cut [17]from 3 to 19 (fun s17 wx=>∃q:Bool,s17= .bool q∧w=wx∧(q=true→0<m.length))
  case first=>
   by_cases h0:m=[]
   ·have hz:decide ((0:Int)<(m.length:Int))=false:=decide_eq_false (by rw[h0];simp);have hz2:m.length=0:=by rw[h0];rfl
    clear h0;go_wp2;go_meet;case rel=>exact⟨false,rfl,rfl,by simp⟩
   ·have hpos:0<m.length:=List.length_pos_iff.2 h0;have hz:decide ((0:Int)<(m.length:Int))=true:=decide_eq_true (by omega);obtain⟨b,o,rfl,d1⟩:=HR.out.at_ hpos;rw[Nat.add_zero]at d1;generalize(m[0].toNat:Int)=x at d1;obtain⟨q1,hq1⟩:∃q,((x:Int)==32)=q:=⟨_,rfl⟩;obtain⟨q2,hq2⟩:∃q,((x:Int)==9)=q:=⟨_,rfl⟩;clear h0;cases q1
    ·go_wp2;go_meet;case rel=>exact⟨q2,rfl,rfl,fun _=>hpos⟩
    ·go_wp2;go_meet;case rel=>exact⟨true,rfl,rfl,fun _=>hpos⟩
  case rest=>
  obtain⟨q,rfl,rfl,hq⟩:=hcut;cases q;case true=>
   have hpos:=hq rfl;obtain⟨v2,hb2,q1,q2⟩:=Bb HB.out (k:=1) (z:=1) (by omega) rfl;have HN:=Hi hb2;clear hq hb2;go_wp2;go_roundg (m.length-1)
   case measure=>omega
   case rel=>exact⟨m.drop 1,by simp,rfl,HN.out,by rw[List.length_drop];omega⟩
  case false=>
   clear hq hn HR;go_wp2
   go_loopg [0] (m.length) (fun n sv wr=>∃m':Tx,n=m'.length∧w=wr∧Bv w0 sv m'∧m'.length≤l.length)
   case atStart=>exact⟨m,rfl,rfl,HB.out,hml⟩
   case round=>
    clear HB;obtain⟨m',hn,rfl,hb,hml'⟩:=hrel;have HB:=Hi hb;obtain⟨A',c',rfl,h1',h2',h4'⟩:=hb;have h3':=h4'.1;have HR:=Hi (h4'.le H0.out);clear h4';go_upto_region 3 with fail
    go_cut [40]from 20 to 45 (fun s40 wx=>∃q:Bool,s40= .bool q∧w=wx∧(q=true→0<m'.length))
    case first=>
     by_cases h0:m'=[]
     ·have hz:decide ((0:Int)<(m'.length:Int))=false:=decide_eq_false (by rw[h0];simp);have hz2:m'.length=0:=by rw[h0];rfl
      clear h0;go_wp2;go_meet;case rel=>exact⟨false,rfl,rfl,by simp⟩
     ·have hpos:0<m'.length:=List.length_pos_iff.2 h0;have hz:decide ((0:Int)<(m'.length:Int))=true:=decide_eq_true (by omega);obtain⟨b,o,rfl,d1⟩:=HR.out.at_ (k:=m'.length-1) (by omega);generalize(m'[m'.length-1].toNat:Int)=x at d1;have hidx:((m'.length:Int)-1)=((m'.length-1:Nat):Int):=by omega
      obtain⟨q1,hq1⟩:∃q,((x:Int)==32)=q:=⟨_,rfl⟩;obtain⟨q2,hq2⟩:∃q,((x:Int)==9)=q:=⟨_,rfl⟩;clear h0;cases q1
      ·go_wp2;go_meet;case rel=>exact⟨q2,rfl,rfl,fun _=>hpos⟩
      ·go_wp2;go_meet;case rel=>exact⟨true,rfl,rfl,fun _=>hpos⟩
    case rest=>
    obtain⟨q,rfl,rfl,hq⟩:=hcut;cases q;case true=>
     have hpos:=hq rfl;have HN:Hid (Bv w0 (.slice A' (m'.length-1) c') (m'.take (m'.length-1))):=Hi (CD HB.out (k:=m'.length-1) (by omega) (m:=c') (by omega) (NL _));have hidx:((m'.length:Int)-1)=((m'.length-1:Nat):Int):=by omega
     clear hq;go_wp2;go_roundg (m'.length-1)
     case measure=>omega
     case rel=>exact⟨m'.take (m'.length-1),by simp,rfl,HN.out,by rw[List.length_take];omega⟩
    case false=>
     clear hq hn;go_wp2;go_ret;exact⟨_,m',rfl,rfl,HB.out,hml'⟩
def Rj(w:World)(e:Ending)(w':World):Prop:=∃b,e= .returned (.bool b)∧w=w'
theorem K0(v:Value)(l:Tx)(w:World)(hv:Bv w v l):Calls Tryz.prog 33 #[v] w (Rj w):=by
 obtain⟨A,c,rfl,h1,h2,h4⟩:=hv;have h3:=h4.1;have HR:=Hi h4;clear h4;go_enter Tryz.func33,Tryz.ntmps33;go_wp2
 go_loopg [3] (l.length) (fun n iv wr=>∃k:Nat,n+k=l.length∧iv= .int .i64 k∧w=wr)
 case atStart=>exact⟨0,by omega,rfl,rfl⟩
 case round=>
  obtain⟨k,hn,rfl,rfl⟩:=hrel;have HN:gk+k≤l.length∧l.length≤gk+k:=by omega
  clear hn;by_cases hlt:k<l.length
  ·obtain⟨b,o,rfl,d1⟩:=HR.out.at_ hlt;generalize(l[k].toNat:Int)=x at d1;by_cases c1:x<32
   ·go_wp2;go_ret;exact⟨false,rfl,rfl⟩
   ·by_cases c2:126<x
    ·go_wp2;go_ret;exact⟨false,rfl,rfl⟩
    ·go_wp2;go_roundg (gk-1)
     case measure=>omega
     case rel=>exact⟨k+1,by omega,by go_num,rfl⟩
  ·go_wp2;go_ret;exact⟨true,rfl,rfl⟩
def lwI(n:Int):Int:=if 65≤n∧n≤90 then n+32 else n
theorem JH(n:Int)(h0:0≤n)(h1:n≤255)(w:World):Calls Tryz.prog 81 #[.int .u8 n] w fun e w'=>e= .returned (.int .u8 (lwI n))∧w'=w:=by
 by_cases a:(65:Int)≤n
 ·by_cases b:n≤90
  ·have e:lwI n=n+97-65:=by unfold lwI;rw[if_pos ⟨a,b⟩];omega
   rw[e];go_enter Tryz.func81,Tryz.ntmps81;go_wp2;go_ret;exact⟨rfl,rfl⟩
  ·have e:lwI n=n:=by unfold lwI;rw[if_neg (fun h=>b h.2)]
   rw[e];go_enter Tryz.func81,Tryz.ntmps81;go_wp2;go_ret;exact⟨rfl,rfl⟩
 ·have e:lwI n=n:=by unfold lwI;rw[if_neg (fun h=>a h.1)]
  rw[e];go_enter Tryz.func81,Tryz.ntmps81;go_wp2;go_ret;exact⟨rfl,rfl⟩
theorem EG(t:Int)(h1:1≤t)(h2:t≤14)(w:World):Calls Tryz.prog 28 #[.int .i64 t] w fun e w'=>e= .returned (.string (st (nmT t)))∧w'=w:=by
 have h:t=1∨t=2∨t=3∨t=4∨t=5∨t=6∨t=7∨t=8∨t=9∨t=10∨t=11∨t=12∨t=13∨t=14:=by omega
 rcases h with rfl|rfl|rfl|rfl|rfl|rfl|rfl|rfl|rfl|rfl|rfl|rfl|rfl|rfl<;>
 ·go_enter Tryz.func28,Tryz.ntmps28;go_wp2;go_ret;exact⟨rfl,rfl⟩
def QG(w:World)(e:Ending)(w':World):Prop:=∃(n:Nat) (kd:Int),e= .returned (.tuple #[.int .u32 n,.int .i64 kd])∧w=w'∧n<4294967296∧(kd=0∨kd= -1∨kd= -2)
theorem JJ(v:Value)(l:Tx)(w:World)(hv:Bv w v l):Calls Tryz.prog 63 #[v] w (QG w):=by
 obtain⟨A,c,rfl,h1,h2,h4⟩:=hv;have h3:=h4.1;have HR:=Hi h4;clear h4;by_cases h0:l.length=0
 ·have hb:((l.length:Int)==0)=true:=by simp[h0]
  go_enter Tryz.func63,Tryz.ntmps63;go_wp2
  go_ret2
  exact⟨0,-2,rfl,rfl,by omega,.inr (.inr rfl)⟩
 have hb:((l.length:Int)==0)=false:=by rw[beq_eq_false_iff_ne];omega
 go_enter Tryz.func63,Tryz.ntmps63;go_wp2
 go_loopg [4,5] (l.length) (fun m nv iv wr=>∃(k n:Nat),m+k=l.length∧iv= .int .i64 k∧nv= .int .u64 n∧n<4294967296∧w=wr)
 case atStart=>exact⟨0,0,by omega,rfl,rfl,by decide,rfl⟩
 case round=>
  obtain⟨k,n,hm,rfl,rfl,hn,rfl⟩:=hrel;have HM:gk+k≤l.length∧l.length≤gk+k:=by omega
  clear hm;by_cases hlt:k<l.length
  ·obtain⟨b,o,rfl,d1⟩:=HR.out.at_ hlt;have x1:l[k].toNat<256:=l[k].toNat_lt;generalize hx1:l[k].toNat=x at d1 x1;by_cases c1:(x:Int)<48
   ·go_wp2
    go_ret2
    exact⟨0,-2,rfl,rfl,by omega,.inr (.inr rfl)⟩
   by_cases c2:(57:Int)<x
   ·go_wp2
    go_ret2
    exact⟨0,-2,rfl,rfl,by omega,.inr (.inr rfl)⟩
   by_cases c3:(4294967296:Int)≤(n:Int)*10+((x:Int)-48)
   ·go_wp2
    go_ret2
    exact⟨0,-1,rfl,rfl,by omega,.inr (.inl rfl)⟩
   ·go_wp2;go_roundg (gk-1)
    case measure=>omega
    case rel=>exact⟨k+1,n*10+(x-48),by omega,by go_num,by congr 1;omega,by omega,rfl⟩
  ·go_wp2
   go_ret2
   exact⟨n,0,rfl,rfl,hn,.inl rfl⟩
end Go.Proofs.YtejhpdcjafbklaaGreatDoor
