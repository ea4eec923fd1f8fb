/- The law FnHeadWritten: SpW9 SAd SAe. -/
import Derived.Test.YtejhpdcjafbklaaGreatDoorSpW8
import Derived.Test.YtejhpdcjafbklaaGreatDoorHwS
set_option linter.all false
set_option maxHeartbeats 20000000
set_option maxRecDepth 8000
namespace Go.Proofs.YtejhpdcjafbklaaGreatDoor
open Go.RowKit
theorem KrS.own{w0 w:World}{base:Nat}{v:Value}{l:KVs}(h:KrS w0 w base v l):∀g,v.ownBlock=some g→base≤g:=fun g e=>by obtain⟨xs,h1,_⟩:=h;exact(h1.lt _ e).1
structure Ux(base:Nat)(w:World)(x:UV)(u:PU):Prop extends Uq (fun _=>True) w x u where
 op:∀g,x.ps.ownBlock=some g→base≤g
 oh:∀g,x.hs.ownBlock=some g→base≤g
def RZ(l:Tx)(w:World)(e:Ending)(w':World):Prop:=
 ∃(x:UV) (kd:Int),e= .returned (.tuple #[x.val,.int .i64 kd])∧Le w w'∧x.row.all (·.oneCell')=true∧match By l with| .told=>kd= -1| .open_=>kd= -2| .val u=>kd=0∧Ux w.heap.size w' x u
theorem Aw{W:World}{b:Nat}{row:Array Value}{a:Act}{kd:Int}(h:W.heap[b]? =some (.cells row 35 (0,0)))
 (h2:a.tmps.getD 2 undef= .pointer (some ⟨b,0,none⟩))(h3:a.tmps.getD 3 undef= .int .i64 kd)(hs:row.size=10:=by rfl):
 (results Tryz.f30 a.tmps).run Tryz.prog W= .ok (.tuple #[.agg row,.int .i64 kd]) W:=by
 rw[results_cell_tmp rfl,h2,h3];simp only[asAddr,Sem.run_pure,Result.andThen_ok,run_loadVar_row W _ _ _ _ _ _ h Tryz.underlying35 rfl (by rw[hs];exact AI)]
def PB(w W:World):Prop:=Le w W∧W.heap[w.heap.size]? =some (.cells Ai 35 (0,0))
theorem PB.to{w W W':World}(h:PB w W)(k:Le W W'):PB w W':=⟨Le.trans h.1 k,k.heap h.2⟩
theorem ED{l:Tx}(h0:l≠[])(h1:l≠[42])(h:(0<BC l 58&&decide (BC l 58<l.length)&&(l.take (BC l 58)).all FG)=false):By l= .open_:=by
 unfold By;rw[if_neg h0,if_neg h1];simp only[h];rfl
theorem Ox{l:Tx}{k:Nat}(h0:l≠[])(h1:l≠[42])(hk:BC l 58=k)(h2:0<k)(h3:k<l.length)(h4:(l.take k).all FG=true):By l=
 (if(l.take k).map Bf≠Fb∧(l.take k).map Bf≠DT then(if !(l.drop (k+1)).isEmpty&&prB (l.drop (k+1))&& !((l.drop (k+1)).head? ==some 47)&&decide ((l.take k).map Bf=l.take k)then .val {PU.zero with scheme:=l.take k,raw:=l.drop (k+1)} else .open_)
  else if(l.take k).map Bf≠l.take k then .open_ else if [47,47].isPrefixOf (l.drop (k+1))then .open_ else SR.of (Ac (l.take k) (l.drop (k+1)))):=by
 unfold By;rw[if_neg h0,if_neg h1];simp only[hk,h2,h3,h4,decide_true,Bool.and_true,if_true]
theorem pre2{l:Tx}(h:1<l.length):[47,47].isPrefixOf l=(decide (l[0]=UInt8.ofNat 47)&&decide (l[1]=UInt8.ofNat 47)):=by
 match l,h with
 |a::b::r,_=>
  show(47==a&&(47==b&&true))=(decide (a=47)&&decide (b=47));rw[Bool.and_true]
  congr 1
  ·by_cases e:a=47
   ·subst e;rfl
   ·rw[decide_eq_false e];simpa using fun h=>e h.symm
  ·by_cases e:b=47
   ·subst e;rfl
   ·rw[decide_eq_false e];simpa using fun h=>e h.symm
theorem GH{l:Tx}(h:¬1<l.length):[47,47].isPrefixOf l=false:=by
 match l,h with
 |[],_=>rfl
 |[a],_=>show(47==a&&false)=false;rw[Bool.and_false]
 |_::_::_,h=>simp at h
theorem JC(a:Option Addr)(m c:Nat):(#[(.slice none 0 0),(.slice none 0 0),.bool true,.bool false,(.slice none 0 0),(.slice none 0 0),.slice a m c,.int .i64 0,(.slice none 0 0),(.slice none 0 0)]:Array Value).all (·.oneCell')=true:=by
 simp only[List.all_toArray,List.all_cons,List.all_nil];rfl
theorem K7(a b:Option Addr)(m c m' c':Nat):(#[.slice a m c,.slice b m' c',.bool false,.bool false,(.slice none 0 0),(.slice none 0 0),(.slice none 0 0),.int .i64 0,(.slice none 0 0),(.slice none 0 0)]:Array Value).all (·.oneCell')=true:=by
 simp only[List.all_toArray,List.all_cons,List.all_nil];rfl
theorem Bv.at'{w:World}{A:Option Addr}{n c:Nat}{l:Tx}(h:Bv w (.slice A n c) l){k:Nat}(hk:k<l.length):∃b o,A=some ⟨b,o,none⟩∧w.cell? ⟨b,o+k,none⟩=some (.int .u8 (l[k].toNat:Int)):=by
 obtain⟨A',c',e,_,_,h4⟩:=h;injection e with e1 _ _
 subst e1;exact h4.at_ hk
theorem Di(u v:Value)(a b:Tx)(w:World)(r:Bool)(hr:decide (a=b)=r)(hu:Bv w u a)(hv:Bv w v b):Calls Tryz.prog 37 #[u,v] w fun e w'=>e= .returned (.bool r)∧w=w':=by
 subst hr;exact FL u v a b w hu hv
theorem IK(v:Value)(l:Tx)(w:World)(hv:Bv w v l)(hl:l.length≤1099511627000):
 Calls Tryz.prog 30 #[v] w (RZ l w):=by
 have HV:=Hi hv;obtain⟨A0,c0,rfl,hl0⟩:=As hv;have hlc:l.length≤c0:=by obtain⟨_,_,e,h,_⟩:=hv;injection e with _ _ e;omega
 clear hv;have kc:=fun(w:World) (C:Array Value) (n c:Nat)=>Lib.run_convert_bytes_const (P:=Tryz.prog) w 22 5 C n c Tryz.underlying22 Tryz.underlying5;go_enter Tryz.func30,Tryz.ntmps30;go_upto_if 11 with fail
 have HPB:Hid (PB w (w.alloc (Obj.cells Ai 35))):=Hi ⟨(AC w).alloc _,heap_alloc_new w _⟩;have hzr:Ai= #[(.slice none 0 0),(.slice none 0 0),.bool false,.bool false,(.slice none 0 0),(.slice none 0 0),(.slice none 0 0),.int .i64 0,(.slice none 0 0),(.slice none 0 0)]:=rfl;rw[hzr]at HPB
 generalize w.alloc (Obj.cells #[(.slice none 0 0),(.slice none 0 0),.bool false,.bool false,(.slice none 0 0),(.slice none 0 0),(.slice none 0 0),.int .i64 0,(.slice none 0 0),(.slice none 0 0)] 35)=W0 at HPB⊢;clear hzr;by_cases h0:l=[]
 ·have H0:=Hi h0;have hl00:((l.length:Int)==0)=true:=by rw[h0];rfl
  clear h0;go_upto_if 11 with fail
  go_wp2_with (refine AH rfl 35 rfl (some 12) rfl Ai Af ?_;refine AD rfl 35 (.tmp 2) (.tmp 12) rfl w.heap.size Ai rfl rfl 35 Ai HPB.out.2 AI rfl AP ?_)
  intro WZ hz hkz;have HF:Hid (By l= .told):=Hi (by unfold By;rw[if_pos H0.out]);have HLZ:Hid (Le w WZ):=Hi (Below.trans HPB.out.1 (hkz.below (NL _) HPB.out.1.size));have HZ:=Hi hz;clear hz hkz;go_wp2;refine bodyPost_ret (v:= .tuple #[UV.nil.val,.int .i64 (-1)]) ?_ rfl ⟨UV.nil,(-1),rfl,HLZ.out,AP,by rw[HF.out]⟩;exact Aw HZ.out rfl rfl
 have H0:=Hi h0;have hpos:0<l.length:=List.length_pos_iff.2 h0;have hl00:((l.length:Int)==0)=false:=by simp;omega
 clear h0;have hb42:Bv (W0.alloc (Obj.cells #[.int .u8 42] 5 (1,2))) (.slice (some ⟨W0.heap.size,0,none⟩) 1 1) [42]:=CO W0 [42] (by decide) (1,2);have HPB1:Hid (PB w (W0.alloc (Obj.cells #[.int .u8 42] 5 (1,2)))):=Hi (HPB.out.to ((AC W0).alloc _));obtain⟨r42,hr42⟩:∃r,decide (l=[42])=r:=⟨_,rfl⟩;have H42:=Hi hr42
 have is42:=Di _ _ l [42] _ r42 hr42 (HV.out.le HPB1.out.1) hb42;clear hr42 hb42;go_wp2_with fail
 refine is42.mono ?_;rintro e w' ⟨rfl,rfl⟩;clear is42 HPB;generalize W0.alloc (Obj.cells #[.int .u8 42] 5 (1,2))=W1 at HPB1⊢;have HPB:=HPB1;clear HPB1;cases r42;case true=>
  have hb42:Bv (W1.alloc (Obj.cells #[.int .u8 42] 5 (1,2))) (.slice (some ⟨W1.heap.size,0,none⟩) 1 1) [42]:=CO W1 [42] (by decide) (1,2);have HB42:=Hi hb42;have HPB2:Hid (PB w (W1.alloc (Obj.cells #[.int .u8 42] 5 (1,2)))):=Hi (HPB.out.to ((AC W1).alloc _))
  have HF:Hid (By l= .val {PU.zero with host:=[42],wild:=true}):=Hi (by unfold By;rw[if_neg H0.out,if_pos (of_decide_eq_true H42.out)]);clear hb42
  go_wp2_with (refine AD rfl 35 (.tmp 2) (.tmp 19) rfl w.heap.size #[(.slice none 0 0),(.slice none 0 0),.bool true,.bool false,(.slice none 0 0),(.slice none 0 0),.slice (some ⟨W1.heap.size,0,none⟩) 1 1,.int .i64 0,(.slice none 0 0),(.slice none 0 0)] rfl rfl 35 Ai HPB2.out.2 AI rfl (JC _ _ _) ?_)
  intro WZ hz hkz;have hne:w.heap.size<W1.heap.size:=AQ HPB.out.2;have HLZ:Hid (Le w WZ):=Hi (Below.trans HPB2.out.1 (hkz.below (NL _) HPB2.out.1.size))
  have HBZ:Hid (Bv WZ (.slice (some ⟨W1.heap.size,0,none⟩) 1 1) [42]):=Hi ((Bq.keep (φ:=(·=W1.heap.size)) ⟨HB42.out,fun g hg=>by injection hg with hg;exact hg.symm⟩ (fun g hg hlt=>hkz.block g hlt (by intro e;injection e with e;omega))).1);have HZ:=Hi hz;clear hz hkz;go_wp2
  refine bodyPost_ret (v:= .tuple #[.agg #[(.slice none 0 0),(.slice none 0 0),.bool true,.bool false,(.slice none 0 0),(.slice none 0 0),.slice (some ⟨W1.heap.size,0,none⟩) 1 1,.int .i64 0,(.slice none 0 0),(.slice none 0 0)],.int .i64 0]) ?_ rfl ⟨⟨(.slice none 0 0),(.slice none 0 0),true,false,(.slice none 0 0),(.slice none 0 0),.slice (some ⟨W1.heap.size,0,none⟩) 1 1,0,(.slice none 0 0),(.slice none 0 0)⟩,0,rfl,HLZ.out,JC _ _ _,?_⟩
  ·exact Aw HZ.out rfl rfl
  ·rw[HF.out];exact⟨rfl,⟨Bq.nil _ _,Bq.nil _ _,rfl,rfl,Bq.nil _ _,Bq.nil _ _,bqT HBZ.out,rfl,Kq.nil _ _,Kq.nil _ _⟩,(fun g e=>by cases e),(fun g e=>by cases e)⟩
 have H1:Hid (l≠[42]):=Hi (of_decide_eq_false H42.out);clear H42;have ci:=Br _ l 58 W1 (HV.out.le HPB.out.1);have CI:=Hi ci;clear ci;go_wp2_with fail
 refine CI.out.mono ?_;rintro e w' ⟨rfl,rfl⟩;clear CI;rcases Bo l 58 with⟨k,e1,hk,e2⟩|⟨e1,e2⟩;case inr=>
  rw[e1];have HX:Hid ((0<BC l 58&&decide (BC l 58<l.length)&&(l.take (BC l 58)).all FG)=false):=Hi (by simp[e2]);clear e1 e2;go_upto_if 30 with fail
  go_wp2_with (refine AH rfl 35 rfl (some 31) rfl Ai Af ?_;refine AD rfl 35 (.tmp 2) (.tmp 31) rfl w.heap.size Ai rfl rfl 35 Ai HPB.out.2 AI rfl AP ?_)
  intro WZ hz hkz;have HF:Hid (By l= .open_):=Hi (ED H0.out H1.out HX.out);have HLZ:Hid (Le w WZ):=Hi (Below.trans HPB.out.1 (hkz.below (NL _) HPB.out.1.size));have HZ:=Hi hz;clear hz hkz;go_wp2;refine bodyPost_ret (v:= .tuple #[UV.nil.val,.int .i64 (-2)]) ?_ rfl ⟨UV.nil,(-2),rfl,HLZ.out,AP,by rw[HF.out]⟩;exact Aw HZ.out rfl rfl
 rw[e1];have HK:=Hi e2;by_cases hk0:k=0
 ·subst hk0;have HX:Hid ((0<BC l 58&&decide (BC l 58<l.length)&&(l.take (BC l 58)).all FG)=false):=Hi (by simp[e2]);clear e1 e2;go_upto_if 30 with fail
  go_wp2_with (refine AH rfl 35 rfl (some 31) rfl Ai Af ?_;refine AD rfl 35 (.tmp 2) (.tmp 31) rfl w.heap.size Ai rfl rfl 35 Ai HPB.out.2 AI rfl AP ?_)
  intro WZ hz hkz;have HF:Hid (By l= .open_):=Hi (ED H0.out H1.out HX.out);have HLZ:Hid (Le w WZ):=Hi (Below.trans HPB.out.1 (hkz.below (NL _) HPB.out.1.size));have HZ:=Hi hz;clear hz hkz;go_wp2;refine bodyPost_ret (v:= .tuple #[UV.nil.val,.int .i64 (-2)]) ?_ rfl ⟨UV.nil,(-2),rfl,HLZ.out,AP,by rw[HF.out]⟩;exact Aw HZ.out rfl rfl
 clear e1 e2;have hk1:1≤k:=by omega
 clear hk0;obtain⟨b0,o0,rfl,d0⟩:=HV.out.at' hpos;have a0:=DP l[0];rw[Nat.add_zero]at d0;have d0:=HPB.out.1.cell d0;obtain⟨r0,hr0⟩:∃r,FG l[0]=r:=⟨_,rfl⟩;rw[hr0]at a0;have HR0:=Hi hr0;clear hr0;generalize(l[0].toNat:Int)=x0 at d0 a0;cases r0
 ·have HX:Hid ((0<BC l 58&&decide (BC l 58<l.length)&&(l.take (BC l 58)).all FG)=false):=Hi (by
   have hm:l[0]∈l.take (BC l 58):=by rw[List.mem_take_iff_getElem];exact⟨0,by rw[HK.out];omega,rfl⟩
   have:(l.take (BC l 58)).all FG=false:=List.all_eq_false.2 ⟨_,hm,by rw[HR0.out];decide⟩;rw[this,Bool.and_false])
  go_wp2_with fail
  refine(DB _ _).mono ?_;rintro e w' ⟨rfl,rfl⟩;rw[a0];go_upto_if 30 with fail
  go_wp2_with (refine AH rfl 35 rfl (some 31) rfl Ai Af ?_;refine AD rfl 35 (.tmp 2) (.tmp 31) rfl w.heap.size Ai rfl rfl 35 Ai HPB.out.2 AI rfl AP ?_)
  intro WZ hz hkz;have HF:Hid (By l= .open_):=Hi (ED H0.out H1.out HX.out);have HLZ:Hid (Le w WZ):=Hi (Below.trans HPB.out.1 (hkz.below (NL _) HPB.out.1.size));have HZ:=Hi hz;clear hz hkz;go_wp2;refine bodyPost_ret (v:= .tuple #[UV.nil.val,.int .i64 (-2)]) ?_ rfl ⟨UV.nil,(-2),rfl,HLZ.out,AP,by rw[HF.out]⟩;exact Aw HZ.out rfl rfl
 go_wp2_with fail
 refine(DB _ _).mono ?_;rintro e w' ⟨rfl,rfl⟩;rw[a0];clear d0 a0;go_wp2
 go_loop [5] (fun i=>∃j:Nat,j≤k∧i= .int .i64 j∧(l.take j).all FG=true) (fun i=>k-(intOf i).toNat)
 case atStart=>exact⟨0,by omega,rfl,rfl⟩
 case round=>
  obtain⟨j,hj,rfl,hq⟩:=hrel;have HQ:=Hi hq;clear hq;by_cases hlt:j<k
  ·obtain⟨b0',o0',e',d1⟩:=HV.out.at' (k:=j) (by omega);obtain⟨rfl,rfl⟩:b0=b0'∧o0=o0':=by injection e' with e';injection e' with e1 e2;exact⟨e1,e2⟩
   clear e';have d1:=HPB.out.1.cell d1;have hjl:j<l.length:=by omega
   have a1:=DP l[j];obtain⟨r1,hr1⟩:∃r,FG l[j]=r:=⟨_,rfl⟩;rw[hr1]at a1;have HR1:=Hi hr1;clear hr1;generalize(l[j].toNat:Int)=x1 at d1 a1;cases r1
   ·have HX:Hid ((0<BC l 58&&decide (BC l 58<l.length)&&(l.take (BC l 58)).all FG)=false):=Hi (by
     have hm:l[j]∈l.take (BC l 58):=by rw[List.mem_take_iff_getElem];exact⟨j,by rw[HK.out];omega,rfl⟩
     have:(l.take (BC l 58)).all FG=false:=List.all_eq_false.2 ⟨_,hm,by rw[HR1.out];decide⟩;rw[this,Bool.and_false])
    go_wp2_with fail
    refine(DB _ _).mono ?_;rintro e w' ⟨rfl,rfl⟩;rw[a1];go_upto_if 42 with fail
    go_wp2_with (refine AH rfl 35 rfl (some 43) rfl Ai Af ?_;refine AD rfl 35 (.tmp 2) (.tmp 43) rfl w.heap.size Ai rfl rfl 35 Ai HPB.out.2 AI rfl AP ?_)
    intro WZ hz hkz;have HF:Hid (By l= .open_):=Hi (ED H0.out H1.out HX.out);have HLZ:Hid (Le w WZ):=Hi (Below.trans HPB.out.1 (hkz.below (NL _) HPB.out.1.size));have HZ:=Hi hz;clear hz hkz;go_wp2;refine bodyPost_ret (v:= .tuple #[UV.nil.val,.int .i64 (-2)]) ?_ rfl ⟨UV.nil,(-2),rfl,HLZ.out,AP,by rw[HF.out]⟩;exact Aw HZ.out rfl rfl
   ·have HX:Hid ((l.take (j+1)).all FG=true):=Hi (by rw[List.take_succ_eq_append_getElem hjl,List.all_append,HQ.out];simpa using HR1.out);go_wp2_with fail
    refine(DB _ _).mono ?_;rintro e w' ⟨rfl,rfl⟩;rw[a1];go_wp2
    go_round
    case rel=>exact⟨j+1,by omega,by go_num,HX.out⟩
    case measure=>simp[intOf];omega
  ·obtain rfl:j=k:=by omega
   clear hlt hj;have HSI:=Hi (Ox H0.out H1.out HK.out hk1 hk HQ.out);obtain⟨v2,hb2,q1,q2⟩:=Bb (k:=j+1) (z:=(j:Int)+1) HV.out hk (by omega);obtain⟨A2,c2,hv2,hml⟩:=As hb2;have hmm:(l.drop (j+1)).length≤1099511627000:=by rw[List.length_drop];omega
   generalize hm2:(l.drop (j+1)).length=m2 at hv2 hml hmm;subst hv2;have HM2:=Hi hm2;have HBR:=Hi hb2;have HBS:=Hi (CD (k:=j) HV.out (by omega) (NL j) (by omega));clear hb2 hm2;go_wp2_with fail
   have HPB2:Hid (PB w (W1.alloc (Obj.cells (FD (.slice (some ⟨b0,o0,none⟩) j j) (.slice none 0 0) (.slice none 0 0) (.slice none 0 0) 0 (.slice none 0 0) (.slice none 0 0)) 35))):=Hi (HPB.out.to ((AC W1).alloc _))
   have HBU:Hid ((W1.alloc (Obj.cells (FD (.slice (some ⟨b0,o0,none⟩) j j) (.slice none 0 0) (.slice none 0 0) (.slice none 0 0) 0 (.slice none 0 0) (.slice none 0 0)) 35)).heap[W1.heap.size]? =some (.cells (FD (.slice (some ⟨b0,o0,none⟩) j j) (.slice none 0 0) (.slice none 0 0) (.slice none 0 0) 0 (.slice none 0 0) (.slice none 0 0)) 35 (0,0))):=Hi (heap_alloc_new W1 _)
   have HLT:Hid (w.heap.size<W1.heap.size):=Hi (AQ HPB.out.2);have hru:FD (.slice (some ⟨b0,o0,none⟩) j j) (.slice none 0 0) (.slice none 0 0) (.slice none 0 0) 0 (.slice none 0 0) (.slice none 0 0)= #[(.slice (some ⟨b0,o0,none⟩) j j),(.slice none 0 0),.bool false,.bool false,(.slice none 0 0),(.slice none 0 0),(.slice none 0 0),.int .i64 0,(.slice none 0 0),(.slice none 0 0)]:=rfl
   rw[hru]at HPB2 HBU;generalize W1.alloc (Obj.cells #[(.slice (some ⟨b0,o0,none⟩) j j),(.slice none 0 0),.bool false,.bool false,(.slice none 0 0),(.slice none 0 0),(.slice none 0 0),.int .i64 0,(.slice none 0 0),(.slice none 0 0)] 35)=W2 at HPB2 HBU⊢;rw[←hru]at HBU;clear hru HPB;refine(Fi _ (l.take j) W2 (HBS.out.le HPB2.out.1)).mono ?_;rintro e w3 ⟨lv,rfl,hown,hle3⟩
   have hlv:=hown.bv (by rw[List.length_map,List.length_take];omega);have HLV3:=Hi hlv;have HPB3:=Hi (HPB2.out.to hle3);have HBU3:=Hi (hle3.heap HBU.out);clear hown hlv hle3 HPB2 HBU;have hbs:Bv (w3.alloc (Obj.cells #[.int .u8 115,.int .u8 105,.int .u8 112] 5 (3,4))) (.slice (some ⟨w3.heap.size,0,none⟩) 3 3) Fb:=CO w3 Fb (by decide) (3,4)
   have hal3:Le w3 (w3.alloc (Obj.cells #[.int .u8 115,.int .u8 105,.int .u8 112] 5 (3,4))):=(AC w3).alloc _;have HPB4:=Hi (HPB3.out.to hal3);have HBU4:=Hi (hal3.heap HBU3.out);have HLV4:=Hi (HLV3.out.le hal3);obtain⟨r1,hr1⟩:∃r,decide ((l.take j).map Bf=Fb)=r:=⟨_,rfl⟩;have HR1:=Hi hr1;have is1:=Di _ _ _ Fb _ r1 hr1 HLV4.out hbs;clear hr1 hbs hal3
   go_wp2_with fail
   refine is1.mono ?_;rintro e w' ⟨rfl,rfl⟩;clear is1 HPB3 HBU3 HLV3;generalize w3.alloc (Obj.cells #[.int .u8 115,.int .u8 105,.int .u8 112] 5 (3,4))=W4 at HPB4 HBU4 HLV4⊢;cases r1;case true=>
    have HOR:Hid (¬((l.take j).map Bf≠Fb∧(l.take j).map Bf≠DT)):=Hi fun h=>h.1 (of_decide_eq_true HR1.out);have HPB:=HPB4;have HBU:=HBU4;have HLV:=HLV4;clear HPB4 HBU4 HLV4;generalize W4=WC at HPB HBU HLV⊢;have y0:WC.cell? ⟨W1.heap.size,0,none⟩=some (.slice (some ⟨b0,o0,none⟩) j j):=AB HBU.out 0;obtain⟨r3,hr3⟩:∃r,decide ((l.take j).map Bf=l.take j)=r:=⟨_,rfl⟩
    have HR3:=Hi hr3;have is3:=Di _ _ _ _ WC r3 hr3 HLV.out (HBS.out.le HPB.out.1);have IS3:=Hi is3;clear hr3 is3;go_wp2_with fail
    refine IS3.out.mono ?_;rintro e w' ⟨rfl,rfl⟩;cases r3
    ·have HX:Hid (By l= .open_):=Hi (by rw[HSI.out,if_neg HOR.out,if_pos (of_decide_eq_false HR3.out)]);go_upto_if 97 with fail
     go_wp2_with (refine AH rfl 35 rfl (some 98) rfl Ai Af ?_;refine AD rfl 35 (.tmp 2) (.tmp 98) rfl w.heap.size Ai rfl rfl 35 Ai HPB.out.2 AI rfl AP ?_)
     intro WZ hz hkz;have HF:Hid (By l= .open_):=Hi (HX.out);have HLZ:Hid (Le w WZ):=Hi (Below.trans HPB.out.1 (hkz.below (NL _) HPB.out.1.size));have HZ:=Hi hz;clear hz hkz;go_wp2;refine bodyPost_ret (v:= .tuple #[UV.nil.val,.int .i64 (-2)]) ?_ rfl ⟨UV.nil,(-2),rfl,HLZ.out,AP,by rw[HF.out]⟩;exact Aw HZ.out rfl rfl
    have HSI2:Hid (By l=if [47,47].isPrefixOf (l.drop (j+1))then .open_ else SR.of (Ac (l.take j) (l.drop (j+1)))):=Hi (by rw[HSI.out,if_neg HOR.out,if_neg (fun h=>h (of_decide_eq_true HR3.out))]);clear HSI HR3;go_upto_region 23 with fail
    go_cut [113]from 99 (fun s113 wx=>wx=WC∧s113= .bool ([47,47].isPrefixOf (l.drop (j+1))))
    case first=>
     by_cases hm1:1<m2
     ·have hm1':1<(l.drop (j+1)).length:=by rw[HM2.out];exact hm1
      obtain⟨g2,o2,rfl,d1⟩:=HBR.out.at' (k:=0) (by omega);obtain⟨g3,o3,e',d2⟩:=HBR.out.at' (k:=1) hm1';obtain⟨rfl,rfl⟩:g2=g3∧o2=o3:=by injection e' with e';injection e' with e1 e2;exact⟨e1,e2⟩
      clear e';rw[Nat.add_zero]at d1;have d1:=HPB.out.1.cell d1;have d2:=HPB.out.1.cell d2;have HPX:=Hi (pre2 hm1');have a1:=ET ((l.drop (j+1))[0]'(by omega)) 47 (by omega);have a2:=ET (l.drop (j+1))[1] 47 (by omega);obtain⟨t1,ht1⟩:∃t,decide ((l.drop (j+1))[0]'(by omega)=UInt8.ofNat 47)=t:=⟨_,rfl⟩;obtain⟨t2,ht2⟩:∃t,decide ((l.drop (j+1))[1]=UInt8.ofNat 47)=t:=⟨_,rfl⟩
      have HP2:Hid ([47,47].isPrefixOf (l.drop (j+1))=(t1&&t2)):=Hi (by rw[HPX.out,ht1,ht2]);rw[ht1]at a1;rw[ht2]at a2;clear ht1 ht2 HPX;generalize(((l.drop (j+1))[0]'(by omega)).toNat:Int)=x1 at d1 a1;generalize((l.drop (j+1))[1].toNat:Int)=x2 at d2 a2;have a1':(x1==47)=t1:=a1;have a2':(x2==47)=t2:=a2;clear a1 a2;cases t1
      ·go_wp2;go_meet;case rel=>exact⟨rfl,by rw[HP2.out];rfl⟩
      ·cases t2
       ·go_wp2;go_meet;case rel=>exact⟨rfl,by rw[HP2.out];rfl⟩
       ·go_wp2;go_meet;case rel=>exact⟨rfl,by rw[HP2.out];rfl⟩
     ·have HP2:Hid ([47,47].isPrefixOf (l.drop (j+1))=false):=Hi (GH (by rw[HM2.out];omega));have hm1':(m2:Int)≤1:=by omega
      go_wp2;go_meet;case rel=>exact⟨rfl,by rw[HP2.out]⟩
    case rest=>
     obtain⟨rfl,rfl⟩:=hcut;obtain⟨pf,hpf⟩:∃p,[47,47].isPrefixOf (l.drop (j+1))=p:=⟨_,rfl⟩;rw[hpf];have HPX:=Hi hpf;clear hpf;cases pf;case true=>
      have HX:Hid (By l= .open_):=Hi (by rw[HSI2.out,HPX.out];rfl);go_upto_if 113 with fail
      go_wp2_with (refine AH rfl 35 rfl (some 114) rfl Ai Af ?_;refine AD rfl 35 (.tmp 2) (.tmp 114) rfl w.heap.size Ai rfl rfl 35 Ai HPB.out.2 AI rfl AP ?_)
      intro WZ hz hkz;have HF:Hid (By l= .open_):=Hi (HX.out);have HLZ:Hid (Le w WZ):=Hi (Below.trans HPB.out.1 (hkz.below (NL _) HPB.out.1.size));have HZ:=Hi hz;clear hz hkz;go_wp2;refine bodyPost_ret (v:= .tuple #[UV.nil.val,.int .i64 (-2)]) ?_ rfl ⟨UV.nil,(-2),rfl,HLZ.out,AP,by rw[HF.out]⟩;exact Aw HZ.out rfl rfl
     have HSI3:Hid (By l=SR.of (Ac (l.take j) (l.drop (j+1)))):=Hi (by rw[HSI2.out,HPX.out];rfl);clear HSI2 HPX y0;go_wp2_with (refine wpList_load_row rfl 35 (.tmp 6) rfl W1.heap.size rfl 35 (FD (.slice (some ⟨b0,o0,none⟩) j j) (.slice none 0 0) (.slice none 0 0) (.slice none 0 0) 0 (.slice none 0 0) (.slice none 0 0)) (0,0) _ HBU.out Tryz.underlying35 rfl AI ?_)
     refine(JE _ (.slice (some ⟨b0,o0,none⟩) j j) (l.take j) (l.drop (j+1)) w _ HPB.out.1 HBS.out HBR.out (by rw[HM2.out];omega)).mono ?_;rintro e w6 ⟨x,kd,rfl,hle6,hone,hmt⟩;have HPB6:=Hi (HPB.out.to hle6);have HMT:=Hi hmt;obtain⟨R,hR,hRs⟩:∃R,x.val= .agg R∧R=x.row:=⟨_,rfl,rfl⟩;have hsz:R.size=10:=by rw[hRs];rfl
     have HONE:=Hi hone;rw[←hRs]at hone;have HR:=Hi hR;rw[hR];clear hle6 hmt hR hRs;go_wp2_with (refine AD rfl 35 (.tmp 2) (.tmp 118) rfl w.heap.size R rfl rfl 35 Ai HPB6.out.2 (by rw[hsz];exact AI) hsz.symm hone ?_)
     intro WZ hz hkz;have HLZ:Hid (Le w WZ):=Hi (Below.trans HPB6.out.1 (hkz.below (NL _) HPB6.out.1.size));have HKZ:=Hi hkz;have HZ:=Hi hz;clear hz hkz;go_wp2;refine bodyPost_ret (v:= .tuple #[.agg R,.int .i64 kd]) (Aw HZ.out rfl rfl hsz) rfl ⟨x,kd,by rw[←HR.out],HLZ.out,HONE.out,?_⟩;rw[HSI3.out];have hm:=HMT.out;cases hS:Ac (l.take j) (l.drop (j+1))with
     |none=>rw[hS]at hm;exact hm
     |some u=>
      rw[hS]at hm;obtain⟨h1,h2⟩:=hm;have hlt:=AQ HPB.out.2
      exact⟨h1,⟨bqT (h2.scheme.le HLZ.out),bqT (h2.raw.le HLZ.out),h2.wild,h2.slash,bqT (h2.user.le HLZ.out),bqT (h2.pass.le HLZ.out),bqT (h2.host.le HLZ.out),h2.port,(h2.ps.kp HKZ.out (by omega)).kq HLZ.out h2.pl,(h2.hs.kp HKZ.out (by omega)).kq HLZ.out h2.hl⟩,(fun g e=>Nat.le_trans (by omega) (h2.ps.own g e)),(fun g e=>Nat.le_trans (by omega) (h2.hs.own g e))⟩
   case false=>
    have hbs:Bv (W4.alloc (Obj.cells #[.int .u8 115,.int .u8 105,.int .u8 112,.int .u8 115] 5 (4,5))) (.slice (some ⟨W4.heap.size,0,none⟩) 4 4) DT:=CO W4 DT (by decide) (4,5);have hal4:Le W4 (W4.alloc (Obj.cells #[.int .u8 115,.int .u8 105,.int .u8 112,.int .u8 115] 5 (4,5))):=(AC W4).alloc _;have HPB:=Hi (HPB4.out.to hal4);have HBU:=Hi (hal4.heap HBU4.out)
    have HLV:=Hi (HLV4.out.le hal4);obtain⟨r2,hr2⟩:∃r,decide ((l.take j).map Bf=DT)=r:=⟨_,rfl⟩;have HR2:=Hi hr2;have is2:=Di _ _ _ DT _ r2 hr2 HLV.out hbs;clear hr2 hbs hal4;go_wp2_with fail
    refine is2.mono ?_;rintro e w' ⟨rfl,rfl⟩;clear is2 HPB4 HBU4 HLV4;generalize W4.alloc (Obj.cells #[.int .u8 115,.int .u8 105,.int .u8 112,.int .u8 115] 5 (4,5))=WC at HPB HBU HLV⊢;cases r2;case true=>
     have HOR:Hid (¬((l.take j).map Bf≠Fb∧(l.take j).map Bf≠DT)):=Hi fun h=>h.2 (of_decide_eq_true HR2.out);have y0:WC.cell? ⟨W1.heap.size,0,none⟩=some (.slice (some ⟨b0,o0,none⟩) j j):=AB HBU.out 0;obtain⟨r3,hr3⟩:∃r,decide ((l.take j).map Bf=l.take j)=r:=⟨_,rfl⟩;have HR3:=Hi hr3;have is3:=Di _ _ _ _ WC r3 hr3 HLV.out (HBS.out.le HPB.out.1);have IS3:=Hi is3
     clear hr3 is3;go_wp2_with fail
     refine IS3.out.mono ?_;rintro e w' ⟨rfl,rfl⟩;cases r3
     ·have HX:Hid (By l= .open_):=Hi (by rw[HSI.out,if_neg HOR.out,if_pos (of_decide_eq_false HR3.out)]);go_upto_if 97 with fail
      go_wp2_with (refine AH rfl 35 rfl (some 98) rfl Ai Af ?_;refine AD rfl 35 (.tmp 2) (.tmp 98) rfl w.heap.size Ai rfl rfl 35 Ai HPB.out.2 AI rfl AP ?_)
      intro WZ hz hkz;have HF:Hid (By l= .open_):=Hi (HX.out);have HLZ:Hid (Le w WZ):=Hi (Below.trans HPB.out.1 (hkz.below (NL _) HPB.out.1.size));have HZ:=Hi hz;clear hz hkz;go_wp2;refine bodyPost_ret (v:= .tuple #[UV.nil.val,.int .i64 (-2)]) ?_ rfl ⟨UV.nil,(-2),rfl,HLZ.out,AP,by rw[HF.out]⟩;exact Aw HZ.out rfl rfl
     have HSI2:Hid (By l=if [47,47].isPrefixOf (l.drop (j+1))then .open_ else SR.of (Ac (l.take j) (l.drop (j+1)))):=Hi (by rw[HSI.out,if_neg HOR.out,if_neg (fun h=>h (of_decide_eq_true HR3.out))]);clear HSI HR3;go_upto_region 23 with fail
     go_cut [113]from 99 (fun s113 wx=>wx=WC∧s113= .bool ([47,47].isPrefixOf (l.drop (j+1))))
     case first=>
      by_cases hm1:1<m2
      ·have hm1':1<(l.drop (j+1)).length:=by rw[HM2.out];exact hm1
       obtain⟨g2,o2,rfl,d1⟩:=HBR.out.at' (k:=0) (by omega);obtain⟨g3,o3,e',d2⟩:=HBR.out.at' (k:=1) hm1';obtain⟨rfl,rfl⟩:g2=g3∧o2=o3:=by injection e' with e';injection e' with e1 e2;exact⟨e1,e2⟩
       clear e';rw[Nat.add_zero]at d1;have d1:=HPB.out.1.cell d1;have d2:=HPB.out.1.cell d2;have HPX:=Hi (pre2 hm1');have a1:=ET ((l.drop (j+1))[0]'(by omega)) 47 (by omega);have a2:=ET (l.drop (j+1))[1] 47 (by omega);obtain⟨t1,ht1⟩:∃t,decide ((l.drop (j+1))[0]'(by omega)=UInt8.ofNat 47)=t:=⟨_,rfl⟩;obtain⟨t2,ht2⟩:∃t,decide ((l.drop (j+1))[1]=UInt8.ofNat 47)=t:=⟨_,rfl⟩
       have HP2:Hid ([47,47].isPrefixOf (l.drop (j+1))=(t1&&t2)):=Hi (by rw[HPX.out,ht1,ht2]);rw[ht1]at a1;rw[ht2]at a2;clear ht1 ht2 HPX;generalize(((l.drop (j+1))[0]'(by omega)).toNat:Int)=x1 at d1 a1;generalize((l.drop (j+1))[1].toNat:Int)=x2 at d2 a2;have a1':(x1==47)=t1:=a1;have a2':(x2==47)=t2:=a2;clear a1 a2;cases t1
       ·go_wp2;go_meet;case rel=>exact⟨rfl,by rw[HP2.out];rfl⟩
       ·cases t2
        ·go_wp2;go_meet;case rel=>exact⟨rfl,by rw[HP2.out];rfl⟩
        ·go_wp2;go_meet;case rel=>exact⟨rfl,by rw[HP2.out];rfl⟩
      ·have HP2:Hid ([47,47].isPrefixOf (l.drop (j+1))=false):=Hi (GH (by rw[HM2.out];omega));have hm1':(m2:Int)≤1:=by omega
       go_wp2;go_meet;case rel=>exact⟨rfl,by rw[HP2.out]⟩
     case rest=>
      obtain⟨rfl,rfl⟩:=hcut;obtain⟨pf,hpf⟩:∃p,[47,47].isPrefixOf (l.drop (j+1))=p:=⟨_,rfl⟩;rw[hpf];have HPX:=Hi hpf;clear hpf;cases pf;case true=>
       have HX:Hid (By l= .open_):=Hi (by rw[HSI2.out,HPX.out];rfl);go_upto_if 113 with fail
       go_wp2_with (refine AH rfl 35 rfl (some 114) rfl Ai Af ?_;refine AD rfl 35 (.tmp 2) (.tmp 114) rfl w.heap.size Ai rfl rfl 35 Ai HPB.out.2 AI rfl AP ?_)
       intro WZ hz hkz;have HF:Hid (By l= .open_):=Hi (HX.out);have HLZ:Hid (Le w WZ):=Hi (Below.trans HPB.out.1 (hkz.below (NL _) HPB.out.1.size));have HZ:=Hi hz;clear hz hkz;go_wp2;refine bodyPost_ret (v:= .tuple #[UV.nil.val,.int .i64 (-2)]) ?_ rfl ⟨UV.nil,(-2),rfl,HLZ.out,AP,by rw[HF.out]⟩;exact Aw HZ.out rfl rfl
      have HSI3:Hid (By l=SR.of (Ac (l.take j) (l.drop (j+1)))):=Hi (by rw[HSI2.out,HPX.out];rfl);clear HSI2 HPX y0;go_wp2_with (refine wpList_load_row rfl 35 (.tmp 6) rfl W1.heap.size rfl 35 (FD (.slice (some ⟨b0,o0,none⟩) j j) (.slice none 0 0) (.slice none 0 0) (.slice none 0 0) 0 (.slice none 0 0) (.slice none 0 0)) (0,0) _ HBU.out Tryz.underlying35 rfl AI ?_)
      refine(JE _ (.slice (some ⟨b0,o0,none⟩) j j) (l.take j) (l.drop (j+1)) w _ HPB.out.1 HBS.out HBR.out (by rw[HM2.out];omega)).mono ?_;rintro e w6 ⟨x,kd,rfl,hle6,hone,hmt⟩;have HPB6:=Hi (HPB.out.to hle6);have HMT:=Hi hmt;obtain⟨R,hR,hRs⟩:∃R,x.val= .agg R∧R=x.row:=⟨_,rfl,rfl⟩;have hsz:R.size=10:=by rw[hRs];rfl
      have HONE:=Hi hone;rw[←hRs]at hone;have HR:=Hi hR;rw[hR];clear hle6 hmt hR hRs;go_wp2_with (refine AD rfl 35 (.tmp 2) (.tmp 118) rfl w.heap.size R rfl rfl 35 Ai HPB6.out.2 (by rw[hsz];exact AI) hsz.symm hone ?_)
      intro WZ hz hkz;have HLZ:Hid (Le w WZ):=Hi (Below.trans HPB6.out.1 (hkz.below (NL _) HPB6.out.1.size));have HKZ:=Hi hkz;have HZ:=Hi hz;clear hz hkz;go_wp2;refine bodyPost_ret (v:= .tuple #[.agg R,.int .i64 kd]) (Aw HZ.out rfl rfl hsz) rfl ⟨x,kd,by rw[←HR.out],HLZ.out,HONE.out,?_⟩;rw[HSI3.out];have hm:=HMT.out;cases hS:Ac (l.take j) (l.drop (j+1))with
      |none=>rw[hS]at hm;exact hm
      |some u=>
       rw[hS]at hm;obtain⟨h1,h2⟩:=hm;have hlt:=AQ HPB.out.2
       exact⟨h1,⟨bqT (h2.scheme.le HLZ.out),bqT (h2.raw.le HLZ.out),h2.wild,h2.slash,bqT (h2.user.le HLZ.out),bqT (h2.pass.le HLZ.out),bqT (h2.host.le HLZ.out),h2.port,(h2.ps.kp HKZ.out (by omega)).kq HLZ.out h2.pl,(h2.hs.kp HKZ.out (by omega)).kq HLZ.out h2.hl⟩,(fun g e=>Nat.le_trans (by omega) (h2.ps.own g e)),(fun g e=>Nat.le_trans (by omega) (h2.hs.own g e))⟩
    case false=>
     have HAND:Hid ((l.take j).map Bf≠Fb∧(l.take j).map Bf≠DT):=Hi ⟨of_decide_eq_false HR1.out,of_decide_eq_false HR2.out⟩;clear HR1 HR2;have y0:WC.cell? ⟨W1.heap.size,0,none⟩=some (.slice (some ⟨b0,o0,none⟩) j j):=AB HBU.out 0;have y1:WC.cell? ⟨W1.heap.size,1,none⟩=some (.slice none 0 0):=AB HBU.out 1
     have z1:WC.frozen? ⟨W1.heap.size,1,none⟩=false:=AN HBU.out 1;obtain⟨r3,hr3⟩:∃r,decide ((l.take j).map Bf=l.take j)=r:=⟨_,rfl⟩;have HR3:=Hi hr3;have is3:=Di _ _ _ _ WC r3 hr3 HLV.out (HBS.out.le HPB.out.1);have IS3:=Hi is3;obtain⟨r4,hr4⟩:∃r,prB (l.drop (j+1))=r:=⟨_,rfl⟩;have HR4:=Hi hr4
     have IS4:=Hi (AW (IY _ _ WC (HBR.out.le HPB.out.1)) hr4);have HE:=Hi (Fz HM2.out);have HSI2:Hid (By l=if !(l.drop (j+1)).isEmpty&&r4&& !((l.drop (j+1)).head? ==some 47)&&r3 then .val {PU.zero with scheme:=l.take j,raw:=l.drop (j+1)} else .open_):=Hi (by rw[HSI.out,if_pos HAND.out,hr4,hr3]);clear hr3 is3 hr4 HSI HR3 HR4 HAND;by_cases hm0:m2=0
     ·have HX:Hid (By l= .open_):=Hi (by
       have:(l.drop (j+1)).isEmpty=true:=by rw[HE.out,hm0];rfl
       rw[HSI2.out,this];rfl)
      have hm0':((m2:Int)==0)=true:=by simp[hm0]
      go_upto_if 88 with fail
      go_wp2_with (refine AH rfl 35 rfl (some 89) rfl Ai Af ?_;refine AD rfl 35 (.tmp 2) (.tmp 89) rfl w.heap.size Ai rfl rfl 35 Ai HPB.out.2 AI rfl AP ?_)
      intro WZ hz hkz;have HF:Hid (By l= .open_):=Hi (HX.out);have HLZ:Hid (Le w WZ):=Hi (Below.trans HPB.out.1 (hkz.below (NL _) HPB.out.1.size));have HZ:=Hi hz;clear hz hkz;go_wp2;refine bodyPost_ret (v:= .tuple #[UV.nil.val,.int .i64 (-2)]) ?_ rfl ⟨UV.nil,(-2),rfl,HLZ.out,AP,by rw[HF.out]⟩;exact Aw HZ.out rfl rfl
     have hm0':((m2:Int)==0)=false:=by simp;omega
     have HNE:Hid ((l.drop (j+1)).isEmpty=false):=Hi (by rw[HE.out,hm0']);have hmp:0<(l.drop (j+1)).length:=by rw[HM2.out];omega
     cases r4
     ·have HX:Hid (By l= .open_):=Hi (by rw[HSI2.out,HNE.out];rfl);go_wp2_with fail
      refine IS4.out.mono ?_;rintro e w' ⟨rfl,rfl⟩;go_upto_if 88 with fail
      go_wp2_with (refine AH rfl 35 rfl (some 89) rfl Ai Af ?_;refine AD rfl 35 (.tmp 2) (.tmp 89) rfl w.heap.size Ai rfl rfl 35 Ai HPB.out.2 AI rfl AP ?_)
      intro WZ hz hkz;have HF:Hid (By l= .open_):=Hi (HX.out);have HLZ:Hid (Le w WZ):=Hi (Below.trans HPB.out.1 (hkz.below (NL _) HPB.out.1.size));have HZ:=Hi hz;clear hz hkz;go_wp2;refine bodyPost_ret (v:= .tuple #[UV.nil.val,.int .i64 (-2)]) ?_ rfl ⟨UV.nil,(-2),rfl,HLZ.out,AP,by rw[HF.out]⟩;exact Aw HZ.out rfl rfl
     go_wp2_with fail
     refine IS4.out.mono ?_;rintro e w' ⟨rfl,rfl⟩;obtain⟨g2,o2,rfl,d1⟩:=HBR.out.at' hmp;rw[Nat.add_zero]at d1;have d1:=HPB.out.1.cell d1;have HHD:=Hi (Jb hmp 47);have a1:=ET (l.drop (j+1))[0] 47 (by omega);obtain⟨t1,ht1⟩:∃t,decide ((l.drop (j+1))[0]=UInt8.ofNat 47)=t:=⟨_,rfl⟩;have HT1:Hid (((l.drop (j+1)).head? ==some 47)=t1):=Hi (by rw[HHD.out];exact ht1);rw[ht1]at a1
     clear ht1 HHD;generalize((l.drop (j+1))[0].toNat:Int)=x1 at d1 a1;have a1':(x1==47)=t1:=a1;clear a1;cases t1;case true=>
      have HX:Hid (By l= .open_):=Hi (by rw[HSI2.out,HNE.out,HT1.out];rfl);go_upto_if 88 with fail
      go_wp2_with (refine AH rfl 35 rfl (some 89) rfl Ai Af ?_;refine AD rfl 35 (.tmp 2) (.tmp 89) rfl w.heap.size Ai rfl rfl 35 Ai HPB.out.2 AI rfl AP ?_)
      intro WZ hz hkz;have HF:Hid (By l= .open_):=Hi (HX.out);have HLZ:Hid (Le w WZ):=Hi (Below.trans HPB.out.1 (hkz.below (NL _) HPB.out.1.size));have HZ:=Hi hz;clear hz hkz;go_wp2;refine bodyPost_ret (v:= .tuple #[UV.nil.val,.int .i64 (-2)]) ?_ rfl ⟨UV.nil,(-2),rfl,HLZ.out,AP,by rw[HF.out]⟩;exact Aw HZ.out rfl rfl
     case false=>
      go_wp2_with fail
      refine IS3.out.mono ?_;rintro e w' ⟨rfl,rfl⟩;cases r3
      ·have HX:Hid (By l= .open_):=Hi (by rw[HSI2.out,HNE.out,HT1.out];rfl);go_upto_if 88 with fail
       go_wp2_with (refine AH rfl 35 rfl (some 89) rfl Ai Af ?_;refine AD rfl 35 (.tmp 2) (.tmp 89) rfl w.heap.size Ai rfl rfl 35 Ai HPB.out.2 AI rfl AP ?_)
       intro WZ hz hkz;have HF:Hid (By l= .open_):=Hi (HX.out);have HLZ:Hid (Le w WZ):=Hi (Below.trans HPB.out.1 (hkz.below (NL _) HPB.out.1.size));have HZ:=Hi hz;clear hz hkz;go_wp2;refine bodyPost_ret (v:= .tuple #[UV.nil.val,.int .i64 (-2)]) ?_ rfl ⟨UV.nil,(-2),rfl,HLZ.out,AP,by rw[HF.out]⟩;exact Aw HZ.out rfl rfl
      ·have HX:Hid (By l= .val {PU.zero with scheme:=l.take j,raw:=l.drop (j+1)}):=Hi (by rw[HSI2.out,HNE.out,HT1.out];rfl);go_upto_if 88 with fail
       have HBU5:Hid ((WC.setCell ⟨W1.heap.size,1,none⟩ (.slice (some ⟨g2,o2,none⟩) m2 c2)).heap[W1.heap.size]? =some (.cells #[(.slice (some ⟨b0,o0,none⟩) j j),.slice (some ⟨g2,o2,none⟩) m2 c2,.bool false,.bool false,(.slice none 0 0),(.slice none 0 0),(.slice none 0 0),.int .i64 0,(.slice none 0 0),(.slice none 0 0)] 35 (0,0))):=Hi (AX HBU.out 1 _)
       have HPB5:Hid (PB w (WC.setCell ⟨W1.heap.size,1,none⟩ (.slice (some ⟨g2,o2,none⟩) m2 c2))):=Hi ⟨Below.trans HPB.out.1 ((BK WC W1.heap.size 1 _).below (Nat.le_of_lt HLT.out) HPB.out.1.size),(BK WC W1.heap.size 1 _).heap (by have:=HLT.out;omega) HPB.out.2⟩
       go_wp2_with (refine wpList_load_row rfl 35 (.tmp 6) rfl W1.heap.size rfl 35 #[(.slice (some ⟨b0,o0,none⟩) j j),.slice (some ⟨g2,o2,none⟩) m2 c2,.bool false,.bool false,(.slice none 0 0),(.slice none 0 0),(.slice none 0 0),.int .i64 0,(.slice none 0 0),(.slice none 0 0)] (0,0) _ HBU5.out Tryz.underlying35 rfl AI ?_;refine AD rfl 35 (.tmp 2) (.tmp 92) rfl w.heap.size #[(.slice (some ⟨b0,o0,none⟩) j j),.slice (some ⟨g2,o2,none⟩) m2 c2,.bool false,.bool false,(.slice none 0 0),(.slice none 0 0),(.slice none 0 0),.int .i64 0,(.slice none 0 0),(.slice none 0 0)] rfl rfl 35 Ai HPB5.out.2 AI rfl (K7 _ _ _ _ _ _) ?_)
       intro WZ hz hkz;have HLZ:Hid (Le w WZ):=Hi (Below.trans HPB5.out.1 (hkz.below (NL _) HPB5.out.1.size));have HZ:=Hi hz;clear hz hkz;go_wp2
       refine bodyPost_ret (v:= .tuple #[.agg #[(.slice (some ⟨b0,o0,none⟩) j j),.slice (some ⟨g2,o2,none⟩) m2 c2,.bool false,.bool false,(.slice none 0 0),(.slice none 0 0),(.slice none 0 0),.int .i64 0,(.slice none 0 0),(.slice none 0 0)],.int .i64 0]) (Aw HZ.out rfl rfl) rfl ⟨⟨(.slice (some ⟨b0,o0,none⟩) j j),.slice (some ⟨g2,o2,none⟩) m2 c2,false,false,(.slice none 0 0),(.slice none 0 0),(.slice none 0 0),0,(.slice none 0 0),(.slice none 0 0)⟩,0,rfl,HLZ.out,K7 _ _ _ _ _ _,?_⟩
       rw[HX.out];exact⟨rfl,⟨bqT (HBS.out.le HLZ.out),bqT (HBR.out.le HLZ.out),rfl,rfl,Bq.nil _ _,Bq.nil _ _,Bq.nil _ _,rfl,Kq.nil _ _,Kq.nil _ _⟩,(fun g e=>by cases e),(fun g e=>by cases e)⟩
theorem LX(v:Value)(l:Tx)(w0 w:World)(h0:Le w0 w)(hv:Bv w0 v l)(hl:l.length≤1099511627000):
 Calls Tryz.prog 84 #[v] w fun e w'=>e= .returned (.bool (D8 l))∧Le w w':=by
 have HV:=Hi hv;have H0:=Hi h0;clear hv h0;go_enter Tryz.func84,Tryz.ntmps84;go_wp2_with fail
 refine(IJ v l 32 w0 w H0.out HV.out hl).mono ?_;rintro e w1 ⟨pv,rfl,hsl,hle1⟩;have HSL:=Hi hsl;have HLE1:=Hi hle1;obtain⟨A9,c9,rfl,hk1,hk2,hk3,_⟩:=hsl;have HWB:Hid (D8 l=(pcs 32 l).all DU):=Hi rfl;clear hle1;have HL01:=Hi (H0.out.trans HLE1.out);generalize pcs 32 l=ls at HSL HWB hk1 hk3⊢;go_wp2
 go_loop [4] (fun i=>∃k:Nat,k≤ls.length∧i= .int .i64 k∧(ls.take k).all DU=true) (fun i=>ls.length-(intOf i).toNat)
 case atStart=>exact⟨0,Nat.zero_le _,rfl,rfl⟩
 case round=>
  obtain⟨k,hk,rfl,hq⟩:=hrel;have HQ:=Hi hq;clear hq;by_cases hlt:k<ls.length
  ·obtain⟨g,o,rfl,x,d1,X⟩:=HSL.out.at_ hlt;have HC:=Hi (Cr x ls[k] w1 (X.out.le HL01.out));rcases ht:DU ls[k]with _|_
   ·have HX:Hid (D8 l=false):=Hi (by rw[HWB.out];exact List.all_eq_false.2 ⟨ls[k],List.getElem_mem hlt,by rw[ht];simp⟩);rw[ht]at HC;clear ht;go_wp2_with (go_at_call 32;refine HC.out.mono ?_;rintro e w' ⟨rfl,rfl⟩)
    go_ret;exact⟨by rw[HX.out];rfl,HLE1.out⟩
   ·have HX:Hid ((ls.take (k+1)).all DU=true):=Hi (by rw[List.take_succ_eq_append_getElem hlt,List.all_append,HQ.out];simpa using ht);rw[ht]at HC;clear ht;go_wp2_with (go_at_call 32;refine HC.out.mono ?_;rintro e w' ⟨rfl,rfl⟩)
    go_round
    case rel=>exact⟨k+1,by omega,by go_num,HX.out⟩
    case measure=>simp[intOf];omega
  ·have HX:Hid (D8 l=true):=Hi (by
    rw[HWB.out];have h1:=HQ.out;rw[List.take_of_length_le (by omega)]at h1;exact h1)
   go_wp2;go_ret;exact⟨by rw[HX.out];rfl,HLE1.out⟩
theorem O2{c:UInt8}(h1:¬(c.toNat:Int)<32)(h2:¬(c.toNat:Int)>126)(h3:(c.toNat:Int)≠34)(h4:(c.toNat:Int)≠92):JO c=true:=by
 have e3:c≠34:=by rintro rfl;exact h3 rfl
 have e4:c≠92:=by rintro rfl;exact h4 rfl
 have e1:(32:UInt8)≤c:=by rw[UInt8.le_iff_toNat_le];show 32≤c.toNat;omega
 have e2:c≤(126:UInt8):=by rw[UInt8.le_iff_toNat_le];show c.toNat≤126;omega
 simp[JO,e1,e2,e3,e4]
theorem O4{c:UInt8}(h:(c.toNat:Int)<32∨(c.toNat:Int)>126∨(c.toNat:Int)=34∨(c.toNat:Int)=92):JO c=false:=by
 rcases h with h|h|h|h
 ·have:¬(32:UInt8)≤c:=by rw[UInt8.le_iff_toNat_le];show ¬32≤c.toNat;omega
  simp[JO,this]
 ·have:¬c≤(126:UInt8):=by rw[UInt8.le_iff_toNat_le];show ¬c.toNat≤126;omega
  simp[JO,this]
 ·have:c=34:=Dw (n:=34) h (by decide);simp[JO,this]
 ·have:c=92:=Dw (n:=92) h (by decide);simp[JO,this]
theorem NF(v:Value)(l:Tx)(w:World)(hv:Bv w v l):Calls Tryz.prog 83 #[v] w fun e w'=>e= .returned (.bool (JP l))∧w=w':=by
 obtain⟨A,cc,rfl,h1,h2,h4⟩:=hv;have h3:=h4.1;have HR:=Hi h4;clear h4;go_enter Tryz.func83,Tryz.ntmps83;go_wp2
 go_loop [3] (fun i=>∃k:Nat,k≤l.length∧i= .int .i64 k∧(l.take k).all JO=true) (fun i=>l.length-(intOf i).toNat)
 case atStart=>exact⟨0,Nat.zero_le _,rfl,rfl⟩
 case round=>
  obtain⟨k,hk,rfl,hq⟩:=hrel;have HQ:=Hi hq;clear hq;by_cases hlt:k<l.length
  ·obtain⟨b,o,rfl,d1⟩:=HR.out.at_ hlt;have HY:Hid (JO l[k]=true→(l.take (k+1)).all JO=true):=Hi (fun h=>by rw[List.take_succ_eq_append_getElem hlt,List.all_append,HQ.out];simpa using h)
   have HZ:Hid (JO l[k]=false→JP l=false):=Hi (fun h=>by
    unfold JP;rw[List.all_eq_false.2 ⟨l[k],List.getElem_mem hlt,by rw[h];simp⟩];rfl)
   have HT:=Hi (@O2 l[k]);have HF:=Hi (@O4 l[k]);generalize JO l[k]=q at HY HZ HT HF;generalize(l[k].toNat:Int)=x at d1 HT HF;by_cases n1:x<32
   ·have HX:=Hi (HZ.out (HF.out (.inl n1)));go_wp2;go_ret;exact⟨by rw[HX.out];rfl,rfl⟩
   by_cases n2:x>126
   ·have HX:=Hi (HZ.out (HF.out (.inr (.inl n2))));go_wp2;go_ret;exact⟨by rw[HX.out];rfl,rfl⟩
   by_cases n3:x=34
   ·have HX:=Hi (HZ.out (HF.out (.inr (.inr (.inl n3)))));subst n3;clear n1 n2;go_wp2;go_ret;exact⟨by rw[HX.out];rfl,rfl⟩
   by_cases n4:x=92
   ·have HX:=Hi (HZ.out (HF.out (.inr (.inr (.inr n4)))));subst n4;clear n1 n2 n3;go_wp2;go_ret;exact⟨by rw[HX.out];rfl,rfl⟩
   have HX:=Hi (HY.out (HT.out n1 n2 n3 n4));have e3:(x==34)=false:=by simpa using n3
   have e4:(x==92)=false:=by simpa using n4
   have n1':32≤x:=by omega
   have n2':x≤126:=by omega
   clear n3 n4 n1 n2;go_wp2
   go_round
   case rel=>exact⟨k+1,by omega,by go_num,HX.out⟩
   case measure=>simp[intOf];omega
  ·have HX:Hid (l.all JO=true):=Hi (by
    have h1:=HQ.out;rw[List.take_of_length_le (by omega)]at h1;exact h1)
   by_cases h0:l=[]
   ·have hz:((l.length:Int)==0)=true:=by rw[h0];rfl
    have HX2:Hid (JP l=true):=Hi (by rw[h0];rfl);clear h0;go_wp2;go_ret;exact⟨by rw[HX2.out];rfl,rfl⟩
   ·have hpos:0<l.length:=List.length_pos_iff.2 h0;have hz:((l.length:Int)==0)=false:=by simp;omega
    obtain⟨b,o,rfl,d1⟩:=HR.out.at_ hpos;obtain⟨b',o',e',d2⟩:=HR.out.at_ (show l.length-1<l.length by omega);injection e' with e';injection e' with e1 e2;subst e1;subst e2
    have HX2:Hid (JP l=(decide (l[0]≠32)&&decide (l[l.length-1]≠32))):=Hi (by
     unfold JP;rw[HX.out,List.head?_eq_getElem?,List.getLast?_eq_getElem?,List.getElem?_eq_getElem hpos,List.getElem?_eq_getElem (show l.length-1<l.length by omega)];have:l.isEmpty=false:=by simpa using h0
     rw[this];by_cases a:l[0]=32<;>by_cases b:l[l.length-1]=32<;>simp[a,b])
    have b1:=Eo l[0] 32 (by omega);have b2:=Eo l[l.length-1] 32 (by omega);have hm:IntKind.i64.wrap ((l.length:Int)-1)=((l.length-1:Nat):Int):=by rw[IntWalk.i64_in _ (by omega)];omega
    have hm2:l.length-1<l.length:=by omega
    rw[Nat.add_zero]at d1;clear h0 hm hm2;by_cases c1:l[0]=32
    ·have HX3:Hid (JP l=false):=Hi (by rw[HX2.out];simp[c1]);rw[decide_eq_true (show l[0]=UInt8.ofNat 32 from c1)]at b1;have b1:((l[0].toNat:Int) != 32)=false:=b1;clear HX2 c1 b2 d2;generalize(l[0].toNat:Int)=x at d1 b1;go_wp2;go_ret;exact⟨by rw[HX3.out];rfl,rfl⟩
    rw[decide_eq_false (show ¬l[0]=UInt8.ofNat 32 from c1)]at b1;have b1:((l[0].toNat:Int) != 32)=true:=b1;by_cases c2:l[l.length-1]=32
    ·have HX3:Hid (JP l=false):=Hi (by rw[HX2.out];simp[c2]);rw[decide_eq_true (show l[l.length-1]=UInt8.ofNat 32 from c2)]at b2;have b2:((l[l.length-1].toNat:Int) != 32)=false:=b2;clear HX2 c1 c2;generalize(l[0].toNat:Int)=x at d1 b1;generalize(l[l.length-1].toNat:Int)=y at d2 b2;go_wp2;go_ret;exact⟨by rw[HX3.out];rfl,rfl⟩
    ·have HX3:Hid (JP l=true):=Hi (by rw[HX2.out];simp[c1,c2]);rw[decide_eq_false (show ¬l[l.length-1]=UInt8.ofNat 32 from c2)]at b2;have b2:((l[l.length-1].toNat:Int) != 32)=true:=b2;clear HX2 c1 c2;generalize(l[0].toNat:Int)=x at d1 b1;generalize(l[l.length-1].toNat:Int)=y at d2 b2;go_wp2;go_ret;exact⟨by rw[HX3.out];rfl,rfl⟩
def Nn(w0:World)(l:Tx)(w:World)(e:Ending)(w':World):Prop:=
 ∃(v:Value) (ok:Bool),e= .returned (.tuple #[v,.bool ok])∧Le w w'∧(∃A m c,v= .slice A m c)∧if ok=true then ∃kvs,C7 l=some kvs∧kvs.length≤1099511627776∧KrS w0 w' w.heap.size v kvs else C7 l=none
theorem N1(v:Value)(l:Tx)(w0 w:World)(h0:Le w0 w)(hv:Bv w0 v l)(hl:l.length≤1099511627000):Calls Tryz.prog 85 #[v] w (Nn w0 l w):=by
 have HV:=Hi hv;have H0:=Hi h0;obtain⟨A,cc,rfl,h1,h2,h4⟩:=hv;have h3:=h4.1;have HR:=Hi (h4.le h0);clear h4 h0;by_cases he:l=[]
 ·have hz:((l.length:Int)==0)=true:=by rw[he];rfl
  have HX:Hid (C7 l=some []):=Hi (by rw[he];rfl);clear he;go_enter Tryz.func85,Tryz.ntmps85;go_wp2
  go_ret2
  exact⟨_,true,rfl,AC w,⟨_,_,_,rfl⟩,by rw[if_pos rfl];exact⟨[],HX.out,by simp,KrS.nil _ _ _⟩⟩
 ·have hpos:0<l.length:=List.length_pos_iff.2 he;have hz:((l.length:Int)==0)=false:=by simp;omega
  obtain⟨b,o,rfl,d1⟩:=HR.out.at_ hpos;rw[Nat.add_zero]at d1;have b1:=Eo l[0] 59 (by omega);have hh:l.head? =some l[0]:=by rw[List.head?_eq_getElem?,List.getElem?_eq_getElem hpos]
  by_cases c1:l[0]=59
  ·rw[decide_eq_true (show l[0]=UInt8.ofNat 59 from c1)]at b1;have b1:((l[0].toNat:Int) != 59)=false:=b1
   have HS:Hid (C7 l=(match BB (l.drop 1) 59 GF with|some kvs=>if ipB kvs=true then some kvs else none|none=>none)):=Hi (by
    unfold C7;rw[if_neg he,if_pos (by rw[hh,c1])];rfl)
   clear c1 hh he;generalize(l[0].toNat:Int)=x at d1 b1;obtain⟨v1,hv1,s1,s1'⟩:=Bb HV.out (k:=1) (by omega) (z:=1) rfl;have HV1:=Hi hv1;clear hv1;go_enter Tryz.func85,Tryz.ntmps85;go_wp2_with fail
   refine(Fh v1 (l.drop 1) 59 ⟨#[45,46,33,37,42,95,43,96,39,126]⟩ w0 w H0.out HV1.out (by rw[List.length_drop];omega) (by decide)).mono ?_;rintro e w1 ⟨v2,ok,rfl,hle1,⟨A2,m2,c2,rfl⟩,hp⟩;have HLE1:=Hi hle1;clear hle1 s1 s1';cases ok
   ·rw[if_neg (by simp)]at hp;have HX:Hid (C7 l=none):=Hi (by rw[HS.out,show GF=bs ⟨#[45,46,33,37,42,95,43,96,39,126]⟩from rfl,hp]);clear hp;go_wp2
    go_ret2
    exact⟨_,false,rfl,HLE1.out,⟨_,_,_,rfl⟩,by rw[if_neg (by simp)];exact HX.out⟩
   ·rw[if_pos rfl]at hp;obtain⟨kvs,hp1,hp2,hp3⟩:=hp;have HX:Hid (C7 l=if ipB kvs=true then some kvs else none):=Hi (by rw[HS.out,show GF=bs ⟨#[45,46,33,37,42,95,43,96,39,126]⟩from rfl,hp1]);have HK:=Hi hp3;have HP2:=Hi hp2;have hc:=LZ (fun _=>True) (.slice A2 m2 c2) kvs w1 (hp3.kq (H0.out.trans HLE1.out) hp2);have HC:=Hi hc;clear hp1 hp2 hp3 hc;go_wp2_with fail
    refine HC.out.mono ?_;rintro e w2 ⟨rfl,hle2⟩;have HLE2:=Hi (HLE1.out.trans hle2);have HK2:=Hi (HK.out.le hle2);clear hle2;rcases hip:ipB kvs with _|_
    ·rw[hip]at HX;go_wp2
     go_ret2
     exact⟨_,false,rfl,HLE2.out,⟨_,_,_,rfl⟩,by rw[if_neg (by simp)];exact HX.out⟩
    ·rw[hip]at HX;go_wp2
     go_ret2
     exact⟨_,true,rfl,HLE2.out,⟨_,_,_,rfl⟩,by rw[if_pos rfl];exact⟨kvs,HX.out,HP2.out,HK2.out⟩⟩
  ·rw[decide_eq_false (show ¬l[0]=UInt8.ofNat 59 from c1)]at b1;have b1:((l[0].toNat:Int) != 59)=true:=b1;have HX:Hid (C7 l=none):=Hi (by
    unfold C7;rw[if_neg he,if_neg (by rw[hh];simpa using c1)])
   clear c1 hh he;generalize(l[0].toNat:Int)=x at d1 b1;go_enter Tryz.func85,Tryz.ntmps85;go_wp2
   go_ret2
   exact⟨_,false,rfl,AC w,⟨_,_,_,rfl⟩,by rw[if_neg (by simp)];exact HX.out⟩
theorem Nj(c:UInt8):Iz c= !Hf (bs ⟨#[59,63,44,34,32]⟩) c:=by
 have h3:Hf (bs ⟨#[59,63,44,34,32]⟩) c=(c==59||(c==63||(c==44||(c==34||(c==32||false))))):=rfl;rw[h3];unfold Iz;cases h1:(c==59)<;>cases h2:(c==63)<;>cases h3:(c==44)<;>cases h4:(c==34)<;>cases h5:(c==32)<;>simp[bne,h1,h2,h3,h4,h5]
def Ma(s:SA)(w:World)(e:Ending)(w':World):Prop:=
 ∃(nv pv:Value) (x:UV) (kd:Int),e= .returned (.tuple #[nv,x.val,pv,.int .i64 kd])∧Le w w'∧x.row.all (·.oneCell')=true∧
  match s with
  | .open_=>kd= -2∧x=UV.nil∧nv= .slice none 0 0∧pv= .slice none 0 0
  | .val n u kvs=>kd=0∧Bv w' nv n∧Ux w.heap.size w' x u∧Kq (fun _=>True) w' pv kvs∧∀g,pv.ownBlock=some g→w.heap.size≤g
theorem Gb{fn:Func}{p u x y:Tmp}{ty:TypeId}(h:fn.results= #[.tmp u,.cell p ty,.tmp x,.tmp y])(tmps:Array Value)(P:Program)(w:World):
 (results fn tmps).run P w=((asAddr (tmps.getD p undef)).run P w).andThen fun a w'=>((loadVar ty a).run P w').andThen fun v w''=> .ok (.tuple #[tmps.getD u undef,v,tmps.getD x undef,tmps.getD y undef]) w'':=by
 simp only[results,h];simp[Sem.run_bind,Result.andThen]
theorem BV{W:World}{b:Nat}{row:Array Value}{a:Act}{nv pv:Value}{kd:Int}{fn:Func}(hf:fn.results= #[.tmp 2,.cell 3 35,.tmp 4,.tmp 5])(h:W.heap[b]? =some (.cells row 35 (0,0)))
 (h2:a.tmps.getD 2 undef=nv)(h3:a.tmps.getD 3 undef= .pointer (some ⟨b,0,none⟩))(h4:a.tmps.getD 4 undef=pv)(h5:a.tmps.getD 5 undef= .int .i64 kd)(hs:row.size=10:=by rfl):
 (results fn a.tmps).run Tryz.prog W= .ok (.tuple #[nv,.agg row,pv,.int .i64 kd]) W:=by
 rw[Gb hf,h2,h3,h4,h5];simp only[asAddr,Sem.run_pure,Result.andThen_ok,run_loadVar_row W _ _ _ _ _ _ h Tryz.underlying35 rfl (by rw[hs];exact AI)]
theorem Ux.base{b b':Nat}{w:World}{x:UV}{u:PU}(h:Ux b w x u)(k:b'≤b):Ux b' w x u:=⟨h.toUq,fun g e=>Nat.le_trans k (h.op g e),fun g e=>Nat.le_trans k (h.oh g e)⟩
theorem KT(j:Nat)(v:Value)(h:Ai[j]? =some v):v= .slice none 0 0∨v= .bool false∨v= .int .i64 0:=by
 unfold Ai at h;rcases j with _|_|_|_|_|_|_|_|_|_|j<;>simp at h<;>simp[←h]
theorem Bv.keepZ{w w':World}{b:Nat}{v:Value}{l:Tx}(h:Bv w v l)(hb:w.heap[b]? =some (.cells Ai 35 (0,0)))(k:∀g,g≠b→g<w.heap.size→w'.heap[g]? =w.heap[g]?):Bv w' v l:=by
 obtain⟨A,c,rfl,h1,h2,h3,h4⟩:=h;refine⟨A,c,rfl,h1,h2,h3,fun hn=>?_⟩;obtain⟨g,o,rfl,hc⟩:=h4 hn;refine⟨g,o,rfl,fun j hj=>?_⟩;have h0:=hc j hj;refine(World.cell?_of_block (a:=⟨g,o+j,none⟩) (k g ?_ (Az h0))).trans h0;rintro rfl;rw[AB hb]at h0;rcases KT _ _ h0 with e|e|e<;>cases e
theorem Bq.keepZ{w w':World}{b:Nat}{v:Value}{l:Tx}(h:Bq (fun _=>True) w v l)(hb:w.heap[b]? =some (.cells Ai 35 (0,0)))(k:∀g,g≠b→g<w.heap.size→w'.heap[g]? =w.heap[g]?):Bq (fun _=>True) w' v l:=
 ⟨h.1.keepZ hb k,h.2⟩
theorem Kq.keepZ{w w':World}{b:Nat}{v:Value}{l:KVs}(h:Kq (fun _=>True) w v l)(hb:w.heap[b]? =some (.cells Ai 35 (0,0)))(k:∀g,g≠b→g<w.heap.size→w'.heap[g]? =w.heap[g]?)(hk:∀x∈l,x.1≠[]):Kq (fun _=>True) w' v l:=by
 obtain⟨A,c,e,h1,h2,h3,h4⟩:=h;refine⟨A,c,e,h1,h2,h3,fun hn=>?_⟩;obtain⟨g,o,e,hg,hc⟩:=h4 hn;have hgb:g≠b:=by
  rintro rfl;obtain⟨x,y,hx,hy,hx2,hy2⟩:=hc 0 hn;rw[AB hb]at hx;have hne:=hk l[0] (List.getElem_mem hn);obtain⟨A,c,rfl,_⟩:=hx2.1;rcases KT _ _ hx with e|e|e
  ·injection e with _ e;exact hne (List.eq_nil_of_length_eq_zero e)
  ·cases e
  ·cases e
 refine⟨g,o,e,hg,fun j hj=>?_⟩;obtain⟨x,y,hx,hy,hx2,hy2⟩:=hc j hj;have hk:=k g hgb (Az hx);exact⟨x,y,(World.cell?_of_block (a:=⟨g,o+j*2,none⟩) hk).trans hx,(World.cell?_of_block (a:=⟨g,o+j*2+1,none⟩) hk).trans hy,hx2.keepZ hb k,hy2.keepZ hb k⟩
theorem Uq.keepZ{w w':World}{b:Nat}{x:UV}{u:PU}(h:Uq (fun _=>True) w x u)(hb:w.heap[b]? =some (.cells Ai 35 (0,0)))(k:∀g,g≠b→g<w.heap.size→w'.heap[g]? =w.heap[g]?)(hp:∀x∈u.ps,x.1≠[])(hh:∀x∈u.hs,x.1≠[]):Uq (fun _=>True) w' x u:=
 ⟨h.scheme.keepZ hb k,h.raw.keepZ hb k,h.wild,h.slash,h.user.keepZ hb k,h.pass.keepZ hb k,h.host.keepZ hb k,h.port,h.ps.keepZ hb k hp,h.hs.keepZ hb k hh⟩
theorem Ej{l:Tx}{sp:UInt8}{s:Tx}{kvs:KVs}(h:BB l sp s=some kvs):∀x∈kvs,x.1≠[]:=by
 unfold BB at h;split at h
 ·rename_i hc
  injection h with h;subst h
  simp only[Bool.and_eq_true,List.all_eq_true]at hc;intro x hx;obtain⟨p,hp,rfl⟩:=List.mem_map.1 hx;have:=hc.1 p hp;unfold IV at this;simp only[Bool.and_eq_true,Bool.not_eq_true',List.isEmpty_eq_false_iff]at this;exact this.1.1.2
 ·cases h
theorem EE{l:Tx}{u:PU}(h:By l= .val u):(∀x∈u.ps,x.1≠[])∧∀x∈u.hs,x.1≠[]:=by
 have hS:∀sc r,SR.of (Ac sc r)= .val u→(∀x∈u.ps,x.1≠[])∧∀x∈u.hs,x.1≠[]:=by
  intro sc r h;unfold Ac at h;split at h
  ·cases h
  ·split at h
   ·cases h
   ·rename_i hs s1 h1
    split at h
    ·cases h
    ·rename_i ps s2 h2
     split at h
     ·cases h
     ·injection h with h;subst h
      constructor
      ·unfold Bh at h2;split at h2
       ·split at h2
        ·rename_i hqq
         split at h2
         ·cases h2
         ·injection h2 with h2;injection h2 with h2;subst h2;exact Ej hqq
        ·cases h2
       ·injection h2 with h2;injection h2 with h2;subst h2;simp
      ·unfold Bz at h1;split at h1
       ·split at h1
        ·rename_i hqq
         split at h1
         ·injection h1 with h1;injection h1 with h1;subst h1;exact Ej hqq
         ·cases h1
        ·cases h1
       ·injection h1 with h1;injection h1 with h1;subst h1;simp
 unfold By at h;split at h
 ·cases h
 ·split at h
  ·injection h with h;subst h;simp[PU.zero]
  ·dsimp only at h;split at h
   ·split at h
    ·split at h
     ·injection h with h;subst h;simp[PU.zero]
     ·cases h
    ·split at h
     ·cases h
     ·split at h
      ·cases h
      ·exact hS _ _ h
   ·cases h
def baS(b c:Nat)(row:Array Value):Nat→Value→World→Prop
 |2,v,_=>v= .slice none 0 0
 |3,v,_=>v= .pointer (some ⟨b,0,none⟩)
 |4,v,_=>v= .slice none 0 0
 |5,v,_=>v= .int .i64 0
 |7,v,_=>v= .pointer (some ⟨c,0,none⟩)
 |33,v,_=>v= .agg row
 |_,_,_=>True
theorem P5(b c:Nat)(row:Array Value)(t:Nat)(v:Value)(w w':World)(h:baS b c row t v w):baS b c row t v w':=by
 unfold baS at h⊢;split at h<;>exact h
def baG(w0:World)(b c:Nat)(row:Array Value)(w:World):Prop:=
 Kp b w0 w∧w.heap[c]? =some (.cells row 35 (0,0))∧∃cs,cs.size=10∧w.heap[b]? =some (.cells cs 35 (0,0))
theorem RS(v:Value)(l:Tx)(w:World)(hv:Bv w v l)(hl:l.length≤1099511627000):
 Calls Tryz.prog 82 #[v] w (Ma (Dy l) w):=by
 have HV:=Hi hv;obtain⟨A,cc,rfl,h1,h2,h4⟩:=hv;have h3:=h4.1;go_enter Tryz.func82,Tryz.ntmps82;go_wp2;have HPB:Hid (PB w (w.alloc (Obj.cells Ai 35))):=Hi ⟨(AC w).alloc _,heap_alloc_new w _⟩;have hzr:Ai= #[(.slice none 0 0),(.slice none 0 0),.bool false,.bool false,(.slice none 0 0),(.slice none 0 0),(.slice none 0 0),.int .i64 0,(.slice none 0 0),(.slice none 0 0)]:=rfl
 rw[hzr]at HPB;generalize w.alloc (Obj.cells #[(.slice none 0 0),(.slice none 0 0),.bool false,.bool false,(.slice none 0 0),(.slice none 0 0),(.slice none 0 0),.int .i64 0,(.slice none 0 0),(.slice none 0 0)] 35)=W0 at HPB⊢;clear hzr;have HR:=Hi (h4.le HPB.out.1);clear h4
 go_loop [6] (fun i=>∃k:Nat,k≤l.length∧i= .int .i64 k∧(l.take k).all Iz=true) (fun i=>l.length-(intOf i).toNat)
 case atStart=>exact⟨0,Nat.zero_le _,rfl,rfl⟩
 case round=>
  obtain⟨k,hk,rfl,hqq⟩:=hrel;have HQ:=Hi hqq;clear hqq;by_cases hlt:k<l.length
  ·obtain⟨b,o,rfl,d1⟩:=HR.out.at_ hlt;have ci:=Ha l[k] ⟨#[59,63,44,34,32]⟩ W0 (by decide);have HPC:=Hi (Nj l[k]);rcases hp:Iz l[k]with _|_
   ·have HX:Hid (Dy l= .open_):=Hi (by unfold Dy;rw[if_neg (by rw[Bool.not_eq_true];exact List.all_eq_false.2 ⟨l[k],List.getElem_mem hlt,by rw[hp];simp⟩)]);have hp2:Hf (bs ⟨#[59,63,44,34,32]⟩) l[k]=true:=by have:=HPC.out;rw[hp]at this;simpa using this.symm
    have CI:=Hi (AW ci hp2);clear ci hp hp2 HPC;generalize(l[k].toNat:Int)=x at d1 CI;go_wp2_with (first|(go_at_call 57;refine CI.out.mono ?_;rintro e w' ⟨rfl,rfl⟩)|refine AH rfl 35 rfl (some 20) rfl Ai Af ?_ |refine AD rfl 35 (.tmp 3) (.tmp 20) rfl w.heap.size Ai rfl rfl 35 Ai HPB.out.2 AI rfl AP ?_)
    intro WZ hz hkz;have HLZ:Hid (Le w WZ):=Hi (Below.trans HPB.out.1 (hkz.below (NL _) HPB.out.1.size));have HZ:=Hi hz;clear hz hkz;go_wp2;refine bodyPost_ret (v:= .tuple #[.slice none 0 0,UV.nil.val,.slice none 0 0,.int .i64 (-2)]) ?_ rfl ⟨_,_,UV.nil,_,rfl,HLZ.out,AP,by rw[HX.out];exact⟨rfl,rfl,rfl,rfl⟩⟩;exact BV rfl HZ.out rfl rfl rfl rfl
   ·have HX:Hid ((l.take (k+1)).all Iz=true):=Hi (by rw[List.take_succ_eq_append_getElem hlt,List.all_append,HQ.out];simpa using hp);have hp2:Hf (bs ⟨#[59,63,44,34,32]⟩) l[k]=false:=by have:=HPC.out;rw[hp]at this;simpa using this.symm
    have CI:=Hi (AW ci hp2);clear ci hp hp2 HPC;generalize(l[k].toNat:Int)=x at d1 CI;go_wp2_with (go_at_call 57;refine CI.out.mono ?_;rintro e w' ⟨rfl,rfl⟩)
    go_round
    case rel=>exact⟨k+1,by omega,by go_num,HX.out⟩
    case measure=>simp[intOf];omega
  ·have HA:Hid (l.all Iz=true):=Hi (by
    have h1:=HQ.out;rw[List.take_of_length_le (by omega)]at h1;exact h1)
   have HS:Hid (Dy l=(match By l with| .val u=>if u.wild=true then .open_ else .val [] u []|_=> .open_)):=Hi (by
    unfold Dy;rw[if_pos HA.out];rfl)
   go_wp2_with fail
   refine(IK _ l W0 (HV.out.le HPB.out.1) hl).mono ?_;rintro e w1 ⟨x,kd,rfl,hle1,hone,hm⟩;have hsz0:=HPB.out.1.size;have HM:=Hi hm;have HONE:=Hi hone;have HPB1:=Hi (HPB.out.to hle1);have HLE1:=Hi hle1;clear hle1 hm hone HPB
   go_upto_region 7 with(first|refine AD rfl 35 (.tmp 7) (.tmp 24) rfl w1.heap.size x.row rfl rfl 35 Ai (heap_alloc_new w1 _) AI rfl HONE.out ?_)
   intro W2 hz2 hk2;have hle2:Le w1 W2:=Below.trans ((AC w1).alloc _) (hk2.below (NL _) ((AC w1).alloc _).size);have HPB2:=Hi (HPB1.out.to hle2);have HLE2:=Hi hle2;have HZ2:=Hi hz2;have g2:W2.cell? ⟨w1.heap.size,2,none⟩=some (.bool x.wild):=AB hz2 2;clear hz2 hk2 hle2;by_cases hk0:kd=0
   ·subst hk0;obtain⟨u,hu,hx⟩:∃u,By l= .val u∧Ux w.heap.size w1 x u:=by
     have h:=HM.out;rcases hs:By l with _|_|u;all_goals (rw[hs]at h;first|exact⟨_,rfl,h.2.base hsz0⟩|(exfalso;simp at h))
    have HSU:Hid (Dy l=if u.wild=true then .open_ else .val [] u []):=Hi (by rw[HS.out,hu]);have HU:=Hi hx.toUq;have HXO:=Hi (And.intro hx.op hx.oh);have HKEY:=Hi (EE hu);rw[hx.wild]at g2;rcases hw:u.wild with _|_
    ·rw[hw]at g2 HSU;clear hw hu hx;go_upto_region 9 with fail
     have hm:(Tryz.prog).follows .mixedOrders=true:=by kernel_rfl
     have hne:w1.heap.size≠w.heap.size:=by have:=AQ HPB1.out.2;omega
     refine Bk (baS w.heap.size w1.heap.size x.row) (fun _ W=>W.heap[w.heap.size]? =some (.cells x.row 35 (0,0))) (baG W2 w.heap.size w1.heap.size x.row) 34 hm (by kernel_rfl) rfl rfl ?hG ((List.range 34).filter fun t=> ![2,4,5,33].contains t) (by kernel_rfl) ?hold ?hs ?hend;case hG=>exact⟨(Kp.refl _ _).le (AC _).drew,HZ2.out,_,rfl,HPB2.out.2⟩
     case hold=>
      intro t ht;rw[show((List.range 34).filter fun t=> ![2,4,5,33].contains t)=[0,1,3,6,7,8,9,10,11,12,13,14,15,16,17,18,19,20,21,22,23,24,25,26,27,28,29,30,31,32]from by decide]at ht;simp only[List.mem_cons,List.mem_nil_iff,or_false]at ht
      (repeat' (rcases ht with rfl|ht))<;>first|exact trivial|rfl|(subst ht;exact trivial)
     case hs=>
      refine⟨?_,?_,?_,?_,?_,trivial⟩
      ·refine AA fun a W hg hop=>?_;have h1:_=_:=hq hop 7;refine⟨_,?_,rfl⟩;have hs:=Bc (P:=Tryz.prog) hg.2.1 Tryz.underlying35 rfl AI;simp only[execOp,h1,hs,Sem.run_bind,Sem.run_pure,Result.andThen,Sem.run_map]
      ·refine AA fun a W hg hop=>?_;refine⟨_,?_,rfl⟩;simp only[execOp];go_simp
      ·refine GrowStep.store ?_ rfl;intro a W hg hop;have h1:_=_:=hq hop 3;have h2:_=_:=hq hop 33;obtain⟨h3,h4,cs,h5,h6⟩:=hg;refine⟨W.setRow w.heap.size x.row,?_,⟨h3.trans (Bd W _ _),(setRow_other W _ _ _ hne).trans h4,x.row,rfl,setRow_heap W _ _ _ _ _ h6⟩,fun t v hv=>P5 _ _ _ t v W _ hv,fun j _ _=>setRow_heap W _ _ _ _ _ h6,setRow_heap W _ _ _ _ _ h6⟩
       have hs:=run_storeVar_row (P:=Tryz.prog) W w.heap.size 35 35 cs x.row h6 AI h5 HONE.out;simp only[execOp,h1,h2,Instr.storeAt,Instr.sureAddr,Sem.run_bind,Sem.run_pure,Result.andThen];rw[hs]
      ·refine AA fun a W hg hop=>?_;refine⟨_,?_,rfl⟩;simp only[execOp];go_simp
      ·refine AA fun a W hg hop=>?_;refine⟨_,?_,rfl⟩;simp only[execOp];go_simp
     case hend=>
      intro a' w' hg hd hn hS hZ;have hz:=hZ 2 _ rfl rfl;have h2:a'.eval (.tmp 2)= .slice none 0 0:=hS 2 (by decide);have h3:a'.eval (.tmp 3)= .pointer (some ⟨w.heap.size,0,none⟩):=hS 3 (by decide);have h4:a'.eval (.tmp 4)= .slice none 0 0:=hS 4 (by decide);have h5:a'.eval (.tmp 5)= .int .i64 0:=hS 5 (by decide);have HG:=Hi hg;clear hS hZ hg;go_wp2
      refine bodyPost_ret (v:= .tuple #[.slice none 0 0,x.val,.slice none 0 0,.int .i64 0]) (BV rfl hz h2 h3 h4 h5) hd ⟨_,_,x,_,rfl,Below.trans HPB2.out.1 (HG.out.1.below (NL _) HPB2.out.1.size),HONE.out,?_⟩;rw[HSU.out]
      exact⟨rfl,Bv.nil _,⟨(HU.out.le HLE2.out).keepZ HPB2.out.2 (fun g hne hg=>HG.out.1.block g hg (fun e=>hne (by injection e))) HKEY.out.1 HKEY.out.2,HXO.out.1,HXO.out.2⟩,Kq.nil _ _,(fun g e=>by cases e)⟩
    ·rw[hw]at g2 HSU;have HX:Hid (Dy l= .open_):=Hi (by rw[HSU.out];rfl);clear hw hu hx;go_wp2_with (first|refine AH rfl 35 rfl (some 32) rfl Ai Af ?_ |refine AD rfl 35 (.tmp 3) (.tmp 32) rfl w.heap.size Ai rfl rfl 35 Ai HPB2.out.2 AI rfl AP ?_)
     intro WZ hz hkz;have HLZ:Hid (Le w WZ):=Hi (Below.trans HPB2.out.1 (hkz.below (NL _) HPB2.out.1.size));have HZ:=Hi hz;clear hz hkz;go_wp2;refine bodyPost_ret (v:= .tuple #[.slice none 0 0,UV.nil.val,.slice none 0 0,.int .i64 (-2)]) ?_ rfl ⟨_,_,UV.nil,_,rfl,HLZ.out,AP,by rw[HX.out];exact⟨rfl,rfl,rfl,rfl⟩⟩;exact BV rfl HZ.out rfl rfl rfl rfl
   ·have HX:Hid (Dy l= .open_):=Hi (by
     rw[HS.out];have h:=HM.out;rcases hs:By l with _|_|u;all_goals (simp only[hs]at h;first|rfl|exact(hk0 h.1).elim))
    have hkb:(kd != 0)=true:=by simpa using hk0
    clear hk0;go_wp2_with (first|refine AH rfl 35 rfl (some 32) rfl Ai Af ?_ |refine AD rfl 35 (.tmp 3) (.tmp 32) rfl w.heap.size Ai rfl rfl 35 Ai HPB2.out.2 AI rfl AP ?_)
    intro WZ hz hkz;have HLZ:Hid (Le w WZ):=Hi (Below.trans HPB2.out.1 (hkz.below (NL _) HPB2.out.1.size));have HZ:=Hi hz;clear hz hkz;go_wp2;refine bodyPost_ret (v:= .tuple #[.slice none 0 0,UV.nil.val,.slice none 0 0,.int .i64 (-2)]) ?_ rfl ⟨_,_,UV.nil,_,rfl,HLZ.out,AP,by rw[HX.out];exact⟨rfl,rfl,rfl,rfl⟩⟩;exact BV rfl HZ.out rfl rfl rfl rfl
end Go.Proofs.YtejhpdcjafbklaaGreatDoor
