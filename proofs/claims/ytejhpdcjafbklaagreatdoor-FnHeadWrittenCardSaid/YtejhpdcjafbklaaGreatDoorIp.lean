/- The law FnHeadWritten: Ip. -/
import Derived.StillTailTactics
import Derived.Laws.BitsAllLaws
import Derived.Great.BuildSlice
import Derived.Test.YtejhpdcjafbklaaGreatDoorPar
set_option linter.all false
set_option maxHeartbeats 8000000
set_option maxRecDepth 8000
namespace Go.Proofs.YtejhpdcjafbklaaGreatDoor
open Go.RowKit
theorem J6(w:World)(g:Nat)(cs:Array Value):Kp g w (w.setRow g cs):=⟨rfl,rfl,rfl,by simp,fun k _ hb=>setRow_other w g k cs (fun e=>hb (by rw[e]))⟩
theorem Ag{P:Program}{ops:Array Oper}{rest:List Oper}{o:Oper}{a:Act}{w:World}{Q:Exit→Act→World→Prop}(hgd:o.guard=none)(ty:TypeId)(x y:Operand)(ho:o.op= .store ty x y)
 (g:Nat)(cells:Array Value)(hx:a.eval x= .pointer (some ⟨g,0,none⟩))(hy:a.eval y= .agg cells)
 (t:TypeId)(old:Array Value)(hg:w.heap[g]? =some (.cells old t (0,0)))(hi:(P.info? ty).map (·.size)=some cells.size)
 (hold:old.size=cells.size)(h1:cells.all (·.oneCell')=true)
 (h:∀w',w'.heap[g]? =some (.cells cells t (0,0))→Kp g w w'→wpList P ops Q rest (a.put o.dst undef) w'):wpList P ops Q (o::rest) a w:=
 wpList_store_row hgd ty x y ho g cells hx hy t old hg hi hold h1 (h _ (setRow_heap w _ _ _ _ _ hg) (J6 w g cells))
theorem CV{P:Program}{ops:Array Oper}{rest:List Oper}{o:Oper}{a:Act}{w:World}{Q:Exit→Act→World→Prop}(hg:o.guard=none)(t:TypeId)(ho:o.op= .build t #[])(d:Option Tmp)(hd:o.dst=d)(cells:Array Value)(hf:P.built t []=some cells)
 (h:wpList P ops Q rest (a.put d (.agg cells)) w):wpList P ops Q (o::rest) a w:=
 wpList_buildTo hg t #[] ho d hd cells (by simpa using hf) h
def u8L(zs:List Int):Array Value:=(zs.map fun z=>Value.int .u8 z).toArray
theorem Dq{zs:List Int}{p:Nat}(h:p<zs.length):(u8L zs)[p]? =some (.int .u8 zs[p]):=by
 unfold u8L;simp[List.getElem?_map,List.getElem?_eq_getElem h]
theorem Kj(zs:List Int)(p:Nat)(z:Int):(u8L zs).setIfInBounds p (.int .u8 z)=u8L (zs.set p z):=by
 unfold u8L;rw[List.setIfInBounds_toArray,←List.map_set]
def F4(w:World)(b:Nat):Prop:=∃fs:List Int,fs.length=4∧(∀z∈fs,0≤z∧z≤255)∧w.heap[b]? =some (.cells (u8L fs) 247 (0,0))
theorem F4.cell{w:World}{b:Nat}(h:F4 w b){p:Nat}(hp:p<4):(∃z:Int,w.cell? ⟨b,p,none⟩=some (.int .u8 z))∧w.frozen? ⟨b,p,none⟩=false:=by
 obtain⟨fs,hl,hr,hb⟩:=h;exact⟨⟨_,(AB hb p).trans (Dq (by omega))⟩,AN hb p⟩
theorem F4.set{w:World}{b:Nat}(h:F4 w b){p:Nat}{z:Int}(h0:0≤z)(h1:z≤255):F4 (w.setCell ⟨b,p,none⟩ (.int .u8 z)) b:=by
 obtain⟨fs,hl,hr,hb⟩:=h;refine⟨fs.set p z,by simp[hl],fun x hx=>?_,?_⟩
 ·rcases List.mem_or_eq_of_mem_set hx with h|rfl
  ·exact hr x h
  ·exact⟨h0,h1⟩
 ·rw[←Kj];exact AX hb p _
theorem F4.le{w w':World}{b:Nat}(h:F4 w b)(k:Le w w'):F4 w' b:=by
 obtain⟨fs,hl,hr,hb⟩:=h;exact⟨fs,hl,hr,k.heap hb⟩
def V4P(b:Nat)(w:World)(e:Ending)(w':World):Prop:=Kp b w w'∧F4 w' b∧(e= .returned .nilIface∨∃T x,e= .returned (.iface T x))
theorem v4f_c(s:ByteArray)(w:World)(b:Nat)(hf:F4 w b)(hs:s.size≤1099511627776):
 Calls Tryz.prog 163 #[.string s,.int .i64 0,.int .i64 s.size,.slice (some ⟨b,0,none⟩) 4 4] w (V4P b w):=by
 have hsl:s.extract 0 s.size=s:=by rw[BM];exact FB s
 have HF:=Hi hf;clear hf;go_enter Tryz.func163,Tryz.ntmps163;go_wp2;clear hsl
 go_loopg [9,10,11,13] (s.size) (fun n v9 v10 v11 v13 wr=>∃(k pos:Nat) (val dl:Int),n+k=s.size∧v13= .int .i64 k∧v9= .int .i64 val∧v10= .int .i64 pos∧v11= .int .i64 dl∧0≤val∧val≤255∧pos≤3∧0≤dl∧dl≤k∧Kp b w wr∧F4 wr b)
 case atStart=>exact⟨0,0,0,0,by omega,rfl,rfl,rfl,rfl,by omega,by omega,by omega,by omega,by omega,Kp.refl b w,HF.out⟩
 case round=>
  obtain⟨k,pos,val,dl,hn,rfl,rfl,rfl,rfl,b1,b2,b3,b4,b5,hk,hf⟩:=hrel;have HK:=Hi hk;have HF2:=Hi hf;have HN:gk+k≤s.size∧s.size≤gk+k:=by omega
  have hlt0:k≤s.size:=by omega
  clear hn hk hf;by_cases hlt:k<s.size
  ·obtain⟨x,hx,hx0,hx1⟩:∃x:Int,((s[k]'hlt).toNat:Int)=x∧0≤x∧x≤255:=⟨_,rfl,by omega,by have:=(s[k]'hlt).toNat_lt;omega⟩;by_cases hd:48≤x∧x≤57
   ·obtain⟨hd1,hd2⟩:=hd;by_cases hdl:dl=1
    ·subst hdl;by_cases hv:val=0
     ·subst hv;go_wp2;go_ret;exact⟨HK.out,HF2.out,.inr ⟨_,_,rfl⟩⟩
     ·have hv':(val==0)=false:=by rw[beq_eq_false_iff_ne];exact hv
      by_cases hbig:255<val*10+x-48
      ·clear hv;go_wp2;go_ret;exact⟨HK.out,HF2.out,.inr ⟨_,_,rfl⟩⟩
      ·have hbig':val*10+x-48≤255:=by omega
       clear hv hbig;go_wp2;go_roundg (gk-1)
       case measure=>omega
       case rel=>exact⟨k+1,pos,val*10+x-48,2,by omega,by go_num,rfl,rfl,rfl,by omega,by omega,by omega,by omega,by omega,HK.out,HF2.out⟩
    ·have hdl':(dl==1)=false:=by rw[beq_eq_false_iff_ne];exact hdl
     by_cases hbig:255<val*10+x-48
     ·clear hdl;go_wp2;go_ret;exact⟨HK.out,HF2.out,.inr ⟨_,_,rfl⟩⟩
     ·have hbig':val*10+x-48≤255:=by omega
      clear hdl hbig;go_wp2;go_roundg (gk-1)
      case measure=>omega
      case rel=>exact⟨k+1,pos,val*10+x-48,dl+1,by omega,by go_num,rfl,rfl,rfl,by omega,by omega,by omega,by omega,by omega,HK.out,HF2.out⟩
   ·by_cases hp:x=46
    ·have e46:(x==46)=true:=by rw[hp];rfl
     have l48:x<48:=by omega
     clear hd;by_cases hk0:k=0
     ·subst hk0;clear hp;go_wp2;go_ret;exact⟨HK.out,HF2.out,.inr ⟨_,_,rfl⟩⟩
     ·have hk0':((k:Int)==0)=false:=by rw[beq_eq_false_iff_ne];omega
      by_cases hke:(k:Int)=(s.size:Int)-1
      ·have hke':((k:Int)==(s.size:Int)-1)=true:=by rw[beq_iff_eq];exact hke
       clear hke hp hk0;go_wp2;go_ret;exact⟨HK.out,HF2.out,.inr ⟨_,_,rfl⟩⟩
      ·have hke':((k:Int)==(s.size:Int)-1)=false:=by rw[beq_eq_false_iff_ne];exact hke
       have hkm:k-1<s.size:=by omega
       have hk1:1≤(k:Int):=by omega
       obtain⟨y,hy⟩:∃y:Int,((s[k-1]'hkm).toNat:Int)=y:=⟨_,rfl⟩;by_cases hy46:y=46
       ·have ey:(y==46)=true:=by rw[hy46];rfl
        clear hy46 hke hp hk0;go_wp2;go_ret;exact⟨HK.out,HF2.out,.inr ⟨_,_,rfl⟩⟩
       ·have ey:(y==46)=false:=by rw[beq_eq_false_iff_ne];exact hy46
        by_cases hp3:pos=3
        ·subst hp3;clear hy46 hke hp hk0;go_wp2;go_ret;exact⟨HK.out,HF2.out,.inr ⟨_,_,rfl⟩⟩
        ·have hp3':((pos:Int)==3)=false:=by rw[beq_eq_false_iff_ne];omega
         have hp4:pos<4:=by omega
         obtain⟨⟨z,hz⟩,hfz⟩:=HF2.out.cell hp4;have hw:IntKind.u8.wrap val=val:=IntWalk.u8_in _ (by omega);have HSET:=Hi (HF2.out.set (p:=pos) b1 b2);have HKS:=Hi (HK.out.set pos (.int .u8 val));clear hy46 hke hp hk0;go_wp2;go_roundg (gk-1)
         case measure=>omega
         case rel=>exact⟨k+1,pos+1,0,0,by omega,by go_num,rfl,by go_num,rfl,by omega,by omega,by omega,by omega,by omega,HKS.out,HSET.out⟩
    ·have e46:(x==46)=false:=by rw[beq_eq_false_iff_ne];exact hp
     clear hp;by_cases hx48:x<48
     ·clear hd;go_wp2;go_ret;exact⟨HK.out,HF2.out,.inr ⟨_,_,rfl⟩⟩
     ·have h48:48≤x:=by omega
      have h57:57<x:=by omega
      clear hd hx48;go_wp2;go_ret;exact⟨HK.out,HF2.out,.inr ⟨_,_,rfl⟩⟩
  ·by_cases hp3:pos<3
   ·have hp3':(pos:Int)<3:=by omega
    go_wp2;go_ret;exact⟨HK.out,HF2.out,.inr ⟨_,_,rfl⟩⟩
   ·have hp3':(3:Int)≤pos:=by omega
    obtain⟨⟨z,hz⟩,hfz⟩:=HF2.out.cell (p:=3) (by omega);have hw:IntKind.u8.wrap val=val:=IntWalk.u8_in _ (by omega);have HSET:=Hi (HF2.out.set (p:=3) b1 b2);have HKS:=Hi (HK.out.set 3 (.int .u8 val));clear hp3;go_wp2;go_ret;exact⟨HKS.out,HSET.out,.inl rfl⟩
end Go.Proofs.YtejhpdcjafbklaaGreatDoor
namespace Go.Proofs.YtejhpdcjafbklaaGreatDoor
open Go.RowKit
def v4X(a b c d:Int):Int:=bits .or .u64 (bits .or .u64 (bits .or .u64 (bits .or .u64 281470681743360 (a*16777216)) (b*65536)) (c*256)) d
def V4N(X:Int):Prop:=∃N:Nat,X=N∧N<281474976710656∧N/4294967296=65535
theorem FK(x y:Nat):(x ||| y)/4294967296=x/4294967296 ||| y/4294967296:=by
 have h:∀z:Nat,z/4294967296=z >>> 32:=fun z=>by rw[Nat.shiftRight_eq_div_pow]
 rw[h,h,h,Nat.shiftRight_or_distrib]
theorem QN{a b c d:Int}(ha:0≤a∧a≤255)(hb:0≤b∧b≤255)(hc:0≤c∧c≤255)(hd:0≤d∧d≤255):V4N (v4X a b c d):=by
 obtain⟨A,rfl⟩:=Int.eq_ofNat_of_zero_le ha.1;obtain⟨B,rfl⟩:=Int.eq_ofNat_of_zero_le hb.1;obtain⟨C,rfl⟩:=Int.eq_ofNat_of_zero_le hc.1;obtain⟨D,rfl⟩:=Int.eq_ofNat_of_zero_le hd.1;have hA:A≤255:=by omega
 have hB:B≤255:=by omega
 have hC:C≤255:=by omega
 have hD:D≤255:=by omega
 have k:∀x y:Nat,x<281474976710656→y<281474976710656→x ||| y<281474976710656:=fun x y hx hy=>Nat.or_lt_two_pow (n:=48) hx hy;have k1:=k 281470681743360 (A*16777216) (by omega) (by omega);have k2:=k _ (B*65536) k1 (by omega);have k3:=k _ (C*256) k2 (by omega);have k4:=k _ D k3 (by omega);refine⟨((281470681743360 ||| A*16777216) ||| B*65536) ||| C*256 ||| D,?_,k4,?_⟩
 ·unfold v4X
  rw[show((A:Int)*16777216)=((A*16777216:Nat):Int)by omega,show((B:Int)*65536)=((B*65536:Nat):Int)by omega,show((C:Int)*256)=((C*256:Nat):Int)by omega,
   show(281470681743360:Int)=((281470681743360:Nat):Int)from rfl,u64_or_nat _ _ (by omega) (by omega),u64_or_nat _ _ (by omega) (by omega),u64_or_nat _ _ (by omega) (by omega),u64_or_nat _ _ (by omega) (by omega)]
 ·rw[FK,FK,FK,FK,show A*16777216/4294967296=0 by omega,show B*65536/4294967296=0 by omega,show C*256/4294967296=0 by omega,show D/4294967296=0 by omega];rfl
theorem Cc:((Tryz.prog).info? 225).map (·.size)=some 3:=by kernel_rfl
theorem Nb:((Tryz.prog).info? 235).map (·.size)=some 2:=by kernel_rfl
theorem Py:((Tryz.prog).info? 247).map (·.size)=some 4:=by kernel_rfl
theorem D4:((Tryz.prog).info? 210).map (·.size)=some 16:=by kernel_rfl
def F8:Array Value:= #[.int .u64 0,.int .u64 0,.pointer none]
theorem FJ:F8.all (·.oneCell')=true:=by unfold F8;simp only[List.all_toArray,List.all_cons,List.all_nil];rfl
theorem Ed:(Tryz.prog).built 225 []=some F8:=by kernel_rfl
def KJ(R:Array Value)(ev:Value)(w:World):Prop:=
 (R=F8∧∃T y,ev= .iface T y)∨(ev= .nilIface∧∃X b o,R= #[.int .u64 0,.int .u64 X,.pointer (some ⟨b,o,none⟩)]∧V4N X∧w.cell? ⟨8,0,none⟩=some (.pointer (some ⟨b,o,none⟩)))
theorem KJ.le{R:Array Value}{ev:Value}{w w':World}(h:KJ R ev w)(k:Le w w'):KJ R ev w':=by
 rcases h with h|⟨h1,X,b,o,h2,h3,h4⟩
 ·exact .inl h
 ·exact .inr ⟨h1,X,b,o,h2,h3,k.cell h4⟩
theorem KJ.size{R:Array Value}{ev:Value}{w:World}(h:KJ R ev w):R.size=3:=by
 rcases h with⟨rfl,_⟩|⟨_,X,b,o,rfl,_⟩<;>rfl
theorem KJ.one{R:Array Value}{ev:Value}{w:World}(h:KJ R ev w):R.all (·.oneCell')=true:=by
 rcases h with⟨rfl,_⟩|⟨_,X,b,o,rfl,_⟩
 ·exact FJ
 ·simp only[List.all_toArray,List.all_cons,List.all_nil];rfl
theorem NZ{w:World}{b:Nat}(h:F4 w b):∃x0 x1 x2 x3:Int,(0≤x0∧x0≤255)∧(0≤x1∧x1≤255)∧(0≤x2∧x2≤255)∧(0≤x3∧x3≤255)∧w.heap[b]? =some (.cells #[.int .u8 x0,.int .u8 x1,.int .u8 x2,.int .u8 x3] 247 (0,0)):=by
 obtain⟨fs,hl,hr,hb⟩:=h
 match fs,hl with
 |[x0,x1,x2,x3],_=>exact⟨x0,x1,x2,x3,hr _ (by simp),hr _ (by simp),hr _ (by simp),hr _ (by simp),hb⟩
theorem Px(w:World)(a b c d:Int)(b4 o4:Nat)(ha:0≤a∧a≤255)(hb:0≤b∧b≤255)(hc:0≤c∧c≤255)(hd:0≤d∧d≤255)(h8:w.cell? ⟨8,0,none⟩=some (.pointer (some ⟨b4,o4,none⟩))):
 Calls Tryz.prog 164 #[.agg #[.int .u8 a,.int .u8 b,.int .u8 c,.int .u8 d]] w fun e w'=>e= .returned (.agg #[.int .u64 0,.int .u64 (v4X a b c d),.pointer (some ⟨b4,o4,none⟩)])∧Le w w':=by
 obtain⟨a1,a2⟩:=ha;obtain⟨b1,b2⟩:=hb;obtain⟨c1,c2⟩:=hc;obtain⟨d1,d2⟩:=hd;have h8l:=Az h8;go_enter Tryz.func164,Tryz.ntmps164;go_wp2;refine bodyPost_ret (results_cell_row rfl _ _ (w.heap.size+1) 225 _ (0,0) _ rfl (heap_alloc2_new w _ _) Tryz.underlying225 rfl Cc) rfl ?_;exact⟨rfl,((AC w).alloc _).alloc _⟩
def V4R(w:World)(e:Ending)(w':World):Prop:=∃R ev,e= .returned (.tuple #[.agg R,ev])∧KJ R ev w'∧Le w w'
theorem Cv{F:Func}{W:World}{b:Nat}{R:Array Value}{a:Act}{ev:Value}(hF:F.results= #[.cell 2 225,.tmp 3])(hb:W.heap[b]? =some (.cells R 225 (0,0)))(hs:R.size=3)
 (h2:a.tmps.getD 2 undef= .pointer (some ⟨b,0,none⟩))(h3:a.tmps.getD 3 undef=ev):(results F a.tmps).run Tryz.prog W= .ok (.tuple #[.agg R,ev]) W:=by
 rw[results_cell_tmp hF,h2,h3];simp only[asAddr,Sem.run_pure,Result.andThen_ok,run_loadVar_row W _ _ _ _ _ _ hb Tryz.underlying225 rfl (by rw[hs];exact Cc)]
theorem v4_c(s:ByteArray)(w:World)(hs:s.size≤1099511627776)(hL:BW w):
 Calls Tryz.prog 151 #[.string s] w (V4R w):=by
 have HL:=Hi hL;clear hL;go_enter Tryz.func151,Tryz.ntmps151;go_wp2_with fail
 have hbl:∀o,((w.alloc (Obj.cells F8 225)).alloc o).heap[w.heap.size]? =some (Obj.cells F8 225):=fun o=>heap_alloc2_old w _ o;have hf0:F4 ((w.alloc (Obj.cells F8 225)).alloc (Obj.cells #[.int .u8 0,.int .u8 0,.int .u8 0,.int .u8 0] 247)) (w.heap.size+1):=⟨[0,0,0,0],rfl,by simp,heap_alloc2_new w _ _⟩
 have hw2:Le w ((w.alloc (Obj.cells F8 225)).alloc (Obj.cells #[.int .u8 0,.int .u8 0,.int .u8 0,.int .u8 0] 247)):=((AC w).alloc _).alloc _;refine(v4f_c s _ (w.heap.size+1) hf0 hs).mono ?_;rintro e w1 ⟨hk1,hf1,hor⟩;have HB1:Hid (w1.heap[w.heap.size]? =some (Obj.cells F8 225)):=Hi (hk1.heap (by omega) (hbl _))
 have HLE1:Hid (Le w w1):=Hi (Below.trans hw2 (hk1.below (by omega) hw2.size));have HF1:=Hi hf1;clear hbl hf0 hw2 hk1 hf1;rcases hor with rfl|⟨T,x,rfl⟩
 ·obtain⟨x0,x1,x2,x3,g0,g1,g2,g3,hb4⟩:=NZ HF1.out;obtain⟨bz,oz,hz,_,_⟩:=(HL.out.le HLE1.out).z4;have HB4:=Hi hb4;have HC:=Hi (Px w1 x0 x1 x2 x3 bz oz g0 g1 g2 g3 hz);have HZ:=Hi hz;have HX:=Hi (QN g0 g1 g2 g3);clear hb4 g0 g1 g2 g3 hz
  go_wp2_with (refine wpList_load_row rfl 247 (.tmp 4) rfl (w.heap.size+1) rfl 247 #[.int .u8 x0,.int .u8 x1,.int .u8 x2,.int .u8 x3] (0,0) _ HB4.out Tryz.underlying247 rfl Py ?_)
  refine HC.out.mono ?_;rintro e w3 ⟨rfl,hle3⟩;have HLE3:Hid (Le w w3):=Hi (Le.trans HLE1.out hle3);have HB3:=Hi (hle3.heap HB1.out);have HZ3:=Hi (hle3.cell HZ.out);clear hle3
  go_wp2_with (refine Ag rfl 225 (.tmp 2) (.tmp 15) rfl w.heap.size #[.int .u64 0,.int .u64 (v4X x0 x1 x2 x3),.pointer (some ⟨bz,oz,none⟩)] rfl rfl 225 F8 HB3.out Cc rfl (by simp only[List.all_toArray,List.all_cons,List.all_nil];rfl) ?_)
  intro w4 hz4 hk4;have HLE4:Hid (Le w w4):=Hi (Below.trans HLE3.out (hk4.below (NL _) HLE3.out.size));have hgz:8<w.heap.size:=by obtain⟨_,_,h,_⟩:=HL.out.z4;exact Az h
  have HZ4:Hid (w4.cell? ⟨8,0,none⟩=some (.pointer (some ⟨bz,oz,none⟩))):=Hi (by
   have hb:=hk4.block 8 (by have:=HLE3.out.size;omega) (by intro e;injection e with e;omega);exact(World.cell?_of_block (a:=⟨8,0,none⟩) hb).trans HZ3.out)
  have HBB:=Hi hz4;clear hz4 hk4 hgz;go_wp2
  (try simp only[Exit.inBlock,Exit.then])
  refine bodyPost_ret (Cv rfl HBB.out rfl rfl rfl) rfl ?_;exact⟨_,_,rfl,.inr ⟨rfl,_,bz,oz,rfl,HX.out,HZ4.out⟩,HLE4.out⟩
 ·go_wp2_with (first|(refine CV rfl 225 rfl (some 12) rfl F8 Ed ?_)|(refine Ag rfl 225 (.tmp 2) (.tmp 12) rfl w.heap.size F8 rfl rfl 225 F8 HB1.out Cc rfl FJ ?_))
  intro w4 hz4 hk4;have HLE4:Hid (Le w w4):=Hi (Below.trans HLE1.out (hk4.below (NL _) HLE1.out.size));have HBB:=Hi hz4;clear hz4 hk4;go_wp2
  (try simp only[Exit.inBlock,Exit.then])
  refine bodyPost_ret (Cv rfl HBB.out rfl rfl rfl) rfl ?_;exact⟨_,_,rfl,.inl ⟨rfl,T,x,rfl⟩,HLE4.out⟩
theorem PC(s:ByteArray)(w:World)(hn:∀k (h:k<s.size),s[k]'h≠58)(hs:s.size≤1099511627776)(hL:BW w):
 Calls Tryz.prog 143 #[.string s] w (V4R w):=by
 have HNO:=Hi hn;have HL:=Hi hL;clear hn hL;go_enter Tryz.func143,Tryz.ntmps143;go_wp2
 go_loopg [4] (s.size) (fun n i wr=>∃k:Nat,n+k=s.size∧i= .int .i64 k∧Le w wr∧wr.heap[w.heap.size]? =some (Obj.cells F8 225))
 case atStart=>exact⟨0,by omega,rfl,(AC w).alloc _,heap_alloc_new w _⟩
 case round=>
  obtain⟨k,hn,rfl,hle,hbk⟩:=hrel;have HLE:=Hi hle;have HBK:=Hi hbk;have HN:gk+k≤s.size∧s.size≤gk+k:=by omega
  clear hn hle hbk;by_cases hlt:k<s.size
  ·have hne:=HNO.out k hlt;have e58:(((s[k]'hlt).toNat:Int)==58)=false:=by
    simp only[beq_eq_false_iff_ne,ne_eq];intro h;exact hne (Dw (n:=58) h (by decide))
   clear hne;by_cases h46:((s[k]'hlt).toNat:Int)=46
   ·clear e58;go_wp2_with fail
    refine(v4_c s wr hs (HL.out.le HLE.out)).mono ?_;rintro e w2 ⟨R,ev,rfl,hR,hle2⟩;have HB2:=Hi (hle2.heap HBK.out);have HLE2:Hid (Le w w2):=Hi (Le.trans HLE.out hle2);have HR:=Hi hR;have hs3:=Hi hR.size;clear hR hle2
    go_wp2_with (refine Ag rfl 225 (.tmp 2) (.tmp 18) rfl w.heap.size R rfl rfl 225 F8 HB2.out (by rw[hs3.out];exact Cc) (by rw[hs3.out];rfl) HR.out.one ?_)
    intro w4 hz4 hk4;have HLE4:Hid (Le w w4):=Hi (Below.trans HLE2.out (hk4.below (NL _) HLE2.out.size));have HR4:Hid (KJ R ev w4):=Hi (by
     rcases HR.out with h|⟨h1,X,b,o,h2,h3,h4⟩
     ·exact .inl h
     ·refine .inr ⟨h1,X,b,o,h2,h3,?_⟩;have hgz:8<w.heap.size:=by obtain⟨_,_,h,_⟩:=HL.out.z4;exact Az h
      have hb:=hk4.block 8 (by have:=HLE2.out.size;omega) (by intro e;injection e with e;omega);exact(World.cell?_of_block (a:=⟨8,0,none⟩) hb).trans h4)
    have HBB:=Hi hz4;clear hz4 hk4;go_wp2
    (try simp only[Exit.inBlock,Exit.then])
    refine bodyPost_ret (Cv rfl HBB.out hs3.out rfl rfl) rfl ?_;exact⟨_,_,rfl,HR4.out,HLE4.out⟩
   ·have e46:(((s[k]'hlt).toNat:Int)==46)=false:=by simpa using h46
    clear h46;by_cases h37:((s[k]'hlt).toNat:Int)=37
    ·clear e58 e46;go_wp2_with (first|(refine CV rfl 225 rfl (some 28) rfl F8 Ed ?_)|(refine Ag rfl 225 (.tmp 2) (.tmp 28) rfl w.heap.size F8 rfl rfl 225 F8 HBK.out Cc rfl FJ ?_))
     intro w4 hz4 hk4;have HLE4:Hid (Le w w4):=Hi (Below.trans HLE.out (hk4.below (NL _) HLE.out.size));have HBB:=Hi hz4;clear hz4 hk4;go_wp2
     (try simp only[Exit.inBlock,Exit.then])
     refine bodyPost_ret (Cv rfl HBB.out rfl rfl rfl) rfl ?_;exact⟨_,_,rfl,.inl ⟨rfl,_,_,rfl⟩,HLE4.out⟩
    ·have e37:(((s[k]'hlt).toNat:Int)==37)=false:=by simpa using h37
     clear h37;go_wp2;go_roundg (gk-1)
     case measure=>omega
     case rel=>exact⟨k+1,by omega,by go_num,HLE.out,HBK.out⟩
  ·go_wp2_with (first|(refine CV rfl 225 rfl (some 32) rfl F8 Ed ?_)|(refine Ag rfl 225 (.tmp 2) (.tmp 32) rfl w.heap.size F8 rfl rfl 225 F8 HBK.out Cc rfl FJ ?_))
   intro w4 hz4 hk4;have HLE4:Hid (Le w w4):=Hi (Below.trans HLE.out (hk4.below (NL _) HLE.out.size));have HBB:=Hi hz4;clear hz4 hk4;go_wp2
   (try simp only[Exit.inBlock,Exit.then])
   refine bodyPost_ret (Cv rfl HBB.out rfl rfl rfl) rfl ?_;exact⟨_,_,rfl,.inl ⟨rfl,_,_,rfl⟩,HLE4.out⟩
theorem Fx{P:Program}{w:World}(d:Nat)(t:TypeId){e:TypeId}(h:P.underlying t=some (.pointer e))(a:Addr):(Op.equalIn (d+1) t (.pointer (some a)) (.pointer none)).run P w= .ok false w:=by
 simp[Op.equalIn,run_underlying h]
theorem OV(w:World)(b4 o4:Nat)(h1:w.cell? ⟨b4,o4,none⟩=some (.bool false))(h2:w.cell? ⟨b4,o4+1,none⟩=some (.string (st []))):
 Calls Tryz.prog 153 #[.agg #[.pointer (some ⟨b4,o4,none⟩)]] w fun e w'=>e= .returned (.agg #[.bool false,.string (st [])])∧Le w w':=by
 have h8l:=Az h1;go_enter Tryz.func153,Tryz.ntmps153;go_wp2;refine bodyPost_ret (results_cell_row rfl _ _ (w.heap.size+1) 235 _ (0,0) _ rfl (heap_alloc2_new w _ _) Tryz.underlying235 rfl Nb) rfl ?_;exact⟨rfl,((AC w).alloc _).alloc _⟩
theorem QH(w:World)(X:Int)(b4 o4:Nat)(h0:w.cell? ⟨4,0,none⟩=some (.pointer none))(h1:w.cell? ⟨b4,o4,none⟩=some (.bool false))(h2:w.cell? ⟨b4,o4+1,none⟩=some (.string (st []))):
 Calls Tryz.prog 144 #[.agg #[.int .u64 0,.int .u64 X,.pointer (some ⟨b4,o4,none⟩)]] w fun e w'=>e= .returned (.string (st []))∧Le w w':=by
 have h8l:=Az h1;have h8m:=Az h0;have heq:∀W,(Op.equalIn 9999 221 (.pointer (some ⟨b4,o4,none⟩)) (.pointer none)).run Tryz.prog W= .ok false W:=fun W=>Fx 9998 _ Tryz.underlying221 _;have HL1:Hid (Le w (w.alloc (Obj.cells #[.int .u64 0,.int .u64 X,.pointer (some ⟨b4,o4,none⟩)] 225))):=Hi ((AC w).alloc _)
 have HC:=Hi (OV _ b4 o4 (HL1.out.cell h1) (HL1.out.cell h2));have hfd:∀W:World,(Instr.field 235 (.agg #[.bool false,.string (st [])]) 1).run Tryz.prog W= .ok (.string (st [])) W:=fun _=>by kernel_rfl
 go_enter Tryz.func144,Tryz.ntmps144;go_wp2_with fail
 refine HC.out.mono ?_;rintro e w' ⟨rfl,hle⟩;have HLE:=Hi (Le.trans HL1.out hle);clear hle;go_wp2;go_ret;exact⟨rfl,HLE.out⟩
def Qc(zs:List Int)(o:Nat)(x:Int):List Int:=((((((((zs.set o (x/72057594037927936)).set (o+1) (x/281474976710656)).set (o+2) (x/1099511627776)).set (o+3) (x/4294967296%256)).set (o+4) (x/16777216%256)).set (o+5) (x/65536%256)).set (o+6) (x/256%256)).set (o+7) (x%256))
theorem K8(w:World)(b o c:Nat)(zs:List Int)(x:Int)(h0:0≤x)(h1:x<281474976710656)(hl:o+8≤zs.length)(hb:w.heap[b]? =some (.cells (u8L zs) 210 (0,0))):
 Calls Tryz.prog 154 #[.slice (some ⟨b,o,none⟩) 8 c,.int .u64 x] w fun e w'=>e= .returned (.tuple #[])∧Kp b w w'∧w'.heap[b]? =some (.cells (u8L (Qc zs o x)) 210 (0,0)):=by
 have k0:w.cell? ⟨b,o,none⟩=some (.int .u8 (zs[o]'(by omega))):=(AB hb _).trans (Dq _);have k1:w.cell? ⟨b,o+1,none⟩=some (.int .u8 (zs[o+1]'(by omega))):=(AB hb _).trans (Dq _);have k2:w.cell? ⟨b,o+2,none⟩=some (.int .u8 (zs[o+2]'(by omega))):=(AB hb _).trans (Dq _)
 have k3:w.cell? ⟨b,o+3,none⟩=some (.int .u8 (zs[o+3]'(by omega))):=(AB hb _).trans (Dq _);have k4:w.cell? ⟨b,o+4,none⟩=some (.int .u8 (zs[o+4]'(by omega))):=(AB hb _).trans (Dq _);have k5:w.cell? ⟨b,o+5,none⟩=some (.int .u8 (zs[o+5]'(by omega))):=(AB hb _).trans (Dq _)
 have k6:w.cell? ⟨b,o+6,none⟩=some (.int .u8 (zs[o+6]'(by omega))):=(AB hb _).trans (Dq _);have k7:w.cell? ⟨b,o+7,none⟩=some (.int .u8 (zs[o+7]'(by omega))):=(AB hb _).trans (Dq _);have z0:=AN hb o;have z1:=AN hb (o+1);have z2:=AN hb (o+2);have z3:=AN hb (o+3);have z4:=AN hb (o+4);have z5:=AN hb (o+5)
 have z6:=AN hb (o+6);have z7:=AN hb (o+7);have HB:=Hi hb;clear hb;generalize zs[o]'(by omega)=y0 at k0;generalize zs[o+1]'(by omega)=y1 at k1;generalize zs[o+2]'(by omega)=y2 at k2;generalize zs[o+3]'(by omega)=y3 at k3;generalize zs[o+4]'(by omega)=y4 at k4;generalize zs[o+5]'(by omega)=y5 at k5;generalize zs[o+6]'(by omega)=y6 at k6
 generalize zs[o+7]'(by omega)=y7 at k7;clear hl
 have HE:=Hi (AX (AX (AX (AX (AX (AX (AX (AX HB.out o (.int .u8 (x/72057594037927936))) (o+1) (.int .u8 (x/281474976710656))) (o+2) (.int .u8 (x/1099511627776))) (o+3) (.int .u8 (x/4294967296%256))) (o+4) (.int .u8 (x/16777216%256))) (o+5) (.int .u8 (x/65536%256))) (o+6) (.int .u8 (x/256%256))) (o+7) (.int .u8 (x%256)))
 have he:∀(q:Array Value),q=u8L (Qc zs o x)→True:=fun _ _=>trivial;go_enter Tryz.func154,Tryz.ntmps154;go_wp2
 go_returns
 refine⟨rfl,((((((((Kp.refl b w).set o _).set (o+1) _).set (o+2) _).set (o+3) _).set (o+4) _).set (o+5) _).set (o+6) _).set (o+7) _,?_⟩;have hh:=HE.out;simp only[Kj]at hh;exact hh
end Go.Proofs.YtejhpdcjafbklaaGreatDoor
namespace Go.Proofs.YtejhpdcjafbklaaGreatDoor
open Go.RowKit
theorem Qx{b:Nat}{w0 w:World}(k:Kp b w0 w):Kp b w0 w.drew:=k.le (AC _).drew
theorem KX{X:Int}(h:V4N X):0≤X∧X<281474976710656∧X/72057594037927936=0∧X/281474976710656=0∧X/1099511627776=255∧X/4294967296%256=255:=by
 obtain⟨N,rfl,h1,h2⟩:=h;omega
def IP16(cs:Array Value):Prop:=∃a b c d:Int,cs=u8L [0,0,0,0,0,0,0,0,0,0,255,255,a,b,c,d]
theorem J9{F:Func}{W:World}{b:Nat}{R:Array Value}{tmps:Array Value}(hF:F.results= #[.cell 2 210])(hb:W.heap[b]? =some (.cells R 210 (0,0)))(hs:R.size=16)
 (h2:tmps.getD 2 undef= .pointer (some ⟨b,0,none⟩)):(results F tmps).run Tryz.prog W= .ok (.agg R) W:=
 results_cell_row hF _ _ b 210 _ (0,0) _ h2 hb Tryz.underlying210 rfl (by rw[hs];exact D4)
theorem sl_lo(b:Nat)(W:World):(Instr.sliceAt 210 (.pointer (some ⟨b,0,none⟩)) none (some (.int .i64 8)) none).run Tryz.prog W= .ok (.slice (some ⟨b,0,none⟩) 8 16) W:=by kernel_rfl
theorem sl_hi(b:Nat)(W:World):(Instr.sliceAt 210 (.pointer (some ⟨b,0,none⟩)) (some (.int .i64 8)) none none).run Tryz.prog W= .ok (.slice (some ⟨b,8,none⟩) 8 8) W:=by kernel_rfl
theorem QW(b:Nat)(W:World):(Instr.sliceAt 210 (.pointer (some ⟨b,0,none⟩)) none none none).run Tryz.prog W= .ok (.slice (some ⟨b,0,none⟩) 16 16) W:=by kernel_rfl
theorem RT(w:World)(X:Int)(p:Value)(hX:V4N X):
 Calls Tryz.prog 145 #[.agg #[.int .u64 0,.int .u64 X,p]] w fun e w'=>∃cs,e= .returned (.agg cs)∧IP16 cs∧Le w w':=by
 obtain⟨x0,x1,x2,x3,x4,x5⟩:=KX hX;clear hX;have h1:=sl_lo (w.heap.size+1);have h2:=sl_hi (w.heap.size+1);go_enter Tryz.func145,Tryz.ntmps145;go_wp2;have hb:((w.alloc (Obj.cells #[.int .u64 0,.int .u64 X,p] 225)).alloc (Obj.cells (u8L [0,0,0,0,0,0,0,0,0,0,0,0,0,0,0,0]) 210)).heap[w.heap.size+1]? =some (.cells (u8L [0,0,0,0,0,0,0,0,0,0,0,0,0,0,0,0]) 210 (0,0)):=heap_alloc2_new w _ _
 have ha:((w.alloc (Obj.cells #[.int .u64 0,.int .u64 X,p] 225)).alloc (Obj.cells (u8L [0,0,0,0,0,0,0,0,0,0,0,0,0,0,0,0]) 210)).heap[w.heap.size]? =some (.cells #[.int .u64 0,.int .u64 X,p] 225 (0,0)):=heap_alloc2_old w _ _;have hle:Le w ((w.alloc (Obj.cells #[.int .u64 0,.int .u64 X,p] 225)).alloc (Obj.cells (u8L [0,0,0,0,0,0,0,0,0,0,0,0,0,0,0,0]) 210)):=((AC w).alloc _).alloc _
 change Code.wp _ _ _ _ ((w.alloc (Obj.cells #[.int .u64 0,.int .u64 X,p] 225)).alloc (Obj.cells (u8L [0,0,0,0,0,0,0,0,0,0,0,0,0,0,0,0]) 210));generalize(w.alloc (Obj.cells #[.int .u64 0,.int .u64 X,p] 225)).alloc (Obj.cells (u8L [0,0,0,0,0,0,0,0,0,0,0,0,0,0,0,0]) 210)=W at hb ha hle⊢;have HB:=Hi hb;have HA:=Hi ha;have HLE:=Hi hle
 have c0:W.cell? ⟨w.heap.size,0,none⟩=some (.int .u64 0):=AB ha 0;clear hb ha hle;go_still_tail 4,(by kernel_rfl)
 change wpList _ _ _ _ _ (World.drew _);have HKd:Hid (Kp (w.heap.size+1) W W.drew):=Hi (Qx (Kp.refl _ W));have HBd:Hid (W.drew.heap[w.heap.size+1]? =_):=Hi HB.out;generalize World.drew _=Wd at HKd HBd⊢;go_wp2_with fail
 refine(K8 Wd (w.heap.size+1) 0 16 _ 0 (by decide) (by decide) (by decide) HBd.out).mono ?_;rintro e w1 ⟨rfl,hk1,hb1⟩;have HA1:Hid (w1.heap[w.heap.size]? =_):=Hi ((hk1.heap (by omega) (HKd.out.heap (by omega) HA.out)));have HK1:Hid (Kp (w.heap.size+1) W w1):=Hi (HKd.out.trans hk1);have HB1:=Hi hb1;have c1:w1.cell? ⟨w.heap.size,1,none⟩=some (.int .u64 X):=AB HA1.out 1
 clear hk1 hb1 c0;go_wp2;go_still_tail 4,(by kernel_rfl)
 change wpList _ _ _ _ _ (World.drew _);have HKe:Hid (Kp (w.heap.size+1) W w1.drew):=Hi (Qx HK1.out);have HBe:Hid (w1.drew.heap[w.heap.size+1]? =_):=Hi HB1.out;generalize World.drew _=We at HKe HBe⊢;go_wp2_with fail
 refine(K8 We (w.heap.size+1) 8 8 _ X x0 x1 (by decide) HBe.out).mono ?_;rintro e w2 ⟨rfl,hk2,hb2⟩;have HK2:Hid (Kp (w.heap.size+1) W w2):=Hi (HKe.out.trans hk2);have hv:∃a b c d:Int,Qc (Qc [0,0,0,0,0,0,0,0,0,0,0,0,0,0,0,0] 0 0) 8 X=[0,0,0,0,0,0,0,0,0,0,255,255,a,b,c,d]:=by
  refine⟨X/16777216%256,X/65536%256,X/256%256,X%256,?_⟩;unfold Qc;simp only[x2,x3,x4,x5];rfl
 obtain⟨a,b,c,d,hv⟩:=hv;rw[hv]at hb2;have HB2:=Hi hb2;clear hk2 hb2 c1 hv
 go_wp2_with (first|(refine wpList_load_row rfl 210 (.tmp 2) rfl (w.heap.size+1) rfl 210 _ (0,0) _ HB2.out Tryz.underlying210 rfl D4 ?_)|(refine Ag rfl 210 (.tmp 2) (.tmp 13) rfl (w.heap.size+1) (u8L [0,0,0,0,0,0,0,0,0,0,255,255,a,b,c,d]) rfl rfl 210 (u8L [0,0,0,0,0,0,0,0,0,0,255,255,a,b,c,d]) HB2.out D4 rfl (by unfold u8L;simp only[List.map_cons,List.map_nil,List.all_toArray,List.all_cons,List.all_nil];rfl) ?_))
 intro w4 hz4 hk4;have HLE4:Hid (Le w w4):=Hi (Below.trans HLE.out ((HK2.out.trans hk4).below (by omega) HLE.out.size));have HBB:=Hi hz4;clear hz4 hk4;go_wp2
 (try simp only[Exit.inBlock,Exit.then])
 refine bodyPost_ret (J9 rfl HBB.out rfl rfl) rfl ?_;exact⟨_,rfl,⟨a,b,c,d,rfl⟩,HLE4.out⟩
def GV:List Int:=[0,0,0,0,0,0,0,0,0,0,0,0,0,0,0,0]
theorem KU:(Tryz.prog).built 210 []=some (u8L GV):=by kernel_rfl
theorem IB(zs:List Int):(u8L zs).all (·.oneCell')=true:=by
 unfold u8L;rw[List.all_toArray,List.all_eq_true];intro x hx;obtain⟨z,_,rfl⟩:=List.mem_map.1 hx;rfl
def PIpR(e:Ending):Prop:=∃zs ok,e= .returned (.tuple #[.agg (u8L zs),.bool ok])∧zs.length=16∧(ok=true→IP16 (u8L zs))
theorem Fp{F:Func}{W:World}{b:Nat}{R:Array Value}{a:Act}{ev:Value}(hF:F.results= #[.cell 2 210,.tmp 3])(hb:W.heap[b]? =some (.cells R 210 (0,0)))(hs:R.size=16)
 (h2:a.tmps.getD 2 undef= .pointer (some ⟨b,0,none⟩))(h3:a.tmps.getD 3 undef=ev):(results F a.tmps).run Tryz.prog W= .ok (.tuple #[.agg R,ev]) W:=by
 rw[results_cell_tmp hF,h2,h3];simp only[asAddr,Sem.run_pure,Result.andThen_ok,run_loadVar_row W _ _ _ _ _ _ hb Tryz.underlying210 rfl (by rw[hs];exact D4)]
theorem LE(s:ByteArray)(w:World)(hn:∀k (h:k<s.size),s[k]'h≠58)(hs:s.size≤1099511627776)(hL:BW w):
 Calls Tryz.prog 137 #[.string s] w fun e w'=>PIpR e∧Le w w':=by
 have HL:=Hi hL;have HNO:=Hi hn;clear hL hn;go_enter Tryz.func137,Tryz.ntmps137;go_wp2_with fail
 refine(PC s _ HNO.out hs (HL.out.le ((AC w).alloc _))).mono ?_;rintro e w2 ⟨R,ev,rfl,hR,hle2⟩;have hb2:w2.heap[w.heap.size]? =some (Obj.cells (u8L GV) 210):=hle2.heap (heap_alloc_new w _);have HLE2:Hid (Le w w2):=Hi (Le.trans ((AC w).alloc _) hle2);have HB2:=Hi hb2;clear hle2 hb2;rcases hR with⟨rfl,T,y,rfl⟩|⟨rfl,X,b4,o4,rfl,hX,hz⟩
 ·unfold F8;have HB3:=Hi (((AC w2).alloc (Obj.cells #[.int .u64 0,.int .u64 0,.pointer none] 225)).heap HB2.out);have HLE3:=Hi (HLE2.out.alloc (Obj.cells #[.int .u64 0,.int .u64 0,.pointer none] 225))
  go_wp2_with (first|(refine CV rfl 210 rfl (some 18) rfl (u8L GV) KU ?_)|(refine Ag rfl 210 (.tmp 2) (.tmp 18) rfl w.heap.size (u8L GV) rfl rfl 210 (u8L GV) HB3.out D4 rfl (IB _) ?_))
  intro w4 hz4 hk4;have HLE4:Hid (Le w w4):=Hi (Below.trans HLE3.out (hk4.below (by omega) HLE3.out.size));have HBB:=Hi hz4;clear hz4 hk4;go_wp2
  (try simp only[Exit.inBlock,Exit.then])
  refine bodyPost_ret (Fp rfl HBB.out rfl rfl rfl) rfl ?_;exact⟨⟨_,_,rfl,rfl,by intro h;cases h⟩,HLE4.out⟩
 ·have HX:=Hi hX;obtain⟨bz,oz,hz0,hz1,hz2⟩:=(HL.out.le HLE2.out).z4;have e:(⟨bz,oz,none⟩:Addr)=⟨b4,o4,none⟩:=by have:=hz0.symm.trans hz;simpa using this
  injection e with e1 e2
  subst e1;subst e2;have hzz:=(HL.out.le HLE2.out).z0;have HA3:Hid ((w2.alloc (Obj.cells #[.int .u64 0,.int .u64 X,.pointer (some ⟨bz,oz,none⟩)] 225)).heap[w2.heap.size]? =_):=Hi (heap_alloc_new w2 _);have hle3:=(AC w2).alloc (Obj.cells #[.int .u64 0,.int .u64 X,.pointer (some ⟨bz,oz,none⟩)] 225);have HB3:=Hi (hle3.heap HB2.out);have HLE3:=Hi (HLE2.out.trans hle3)
  have HC:=Hi (QH _ X bz oz (hle3.cell hzz) (hle3.cell hz1) (hle3.cell hz2));clear hX hz hz0 hz1 hz2 hzz hle3;go_wp2_with fail
  refine HC.out.mono ?_;rintro e w5 ⟨rfl,hle5⟩;have HLE5:=Hi (HLE3.out.trans hle5);have HB5:=Hi (hle5.heap HB3.out);have HA5:=Hi (hle5.heap HA3.out);clear hle5;rw[show(st []:ByteArray)=⟨#[]⟩from rfl];go_wp2_with (refine wpList_load_row rfl 225 (.tmp 4) rfl w2.heap.size rfl 225 _ (0,0) _ HA5.out Tryz.underlying225 rfl Cc ?_)
  refine(RT w5 X _ HX.out).mono ?_;rintro e w6 ⟨cs,rfl,hcs,hle6⟩;have hcs':=hcs;obtain⟨a,b,c,d,rfl⟩:=hcs';have HCS:=Hi hcs;have HLE6:=Hi (HLE5.out.trans hle6);have HB6:=Hi (hle6.heap HB5.out);clear hle6 hcs;go_wp2_with (refine Ag rfl 210 (.tmp 2) (.tmp 20) rfl w.heap.size _ rfl rfl 210 (u8L GV) HB6.out D4 rfl (IB _) ?_)
  intro w4 hz4 hk4;have HLE4:Hid (Le w w4):=Hi (Below.trans HLE6.out (hk4.below (by omega) HLE6.out.size));have HBB:=Hi hz4;clear hz4 hk4;go_wp2
  (try simp only[Exit.inBlock,Exit.then])
  refine bodyPost_ret (Fp rfl HBB.out rfl rfl rfl) rfl ?_;exact⟨⟨_,_,rfl,rfl,fun _=>HCS.out⟩,HLE4.out⟩
def SlR(v:Value)(w:World):Prop:=v= .slice none 0 0∨∃g a b c d,v= .slice (some ⟨g,0,none⟩) 16 16∧w.heap[g]? =some (.cells (u8L [0,0,0,0,0,0,0,0,0,0,255,255,a,b,c,d]) 210 (0,0))
theorem Er(s:ByteArray)(w:World)(hn:∀k (h:k<s.size),s[k]'h≠58)(hs:s.size≤1099511627776)(hL:BW w):
 Calls Tryz.prog 124 #[.string s] w fun e w'=>∃v,e= .returned v∧SlR v w'∧Le w w':=by
 go_enter Tryz.func124,Tryz.ntmps124;go_wp2_with fail
 refine(LE s w hn hs hL).mono ?_;rintro e w2 ⟨⟨zs,ok,rfl,hl,hok⟩,hle2⟩;clear hn hs hL;have h3:=QW w2.heap.size;have HB0:Hid ((w2.alloc (Obj.cells (u8L GV) 210)).heap[w2.heap.size]? =_):=Hi (heap_alloc_new w2 _);have HLE3:=Hi (hle2.trans ((AC w2).alloc (Obj.cells (u8L GV) 210)));have HLE2:=Hi hle2;have hs2:(u8L zs).size=16:=by simp[u8L,hl]
 have HS2:=Hi hs2;have HOK:=Hi hok;clear hle2 hok hl hs2;go_wp2_with (refine Ag rfl 210 (.tmp 3) (.tmp 8) rfl w2.heap.size (u8L zs) rfl rfl 210 (u8L GV) HB0.out (by rw[HS2.out];exact D4) (by rw[HS2.out];rfl) (IB _) ?_)
 intro w4 hz4 hk4;have HLE4:Hid (Le w w4):=Hi (Below.trans HLE3.out (hk4.below HLE2.out.size HLE3.out.size));have HBB:=Hi hz4;clear hz4 hk4;cases ok
 ·go_wp2;go_ret;exact⟨_,rfl,.inl rfl,HLE4.out⟩
 ·go_wp2;go_ret;obtain⟨a,b,c,d,hv⟩:=HOK.out trivial;have hb:=HBB.out;rw[hv]at hb;exact⟨_,rfl,.inr ⟨_,a,b,c,d,rfl,hb⟩,HLE4.out⟩
theorem LW(w:World)(g c:Nat)(h:∀k,k<10→w.cell? ⟨g,k,none⟩=some (.int .u8 0)):
 Calls Tryz.prog 138 #[.slice (some ⟨g,0,none⟩) 10 c] w fun e w'=>e= .returned (.bool true)∧Le w w':=by
 have H:=Hi h;clear h;go_enter Tryz.func138,Tryz.ntmps138;go_wp2
 go_loopg [3] 10 (fun n i wr=>∃k:Nat,n+k=10∧i= .int .i64 k∧Le w wr)
 case atStart=>exact⟨0,by omega,rfl,AC w⟩
 case round=>
  obtain⟨k,hn,rfl,hle⟩:=hrel;have HLE:=Hi hle;have HN:gk+k≤10∧10≤gk+k:=by omega
  clear hn hle;by_cases hlt:k<10
  ·have hc:wr.cell? ⟨g,k,none⟩=some (.int .u8 0):=HLE.out.cell (H.out k hlt);go_wp2;go_roundg (gk-1)
   case measure=>omega
   case rel=>exact⟨k+1,by omega,by go_num,HLE.out⟩
  ·go_wp2;go_ret;exact⟨rfl,HLE.out⟩
theorem OX{w:World}{g:Nat}{a b c d:Int}(h:w.heap[g]? =some (.cells (u8L [0,0,0,0,0,0,0,0,0,0,255,255,a,b,c,d]) 210 (0,0)))(k:Nat)(hk:k<10):w.cell? ⟨g,k,none⟩=some (.int .u8 0):=by
 rw[AB h k,Dq (by simp;omega)]
 match k,hk with
 |0,_|1,_|2,_|3,_|4,_|5,_|6,_|7,_|8,_|9,_=>rfl
theorem QU(w:World)(g:Nat)(a b c d:Int)(h:w.heap[g]? =some (.cells (u8L [0,0,0,0,0,0,0,0,0,0,255,255,a,b,c,d]) 210 (0,0))):
 Calls Tryz.prog 125 #[.slice (some ⟨g,0,none⟩) 16 16] w fun e w'=>e= .returned (.slice (some ⟨g,12,none⟩) 4 4)∧Le w w':=by
 have HZ:=Hi (LW w g 16 (fun k hk=>OX h k hk));have c10:w.cell? ⟨g,10,none⟩=some (.int .u8 255):=AB h 10;have c11:w.cell? ⟨g,11,none⟩=some (.int .u8 255):=AB h 11;have C10:=Hi c10;have C11:=Hi c11;clear h c10 c11;go_enter Tryz.func125,Tryz.ntmps125;go_wp2_with fail
 refine HZ.out.mono ?_;rintro e w' ⟨rfl,hle⟩;have HLE:=Hi hle;have c10:=hle.cell C10.out;have c11:=hle.cell C11.out;clear hle;go_wp2;go_ret;exact⟨rfl,HLE.out⟩
theorem OA(g:Nat)(W:World):(binOp .eql 202 (.slice (some ⟨g,12,none⟩) 4 4) (.slice none 0 0)).run Tryz.prog W= .ok (.bool false) W:=by kernel_rfl
theorem NG(s:ByteArray)(w:World)(hn:∀k (h:k<s.size),s[k]'h≠58)(hs:s.size≤1099511627776)(hL:BW w):
 Calls Tryz.prog 111 #[.string s] w fun e w'=>e= .returned (.bool false)∧Le w w':=by
 have HL:=Hi hL;have HNO:=Hi hn;clear hL hn;go_enter Tryz.func111,Tryz.ntmps111;go_wp2
 go_loopg [] (s.size) (fun n wr=>∃p:Nat,n+p=s.size∧Le w wr∧wr.heap[w.heap.size]? =some (.stringIter s p))
 case atStart=>exact⟨0,by omega,(AC w).iter s 0,World.iter_heap _ _ _⟩
 case round=>
  obtain⟨p,hn,hle,hit⟩:=hrel;have HLE:=Hi hle;have HN:gk+p≤s.size∧s.size≤gk+p:=by omega
  clear hn hle;by_cases hlt:p<s.size
  ·obtain⟨c,d,W1,hnx,hst,hit1,hW1⟩:=CY (P:=Tryz.prog) hit hlt;have HLE1:=Hi (hW1▸HLE.out.iterAt (NL _) s (p+d):Le w W1);have HS2:1≤d∧p+d≤s.size∧0≤c∧c≤1114111:=⟨hst.1,hst.2.1,hst.2.2.1,hst.2.2.2.1⟩;have HIT1:=Hi hit1;clear hW1 hst hit hit1;by_cases h46:p=46
   ·have e46:((p:Int)==46)=true:=by simp[h46]
    clear h46;go_wp2;go_ret;exact⟨rfl,HLE1.out⟩
   ·have e46:((p:Int)==46)=false:=beq_eq_false_iff_ne.2 (by omega);clear h46;by_cases h58:p=58
    ·have e58:((p:Int)==58)=true:=by simp[h58]
     clear h58;go_wp2_with fail
     refine(Er s _ HNO.out hs (HL.out.le HLE1.out)).mono ?_;rintro e w2 ⟨v,rfl,hv,hle2⟩;have HLE2:=Hi (HLE1.out.trans hle2);clear hle2;rcases hv with rfl|⟨g,a,b,c,d,rfl,hg⟩
     ·go_wp2;go_ret;exact⟨rfl,HLE2.out⟩
     ·have HT:=Hi (QU w2 g a b c d hg);have heq:=OA g;clear hg;go_wp2_with fail
      refine HT.out.mono ?_;rintro e w3 ⟨rfl,hle3⟩;have HLE3:=Hi (HLE2.out.trans hle3);clear hle3;go_wp2;go_ret;exact⟨rfl,HLE3.out⟩
    ·have e58:((p:Int)==58)=false:=beq_eq_false_iff_ne.2 (by omega);clear h58;go_wp2;go_roundg (gk-d)
     case measure=>omega
     case rel=>exact⟨p+d,by omega,HLE1.out,HIT1.out⟩
  ·have hnx:=fun ty=>Lib.run_next_end_at (P:=Tryz.prog) wr _ s p ty hit hlt;clear hit;go_wp2_with fail
   refine(Er s _ HNO.out hs (HL.out.le HLE.out)).mono ?_;rintro e w2 ⟨v,rfl,hv,hle2⟩;have HLE2:=Hi (HLE.out.trans hle2);clear hle2;rcases hv with rfl|⟨g,a,b,c,d,rfl,hg⟩
   ·go_wp2;go_ret;exact⟨rfl,HLE2.out⟩
   ·have HT:=Hi (QU w2 g a b c d hg);have heq:=OA g;clear hg;go_wp2_with fail
    refine HT.out.mono ?_;rintro e w3 ⟨rfl,hle3⟩;have HLE3:=Hi (HLE2.out.trans hle3);clear hle3;go_wp2;go_ret;exact⟨rfl,HLE3.out⟩
theorem Ka(s:ByteArray)(w:World)(hn:∀k (h:k<s.size),s[k]'h≠58)(hs:s.size≤1099511627776)(hL:BW w):
 Calls Tryz.prog 91 #[.string s] w fun e w'=>e= .returned (.string s)∧Le w w':=by
 go_enter Tryz.func91,Tryz.ntmps91;go_wp2_with fail
 refine(NG s _ hn hs hL).mono ?_;rintro e w2 ⟨rfl,hle2⟩;go_wp2;go_ret;exact⟨rfl,hle2⟩
end Go.Proofs.YtejhpdcjafbklaaGreatDoor
