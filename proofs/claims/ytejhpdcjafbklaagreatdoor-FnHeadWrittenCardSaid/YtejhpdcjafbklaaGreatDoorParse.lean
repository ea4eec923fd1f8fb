/- The law FnHeadWritten: Parse. -/
import Derived.Test.YtejhpdcjafbklaaGreatDoorPar
set_option linter.all false
set_option maxHeartbeats 1000000
namespace Go.Proofs.YtejhpdcjafbklaaGreatDoor
open Go.RowKit
def Sq.val:Sq→Value
 | .slashes=> .func (.func 89) #[] #[]
 | .user=> .func (.func 110) #[] #[]
 | .host=> .func (.func 123) #[] #[]
 | .ip=> .func (.func 133) #[] #[]
 | .port=> .func (.func 134) #[] #[]
 | .params=> .func (.func 135) #[] #[]
 | .heads=> .func (.func 136) #[] #[]
 | .stop=> .nilFunc
def EZ(b:Nat)(w:World)(r:Sq×Tx×PU)(e:Ending)(w':World):Prop:=
 e= .returned (.tuple #[r.1.val,.string (st r.2.1),.nilIface])∧UAt w' b r.2.2∧Kp b w w'
theorem FM(l:Tx)(u:PU)(i:Nat)(hi:i<l.length)(hn:(l.take i).all (fun c=> !DG c)=true)(h:DG l[i]=true):
 FH l u=if l[i]=91 then(.host,l.drop i,u)else if 0<C4 (l.take i)then(.host,l.drop (i+1),{u with user:=l.take (C4 (l.take i)),pass:=(l.take i).drop (C4 (l.take i)+1)})else(.host,l.drop (i+1),{u with user:=l.take i}):=by
 unfold FH;simp only[Eg hi h hn,if_pos hi,Db hi]
theorem Hj(l:Tx)(u:PU)(hn:l.all (fun c=> !DG c)=true):FH l u=(.host,l,u):=by
 unfold FH;simp only[EC hn,if_neg (Nat.lt_irrefl _)]
theorem OY(l:Tx)(x:UInt8)(h:128≤x.toNat):((l++[x]).all (fun c=> !DG c),C4 (l++[x]))=(l.all (fun c=> !DG c),C4 l):=by
 have h1:¬x=58:=by rintro rfl;revert h;decide
 have h2:¬x=91:=by rintro rfl;revert h;decide
 have h3:¬x=64:=by rintro rfl;revert h;decide
 rw[GJ,if_neg h1,Dm];simp[DG,h2,h3]
theorem Nw(l:Tx)(x:UInt8)(h:DG x=false):((l++[x]).all (fun c=> !DG c),C4 (l++[x]))=(l.all (fun c=> !DG c),if x=58 then l.length else C4 l):=by
 rw[GJ,Dm,h];simp
theorem QO(s:ByteArray)(b:Nat)(u:PU)(w:World)(hu:UAt w b u)(hs:s.size≤1099511627776):
 Calls Tryz.prog 110 #[.pointer (some ⟨b,0,none⟩),.string s] w (EZ b w (FH (bs s) u)):=by
 have hl:=BD s;have HL:=Hi hl;clear hl;go_enter Tryz.func110,Tryz.ntmps110;go_wp2
 go_loopg [7] (s.size) (fun n ue wr=>∃p k:Nat,n+p=s.size∧Le w wr∧wr.heap[w.heap.size]? =some (.stringIter s p)∧(k<p∨k=0)∧
  (((bs s).take p).all (fun c=> !DG c),C4 ((bs s).take p))=(true,k)∧ue= .int .i64 k)
 case atStart=>exact⟨0,0,by omega,(AC w).iter s 0,World.iter_heap _ _ _,by omega,rfl,rfl⟩
 case round=>
  obtain⟨p,k,hn,hle,hit,hk,hq,rfl⟩:=hrel;have HQ:=Hi hq;have HLE:=Hi hle;have U1:=hu.le hle;have HN:gk+p≤s.size∧s.size≤gk+p:=by omega
  clear hn hq hle;by_cases hlt:p<s.size
  ·obtain⟨c,d,W1,hnx,hst,hit1,hW1⟩:=CY (P:=Tryz.prog) hit hlt;have HLE1:=Hi (hW1▸HLE.out.iterAt (NL _) s (p+d):Le w W1);have U2:=hu.le HLE1.out;have g4:=U2.c4;have z4:=U2.frozen 4;have g5:=U2.c5;have z5:=U2.frozen 5;have HU2:=Hi U2;have HST:=Hi hst;have HS2:1≤d∧p+d≤s.size∧0≤c∧c≤1114111:=⟨hst.1,hst.2.1,hst.2.2.1,hst.2.2.2.1⟩;have HIT1:=Hi hit1
   have HT:=Hi (hst.take (fun l=>(l.all (fun c=> !DG c),C4 l)) OY);clear hW1 hst U1 U2 hit hit1 hu;by_cases h91:c=91
   ·subst h91;obtain⟨hp,hc,hres⟩:∃hp:p<(bs s).length,(bs s)[p]=91∧Hid (FH (bs s) u=(.host,(bs s).drop p,u)):=by
     rcases HT.out with⟨hp,hc,_,_⟩|⟨hc,_⟩
     ·have h1:=Dw hc.symm (by decide);refine⟨hp,h1,?_⟩;have h2:=FM (bs s) u p hp (congrArg Prod.fst HQ.out) (by rw[h1];rfl);rw[h1]at h2;exact h2
     ·omega
    clear hc hp;go_wp2
    go_quiet (fail)
    go_wp2
    go_ret3
    refine⟨Ec ?_ ?_ rfl,?_,?_⟩
    ·rw[hres.out];rfl
    ·rw[hres.out];exact CB (BM s p)
    ·rw[hres.out];exact HU2.out.le ((AC W1).drewN _)
    ·exact(HLE1.out.drewN _).kp b
   ·by_cases h64:c=64
    ·subst h64;obtain⟨hp,hc,hres⟩:∃hp:p<(bs s).length,(bs s)[p]=64∧Hid (FH (bs s) u=if 0<k then(.host,(bs s).drop (p+1),{u with user:=(bs s).take k,pass:=((bs s).take p).drop (k+1)})else(.host,(bs s).drop (p+1),{u with user:=(bs s).take p})):=by
      rcases HT.out with⟨hp,hc,_,_⟩|⟨hc,_⟩
      ·have h1:=Dw hc.symm (by decide);refine⟨hp,h1,?_⟩;have h2:=FM (bs s) u p hp (congrArg Prod.fst HQ.out) (by rw[h1];rfl);rw[h1,if_neg (by decide),show C4 ((bs s).take p)=k from congrArg Prod.snd HQ.out]at h2;exact h2
      ·omega
     clear hc hp;by_cases hk0:0<k
     ·have hk1:k<p:=by omega
      rw[if_pos hk0]at hres;clear hk;go_wp2
      go_quiet (fail)
      go_wp2
      go_ret3
      refine⟨Ec ?_ ?_ rfl,?_,?_⟩
      ·rw[hres.out];rfl
      ·rw[hres.out];exact CB (BM s (p+1))
      ·rw[hres.out];refine UAt.le ?_ ((AC _).drewN _);have sm:=HU2.out.sm;have hl:=HL.out;refine UAt.put (UAt.put HU2.out 4 _ {u with user:=(bs s).take k} (fun _ _=>by rw[CX];rfl) rfl rfl ?_) 5 _ _ (fun _ _=>by rw[Hm];rfl) rfl rfl ?_;all_goals simp only[PU.small,List.length_take,List.length_drop]at sm⊢;omega
      ·exact(((HLE1.out.kp b).set 4 _).set 5 _).le ((AC _).drewN _)
     ·obtain rfl:k=0:=by omega
      rw[if_neg hk0]at hres;go_wp2
      go_quiet (fail)
      go_wp2
      go_ret3
      refine⟨Ec ?_ ?_ rfl,?_,?_⟩
      ·rw[hres.out];rfl
      ·rw[hres.out];exact CB (BM s (p+1))
      ·rw[hres.out];refine UAt.le ?_ ((AC _).drewN _);have sm:=HU2.out.sm;have hl:=HL.out;refine UAt.put HU2.out 4 _ _ (fun _ _=>by rw[CX];rfl) rfl rfl ?_;simp only[PU.small,List.length_take,List.length_drop]at sm⊢;omega
      ·exact((HLE1.out.kp b).set 4 _).le ((AC _).drewN _)
    ·have e1:(c==91)=false:=by simpa using h91
     have e3:(c==64)=false:=by simpa using h64
     by_cases h58:c=58
     ·subst h58
      have hF:Hid ((((bs s).take (p+d)).all (fun c=> !DG c),C4 ((bs s).take (p+d)))=(true,p)):=by
       rcases HT.out with⟨hp,hc,_,hF⟩|⟨hc,_⟩
       ·have h1:=Dw hc.symm (by decide);refine hF.trans ?_;rw[h1,Nw _ _ (by rfl),show((bs s).take p).all (fun c=> !DG c)=true from congrArg Prod.fst HQ.out,if_pos (by rfl),List.length_take,HL.out,Nat.min_eq_left (by omega)]
       ·omega
      clear h91 h64;go_wp2;go_roundg (gk-d)
      case measure=>omega
      case rel=>exact⟨p+d,p,by omega,HLE1.out,HIT1.out,by omega,hF.out,rfl⟩
     ·have hF:Hid ((((bs s).take (p+d)).all (fun c=> !DG c),C4 ((bs s).take (p+d)))=(true,k)):=by
       rcases HT.out with⟨hp,hc,_,hF⟩|⟨_,hF⟩
       ·have n58:(bs s)[p]≠58:=by intro e;rw[e]at hc;exact h58 (by rw[hc];rfl)
        have n91:(bs s)[p]≠91:=by intro e;rw[e]at hc;exact h91 (by rw[hc];rfl)
        have n64:(bs s)[p]≠64:=by intro e;rw[e]at hc;exact h64 (by rw[hc];rfl)
        refine hF.trans ?_;rw[Nw _ _ (by simp[DG,n91,n64]),if_neg n58];exact HQ.out
       ·exact hF.trans HQ.out
      have e2:(c==58)=false:=by simpa using h58
      clear h91 h64 h58;go_wp2;go_roundg (gk-d)
      case measure=>omega
      case rel=>exact⟨p+d,k,by omega,HLE1.out,HIT1.out,by omega,hF.out,rfl⟩
  ·have hnx:=fun ty=>Lib.run_next_end_at (P:=Tryz.prog) wr _ s p ty hit hlt;have hres:Hid (FH (bs s) u=(.host,bs s,u)):=by
    refine Hj _ _ ?_;have h1:=congrArg Prod.fst HQ.out;simp only at h1;rw[List.take_of_length_le (by rw[HL.out];omega)]at h1;exact h1
   have HU1:=Hi U1;clear hit hu U1;go_wp2
   go_ret3
   refine⟨Ec ?_ ?_ rfl,?_,?_⟩
   ·rw[hres.out];rfl
   ·rw[hres.out];exact CB (FB s).symm
   ·rw[hres.out];exact HU1.out
   ·exact HLE.out.kp b
end Go.Proofs.YtejhpdcjafbklaaGreatDoor
namespace Go.Proofs.YtejhpdcjafbklaaGreatDoor
open Go.RowKit
theorem NR(x:UInt8)(h:128≤x.toNat):El x=false:=by
 have n1:x≠91:=by rintro rfl;revert h;decide
 have n2:x≠58:=by rintro rfl;revert h;decide
 have n3:x≠59:=by rintro rfl;revert h;decide
 have n4:x≠63:=by rintro rfl;revert h;decide
 simp[El,n1,n2,n3,n4]
theorem DO(l:Tx)(u:PU)(i:Nat)(hi:i<l.length)(hn:(l.take i).all (fun c=> !El c)=true)(h:El l[i]=true):
 Do l u=if l[i]=91 then(.ip,l.drop i,u)else if l[i]=58 then(.port,l.drop (i+1),{u with host:=l.take i})
  else if l[i]=59 then(.params,l.drop (i+1),{u with host:=l.take i})else(.heads,l.drop (i+1),{u with host:=l.take i}):=by
 unfold Do;simp only[Eg hi h hn,if_pos hi,Db hi]
theorem Hl(l:Tx)(u:PU)(hn:l.all (fun c=> !El c)=true):Do l u=(.params,[],{u with host:=l,wild:=decide (l=[42])}):=by
 unfold Do;simp only[EC hn,if_neg (Nat.lt_irrefl _)]
theorem RE(s:ByteArray)(b:Nat)(u:PU)(w:World)(hu:UAt w b u)(hs:s.size≤1099511627776):
 Calls Tryz.prog 123 #[.pointer (some ⟨b,0,none⟩),.string s] w (EZ b w (Do (bs s) u)):=by
 have HL:=Hi (BD s);go_enter Tryz.func123,Tryz.ntmps123;go_wp2
 go_loopg [] (s.size) (fun n wr=>∃p:Nat,n+p=s.size∧Le w wr∧wr.heap[w.heap.size]? =some (.stringIter s p)∧((bs s).take p).all (fun c=> !El c)=true)
 case atStart=>exact⟨0,by omega,(AC w).iter s 0,World.iter_heap _ _ _,rfl⟩
 case round=>
  obtain⟨p,hn,hle,hit,hq⟩:=hrel;have HQ:=Hi hq;have HLE:=Hi hle;have HN:gk+p≤s.size∧s.size≤gk+p:=by omega
  clear hn hq hle;by_cases hlt:p<s.size
  ·obtain⟨c,d,W1,hnx,hst,hit1,hW1⟩:=CY (P:=Tryz.prog) hit hlt;have HLE1:=Hi (hW1▸HLE.out.iterAt (NL _) s (p+d):Le w W1);have HST:=Hi hst;have HS2:1≤d∧p+d≤s.size∧0≤c∧c≤1114111:=⟨hst.1,hst.2.1,hst.2.2.1,hst.2.2.2.1⟩;have HIT1:=Hi hit1;clear hW1 hst hit hit1;by_cases h91:c=91
   ·subst h91;obtain⟨hp,h1⟩:=Ci HST.out 91 (by decide) rfl;have hres:Hid (Do (bs s) u=(.ip,(bs s).drop p,u)):=by
     have h2:=DO (bs s) u p hp HQ.out (by rw[h1];rfl);rw[h1]at h2;exact h2
    clear h1 hp;go_wp2
    go_quiet (fail)
    go_wp2
    go_ret3
    refine⟨Ec ?_ ?_ rfl,?_,?_⟩
    ·rw[hres.out];rfl
    ·rw[hres.out];exact CB (BM s p)
    ·rw[hres.out];exact(hu.le HLE1.out).le ((AC W1).drewN _)
    ·exact(HLE1.out.drewN _).kp b
   ·have e91:(c==91)=false:=by simpa using h91
    by_cases h58:c=58
    ·subst h58;obtain⟨hp,h1⟩:=Ci HST.out 58 (by decide) rfl;have hres:Hid (Do (bs s) u=(.port,(bs s).drop (p+1),{u with host:=(bs s).take p})):=by
      have h2:=DO (bs s) u p hp HQ.out (by rw[h1];rfl);rw[h1]at h2;exact h2
     clear h1 hp;have U2:=hu.le HLE1.out;have g6:=U2.c6;have z6:=U2.frozen 6;have HU2:=Hi U2;clear U2 hu;go_wp2
     go_quiet (fail)
     go_wp2
     go_ret3
     refine⟨Ec ?_ ?_ rfl,?_,?_⟩
     ·rw[hres.out];rfl
     ·rw[hres.out];exact CB (BM s (p+1))
     ·rw[hres.out];refine UAt.le ?_ ((AC _).drewN _);have sm:=HU2.out.sm;have hl:=HL.out;refine UAt.put HU2.out 6 _ _ (fun _ _=>by rw[CX];rfl) rfl rfl ?_;simp only[PU.small,List.length_take,List.length_drop]at sm⊢;omega
     ·exact((HLE1.out.kp b).set 6 _).le ((AC _).drewN _)
    ·have e58:(c==58)=false:=by simpa using h58
     by_cases h59:c=59
     ·subst h59;obtain⟨hp,h1⟩:=Ci HST.out 59 (by decide) rfl;have hres:Hid (Do (bs s) u=(.params,(bs s).drop (p+1),{u with host:=(bs s).take p})):=by
       have h2:=DO (bs s) u p hp HQ.out (by rw[h1];rfl);rw[h1]at h2;exact h2
      clear h1 hp;have U2:=hu.le HLE1.out;have g6:=U2.c6;have z6:=U2.frozen 6;have HU2:=Hi U2;clear U2 hu;go_wp2
      go_quiet (fail)
      go_wp2
      go_ret3
      refine⟨Ec ?_ ?_ rfl,?_,?_⟩
      ·rw[hres.out];rfl
      ·rw[hres.out];exact CB (BM s (p+1))
      ·rw[hres.out];refine UAt.le ?_ ((AC _).drewN _);have sm:=HU2.out.sm;have hl:=HL.out;refine UAt.put HU2.out 6 _ _ (fun _ _=>by rw[CX];rfl) rfl rfl ?_;simp only[PU.small,List.length_take,List.length_drop]at sm⊢;omega
      ·exact((HLE1.out.kp b).set 6 _).le ((AC _).drewN _)
     ·have e59:(c==59)=false:=by simpa using h59
      by_cases h63:c=63
      ·subst h63;obtain⟨hp,h1⟩:=Ci HST.out 63 (by decide) rfl;have hres:Hid (Do (bs s) u=(.heads,(bs s).drop (p+1),{u with host:=(bs s).take p})):=by
        have h2:=DO (bs s) u p hp HQ.out (by rw[h1];rfl);rw[h1]at h2;exact h2
       clear h1 hp;have U2:=hu.le HLE1.out;have g6:=U2.c6;have z6:=U2.frozen 6;have HU2:=Hi U2;clear U2 hu;go_wp2
       go_quiet (fail)
       go_wp2
       go_ret3
       refine⟨Ec ?_ ?_ rfl,?_,?_⟩
       ·rw[hres.out];rfl
       ·rw[hres.out];exact CB (BM s (p+1))
       ·rw[hres.out];refine UAt.le ?_ ((AC _).drewN _);have sm:=HU2.out.sm;have hl:=HL.out;refine UAt.put HU2.out 6 _ _ (fun _ _=>by rw[CX];rfl) rfl rfl ?_;simp only[PU.small,List.length_take,List.length_drop]at sm⊢;omega
       ·exact((HLE1.out.kp b).set 6 _).le ((AC _).drewN _)
      ·have e63:(c==63)=false:=by simpa using h63
       have hF:Hid (((bs s).take (p+d)).all (fun c=> !El c)=true):=FV (q:=El) NR HST.out HQ.out (fun x hx=>by
        have n91:x≠91:=by rintro rfl;exact h91 hx
        have n58:x≠58:=by rintro rfl;exact h58 hx
        have n59:x≠59:=by rintro rfl;exact h59 hx
        have n63:x≠63:=by rintro rfl;exact h63 hx
        simp[El,n91,n58,n59,n63])
       clear h91 h58 h59 h63;go_wp2;go_roundg (gk-d)
       case measure=>omega
       case rel=>exact⟨p+d,by omega,HLE1.out,HIT1.out,hF.out⟩
  ·have hnx:=fun ty=>Lib.run_next_end_at (P:=Tryz.prog) wr _ s p ty hit hlt
   have hall:Hid ((bs s).all (fun c=> !El c)=true):=by
    have h1:=HQ.out;rw[List.take_of_length_le (by rw[HL.out];omega)]at h1;exact h1
   clear hit;have hres:Hid (Do (bs s) u=(.params,[],{u with host:=bs s,wild:=decide (bs s=[42])})):=Hl _ _ hall.out;have U1:=hu.le HLE.out;have g6:=U1.c6;have z6:=U1.frozen 6;have g2:=U1.c2;have z2:=U1.frozen 2;have HU1:=Hi U1;clear U1 hu;go_wp2
   go_ret3
   refine⟨Ec ?_ ?_ rfl,?_,?_⟩
   ·rw[hres.out];rfl
   ·rw[hres.out];rfl
   ·rw[hres.out];have sm:=HU1.out.sm;have hl:=HL.out;refine UAt.put (UAt.put HU1.out 6 _ {u with host:=bs s} (fun _ _=>by rw[show s=st (bs s)from(FB s).symm,AV];rfl) rfl rfl ?_) 2 _ _ (fun _ _=>?_) rfl rfl ?_
    ·simp only[PU.small]at sm⊢;omega
    ·show _=({u with host:=bs s,wild:=decide (bs s=[42])}:PU).cells _ _;rw[Bw];rfl
    ·simp only[PU.small]at sm⊢;omega
   ·exact(((HLE.out.kp b).set 6 _).set 2 _)
def Gq(b:Nat)(w:World)(e:Ending)(w':World):Prop:=
 ∃v t T a u',e= .returned (.tuple #[v,.string t,.iface T (.pointer (some a))])∧UAt w' b u'∧Kp b w w'
def Cw(b:Nat)(w:World)(r:Option (Sq×Tx×PU))(e:Ending)(w':World):Prop:=
 match r with
 |some x=>EZ b w x e w'
 |none=>Gq b w e w'
theorem Cw.some{b:Nat}{w:World}{r:Option (Sq×Tx×PU)}{x:Sq×Tx×PU}{e:Ending}{w':World}(h:r=some x)(k:EZ b w x e w'):Cw b w r e w':=by subst h;exact k
theorem Cw.none{b:Nat}{w:World}{r:Option (Sq×Tx×PU)}{e:Ending}{w':World}(h:r=none)(k:Gq b w e w'):Cw b w r e w':=by subst h;exact k
theorem Kr(s:ByteArray)(b:Nat)(u:PU)(w:World)(hu:UAt w b u):
 Calls Tryz.prog 89 #[.pointer (some ⟨b,0,none⟩),.string s] w (EZ b w (Cl (bs s) u)):=by
 have g3:=hu.c3;have z3:=hu.frozen 3;have HU:=Hi hu;clear hu;go_enter Tryz.func89,Tryz.ntmps89;go_wp2_with fail
 refine(cut_c _ _ _).mono ?_;rintro e w' ⟨rfl,rfl⟩;have hb:Lib.hasPrefix (bs s) (bs ⟨#[47,47]⟩)=[47,47].isPrefixOf (bs s):=rfl;have hp:Lib.trimPrefix (bs s) (bs ⟨#[47,47]⟩)=if [47,47].isPrefixOf (bs s)then(bs s).drop 2 else bs s:=rfl;rw[hb,hp];clear hb hp;cases h:([47,47]:Tx).isPrefixOf (bs s)
 ·have hres:Hid (Cl (bs s) u=(.user,bs s,{u with slash:=false})):=by unfold Cl;rw[if_neg (by rw[h];decide)];exact rfl
  rw[if_neg (by decide)];clear h;go_wp2
  go_ret3
  refine⟨Ec ?_ ?_ rfl,?_,(BK _ _ _ _)⟩
  ·rw[hres.out];rfl
  ·rw[hres.out];rfl
  ·rw[hres.out];exact UAt.put HU.out 3 _ _ (fun _ _=>rfl) rfl rfl HU.out.sm
 ·have hres:Hid (Cl (bs s) u=(.user,(bs s).drop 2,{u with slash:=true})):=by unfold Cl;rw[if_pos h];exact rfl
  rw[if_pos rfl];clear h;go_wp2
  go_ret3
  refine⟨Ec ?_ ?_ rfl,?_,(BK _ _ _ _)⟩
  ·rw[hres.out];rfl
  ·rw[hres.out];rfl
  ·rw[hres.out];exact UAt.put HU.out 3 _ _ (fun _ _=>rfl) rfl rfl HU.out.sm
def Cb(l:Tx)(u:PU):Option (Sq×Tx×PU):=
 match Lib.atoiAll (En l).1 with
 | .ok v=>some ((En l).2.1,(En l).2.2,{u with port:=v})
 |_=>none
theorem My(x:UInt8)(h:128≤x.toNat):Ei x=false:=by
 have n3:x≠59:=by rintro rfl;revert h;decide
 have n4:x≠63:=by rintro rfl;revert h;decide
 simp[Ei,n3,n4]
theorem FN(l:Tx)(i:Nat)(hi:i<l.length)(hn:(l.take i).all (fun c=> !Ei c)=true)(h:Ei l[i]=true):
 En l=(l.take i,if l[i]=59 then .params else .heads,l.drop (i+1)):=by
 unfold En;simp only[Eg hi h hn,if_pos hi,Db hi]
theorem Hk(l:Tx)(hn:l.all (fun c=> !Ei c)=true):En l=(l,.params,[]):=by
 unfold En;simp only[EC hn,if_neg (Nat.lt_irrefl _)]
theorem DC{l:Tx}{u:PU}{v:Int}{d:Tx}{q:Sq}{t:Tx}(h:En l=(d,q,t))(hv:Lib.atoiAll d= .ok v):Cb l u=some (q,t,{u with port:=v}):=by
 unfold Cb;rw[h];simp only[hv]
theorem Fw{l:Tx}{u:PU}{d:Tx}{q:Sq}{t:Tx}(h:En l=(d,q,t))(hv:∀v,Lib.atoiAll d≠.ok v):Cb l u=none:=by
 unfold Cb;rw[h];rcases hd:Lib.atoiAll d with v|_|_
 ·exact absurd hd (hv v)
 ·rfl
 ·rfl
theorem Qg(s:ByteArray)(b:Nat)(u:PU)(w:World)(hu:UAt w b u)(hs:s.size≤1099511627776)(hL:BW w):
 Calls Tryz.prog 134 #[.pointer (some ⟨b,0,none⟩),.string s] w (Cw b w (Cb (bs s) u)):=by
 have HL:=Hi (BD s);go_enter Tryz.func134,Tryz.ntmps134;go_wp2
 go_loopg [] (s.size) (fun n wr=>∃p:Nat,n+p=s.size∧Le w wr∧wr.heap[w.heap.size]? =some (.stringIter s p)∧((bs s).take p).all (fun c=> !Ei c)=true)
 case atStart=>exact⟨0,by omega,(AC w).iter s 0,World.iter_heap _ _ _,rfl⟩
 case round=>
  obtain⟨p,hn,hle,hit,hq⟩:=hrel;have HQ:=Hi hq;have HLE:=Hi hle;have HN:gk+p≤s.size∧s.size≤gk+p:=by omega
  clear hn hq hle;by_cases hlt:p<s.size
  ·obtain⟨c,d,W1,hnx,hst,hit1,hW1⟩:=CY (P:=Tryz.prog) hit hlt;have HLE1:=Hi (hW1▸HLE.out.iterAt (NL _) s (p+d):Le w W1);have HST:=Hi hst;have HS2:1≤d∧p+d≤s.size∧0≤c∧c≤1114111:=⟨hst.1,hst.2.1,hst.2.2.1,hst.2.2.2.1⟩;have HIT1:=Hi hit1;clear hW1 hst hit hit1;by_cases h59:c=59
   ·subst h59;obtain⟨hp,h1⟩:=Ci HST.out 59 (by decide) rfl;have hf:Hid (En (bs s)=((bs s).take p,.params,(bs s).drop (p+1))):=by have h2:=FN (bs s) p hp HQ.out (by rw[h1];rfl);rw[h1]at h2;exact h2
    clear h1 hp;go_wp2_with fail
    refine(MO _ _ (by rw[←BD,Ao];simp only[List.length_drop,List.length_take,HL.out];omega) (hL.le HLE1.out)).mono ?_;rintro e w2 ⟨hle2,hr⟩;have HLE2:=Hi (Le.trans HLE1.out hle2);have U2:=hu.le HLE2.out;have g7:=U2.c7;have z7:=U2.frozen 7;have HU2:=Hi U2;clear U2 hu hle2 hL;rcases hr with⟨v,hv,rfl⟩|⟨hv,n,a,hn1,hn2,rfl⟩
    ·have hres:Hid (Cb (bs s) u=some (.params,(bs s).drop (p+1),{u with port:=v})):=DC hf.out (by rw[←hv];rw[Ao];rfl);have hbd:=Hi (Lib.atoiAll_bounds hv);clear hv;go_wp2
     go_quiet (fail)
     go_wp2
     go_ret3
     refine Cw.some hres.out ⟨Ec rfl ?_ rfl,?_,?_⟩
     ·exact CB (BM s (p+1))
     ·refine UAt.le ?_ ((AC _).drewN _);have sm:=HU2.out.sm;have hbd2:=hbd.out;refine UAt.put HU2.out 7 _ _ (fun _ _=>rfl) rfl rfl ?_;simp only[PU.small]at sm⊢;omega
     ·exact((HLE2.out.kp b).set 7 _).le ((AC _).drewN _)
    ·have hres:Hid (Cb (bs s) u=none):=Fw hf.out (fun v h=>hv v (by rw[←h];rw[Ao];rfl));clear hv;go_wp2
     go_quiet (fail)
     go_wp2
     go_ret3
     refine Cw.none hres.out ⟨_,_,_,_,{u with port:=n},rfl,?_,?_⟩
     ·refine UAt.le ?_ ((AC _).drewN _);have sm:=HU2.out.sm;refine UAt.put HU2.out 7 _ _ (fun _ _=>rfl) rfl rfl ?_;simp only[PU.small]at sm⊢;omega
     ·exact((HLE2.out.kp b).set 7 _).le ((AC _).drewN _)
   ·have e59:(c==59)=false:=by simpa using h59
    by_cases h63:c=63
    ·subst h63;obtain⟨hp,h1⟩:=Ci HST.out 63 (by decide) rfl;have hf:Hid (En (bs s)=((bs s).take p,.heads,(bs s).drop (p+1))):=by have h2:=FN (bs s) p hp HQ.out (by rw[h1];rfl);rw[h1]at h2;exact h2
     clear h1 hp;go_wp2_with fail
     refine(MO _ _ (by rw[←BD,Ao];simp only[List.length_drop,List.length_take,HL.out];omega) (hL.le HLE1.out)).mono ?_;rintro e w2 ⟨hle2,hr⟩;have HLE2:=Hi (Le.trans HLE1.out hle2);have U2:=hu.le HLE2.out;have g7:=U2.c7;have z7:=U2.frozen 7;have HU2:=Hi U2;clear U2 hu hle2 hL;rcases hr with⟨v,hv,rfl⟩|⟨hv,n,a,hn1,hn2,rfl⟩
     ·have hres:Hid (Cb (bs s) u=some (.heads,(bs s).drop (p+1),{u with port:=v})):=DC hf.out (by rw[←hv];rw[Ao];rfl);have hbd:=Hi (Lib.atoiAll_bounds hv);clear hv;go_wp2
      go_quiet (fail)
      go_wp2
      go_ret3
      refine Cw.some hres.out ⟨Ec rfl ?_ rfl,?_,?_⟩
      ·exact CB (BM s (p+1))
      ·refine UAt.le ?_ ((AC _).drewN _);have sm:=HU2.out.sm;have hbd2:=hbd.out;refine UAt.put HU2.out 7 _ _ (fun _ _=>rfl) rfl rfl ?_;simp only[PU.small]at sm⊢;omega
      ·exact((HLE2.out.kp b).set 7 _).le ((AC _).drewN _)
     ·have hres:Hid (Cb (bs s) u=none):=Fw hf.out (fun v h=>hv v (by rw[←h];rw[Ao];rfl));clear hv;go_wp2
      go_quiet (fail)
      go_wp2
      go_ret3
      refine Cw.none hres.out ⟨_,_,_,_,{u with port:=n},rfl,?_,?_⟩
      ·refine UAt.le ?_ ((AC _).drewN _);have sm:=HU2.out.sm;refine UAt.put HU2.out 7 _ _ (fun _ _=>rfl) rfl rfl ?_;simp only[PU.small]at sm⊢;omega
      ·exact((HLE2.out.kp b).set 7 _).le ((AC _).drewN _)
    ·have e63:(c==63)=false:=by simpa using h63
     have hF:Hid (((bs s).take (p+d)).all (fun c=> !Ei c)=true):=FV (q:=Ei) My HST.out HQ.out (fun x hx=>by
      have n59:x≠59:=by rintro rfl;exact h59 hx
      have n63:x≠63:=by rintro rfl;exact h63 hx
      simp[Ei,n59,n63])
     clear h59 h63;go_wp2;go_roundg (gk-d)
     case measure=>omega
     case rel=>exact⟨p+d,by omega,HLE1.out,HIT1.out,hF.out⟩
  ·have hnx:=fun ty=>Lib.run_next_end_at (P:=Tryz.prog) wr _ s p ty hit hlt
   have hall:Hid ((bs s).all (fun c=> !Ei c)=true):=by
    have h1:=HQ.out;rw[List.take_of_length_le (by rw[HL.out];omega)]at h1;exact h1
   clear hit;have hf:Hid (En (bs s)=(bs s,.params,[])):=Hk _ hall.out;clear hlt;go_wp2_with fail
   refine(MO _ _ hs (hL.le HLE.out)).mono ?_;rintro e w2 ⟨hle2,hr⟩;have HLE2:=Hi (Le.trans HLE.out hle2);have U2:=hu.le HLE2.out;have g7:=U2.c7;have z7:=U2.frozen 7;have HU2:=Hi U2;clear U2 hu hle2 hL;rcases hr with⟨v,hv,rfl⟩|⟨hv,n,a,hn1,hn2,rfl⟩
   ·have hres:Hid (Cb (bs s) u=some (.params,[],{u with port:=v})):=DC hf.out (by rw[←hv]);have hbd:=Hi (Lib.atoiAll_bounds hv);clear hv;go_wp2
    go_ret3
    refine Cw.some hres.out ⟨Ec rfl ?_ rfl,?_,?_⟩
    ·rfl
    ·refine UAt.le ?_ (AC _);have sm:=HU2.out.sm;have hbd2:=hbd.out;refine UAt.put HU2.out 7 _ _ (fun _ _=>rfl) rfl rfl ?_;simp only[PU.small]at sm⊢;omega
    ·exact((HLE2.out.kp b).set 7 _).le (AC _)
   ·have hres:Hid (Cb (bs s) u=none):=Fw hf.out (fun v h=>hv v (by rw[←h]));clear hv;go_wp2
    go_ret3
    refine Cw.none hres.out ⟨_,_,_,_,{u with port:=n},rfl,?_,?_⟩
    ·refine UAt.le ?_ (AC _);have sm:=HU2.out.sm;refine UAt.put HU2.out 7 _ _ (fun _ _=>rfl) rfl rfl ?_;simp only[PU.small]at sm⊢;omega
    ·exact((HLE2.out.kp b).set 7 _).le (AC _)
end Go.Proofs.YtejhpdcjafbklaaGreatDoor
namespace Go.Proofs.YtejhpdcjafbklaaGreatDoor
open Go.RowKit
def nAl(c:UInt8):Bool:= !FG c
theorem PV(x:UInt8)(h:128≤x.toNat):FG x=false:=by
 rw[←DP];simp only[alB,decide_eq_false_iff_not];omega
theorem EQ(l:Tx)(u:PU)(i:Nat)(h3:¬l.length<3)(hi:i<l.length)(hn:(l.take i).all (fun c=> !nAl c)=true)(h:l[i]=58):
 BQ l u=if(l.take i).map Bf=Fb∨(l.take i).map Bf=DT then some (.slashes,l.drop (i+1),{u with scheme:=(l.take i).map Bf})else some (.stop,[],{u with scheme:=(l.take i).map Bf,raw:=l.drop (i+1)}):=by
 have hf:l.findIdx (fun c=> !FG c)=i:=Eg (p:=nAl) hi (by rw[h];rfl) hn;unfold BQ;rw[if_neg h3];simp only[hf,if_pos hi,Db hi,h,if_true]
theorem Fv(l:Tx)(u:PU)(i:Nat)(h3:¬l.length<3)(hi:i<l.length)(hn:(l.take i).all (fun c=> !nAl c)=true)(h:l[i]≠58)(ha:FG l[i]=false):BQ l u=none:=by
 have hf:l.findIdx (fun c=> !FG c)=i:=Eg (p:=nAl) hi (by unfold nAl;rw[ha];rfl) hn;unfold BQ;rw[if_neg h3];simp only[hf,if_pos hi,Db hi,if_neg h]
theorem It(l:Tx)(u:PU)(h3:¬l.length<3)(hn:l.all (fun c=> !nAl c)=true):BQ l u=none:=by
 have hf:l.findIdx (fun c=> !FG c)=l.length:=EC (p:=nAl) hn;unfold BQ;rw[if_neg h3];simp only[hf,if_neg (Nat.lt_irrefl _)]
theorem N4(l m:Tx)(h:l=m):((st l).toList==m)=true:=by rw[Bw,AV];simpa using h
theorem Ko(l m:Tx)(h:l≠m):((st l).toList==m)=false:=by rw[Bw,AV];simpa using h
theorem Mq(s:ByteArray)(b:Nat)(u:PU)(w:World)(hu:UAt w b u)(hs:s.size≤1099511627776)(h3:¬s.size<3):
 Calls Tryz.prog 65 #[.pointer (some ⟨b,0,none⟩),.string s] w (Cw b w (BQ (bs s) u)):=by
 have HL:=Hi (BD s);have H3:Hid (¬(bs s).length<3):=by rw[BD];exact h3
 go_enter Tryz.func65,Tryz.ntmps65;go_wp2
 go_loopg [] (s.size) (fun n wr=>∃p:Nat,n+p=s.size∧Le w wr∧wr.heap[w.heap.size]? =some (.stringIter s p)∧((bs s).take p).all (fun c=> !nAl c)=true)
 case atStart=>exact⟨0,by omega,(AC w).iter s 0,World.iter_heap _ _ _,rfl⟩
 case round=>
  obtain⟨p,hn,hle,hit,hq⟩:=hrel;have HQ:=Hi hq;have HLE:=Hi hle;have HN:gk+p≤s.size∧s.size≤gk+p:=by omega
  clear hn hq hle;by_cases hlt:p<s.size
  ·obtain⟨c,d,W1,hnx,hst,hit1,hW1⟩:=CY (P:=Tryz.prog) hit hlt;have HLE1:=Hi (hW1▸HLE.out.iterAt (NL _) s (p+d):Le w W1);have HST:=Hi hst;have HS2:1≤d∧p+d≤s.size∧0≤c∧c≤1114111:=⟨hst.1,hst.2.1,hst.2.2.1,hst.2.2.2.1⟩;have HIT1:=Hi hit1;clear hW1 hst hit hit1;by_cases h58:c=58
   ·subst h58;obtain⟨hp,h1⟩:=Ci HST.out 58 (by decide) rfl;have U2:=hu.le HLE1.out;have HU2:=Hi U2;clear U2;go_wp2_with fail
    refine(GE _ _ (by rw[←BD,Ao];simp only[List.length_drop,List.length_take,HL.out];omega)).mono ?_;rintro e w2 ⟨rfl,hle2⟩;have HLE2:=Hi (Le.trans HLE1.out hle2);have U3:=HU2.out.le hle2;have g0:=U3.c0;have z0:=U3.frozen 0;have g1:=U3.c1;have z1:=U3.frozen 1;have HU3:=Hi U3;have hbe:bs (s.extract 0 p)=(bs s).take p:=by rw[Ao];rfl
    rw[hbe];clear U3 hle2 hbe;obtain⟨sc,hsc⟩:∃sc,sc=((bs s).take p).map Bf:=⟨_,rfl⟩;have h2:=EQ (bs s) u p H3.out hp HQ.out h1;rw[←hsc]at h2;rw[←hsc];have HSC:Hid (sc.length≤1099511627776):=by rw[hsc,List.length_map,List.length_take,HL.out];show _≤_;omega
    clear hsc h1 hp hu;by_cases hs1:sc=Fb
    ·have hres:Hid (BQ (bs s) u=some (.slashes,(bs s).drop (p+1),{u with scheme:=sc})):=by rw[if_pos (.inl hs1)]at h2;exact h2
     clear h2;have b1:=N4 sc [115,105,112] hs1;clear hs1;go_wp2
     go_quiet (fail)
     go_wp2
     go_ret3
     refine Cw.some hres.out ⟨Ec rfl ?_ rfl,?_,?_⟩
     ·exact CB (BM s (p+1))
     ·refine UAt.le ?_ ((AC _).drewN _);have sm:=HU3.out.sm;have hsc:=HSC.out;refine UAt.put HU3.out 0 _ _ (fun _ _=>rfl) rfl rfl ?_;simp only[PU.small]at sm⊢;omega
     ·exact((HLE2.out.kp b).set 0 _).le ((AC _).drewN _)
    ·by_cases hs2:sc=DT
     ·have hres:Hid (BQ (bs s) u=some (.slashes,(bs s).drop (p+1),{u with scheme:=sc})):=by rw[if_pos (.inr hs2)]at h2;exact h2
      clear h2;have b1:=Ko sc [115,105,112] hs1;have b2:=N4 sc [115,105,112,115] hs2;clear hs1 hs2;go_wp2
      go_quiet (fail)
      go_wp2
      go_ret3
      refine Cw.some hres.out ⟨Ec rfl ?_ rfl,?_,?_⟩
      ·exact CB (BM s (p+1))
      ·refine UAt.le ?_ ((AC _).drewN _);have sm:=HU3.out.sm;have hsc:=HSC.out;refine UAt.put HU3.out 0 _ _ (fun _ _=>rfl) rfl rfl ?_;simp only[PU.small]at sm⊢;omega
      ·exact((HLE2.out.kp b).set 0 _).le ((AC _).drewN _)
     ·have hres:Hid (BQ (bs s) u=some (.stop,[],{u with scheme:=sc,raw:=(bs s).drop (p+1)})):=by rw[if_neg (by rintro(h|h);exact hs1 h;exact hs2 h)]at h2;exact h2
      clear h2;have b1:=Ko sc [115,105,112] hs1;have b2:=Ko sc [115,105,112,115] hs2;clear hs1 hs2;go_wp2
      go_ret3
      refine Cw.some hres.out ⟨Ec rfl ?_ rfl,?_,?_⟩
      ·rfl
      ·have sm:=HU3.out.sm;have hsc:=HSC.out;have hl:=HL.out;refine UAt.put (UAt.put HU3.out 0 _ {u with scheme:=sc} (fun _ _=>rfl) rfl rfl ?_) 1 _ _ (fun _ _=>by rw[BM];rfl) rfl rfl ?_;all_goals simp only[PU.small,List.length_drop]at sm⊢;omega
      ·exact(((HLE2.out.kp b).set 0 _).set 1 _)
   ·have e58:(c==58)=false:=by simpa using h58
    go_wp2_with fail
    refine(Lb _ _).mono ?_;rintro e w2 ⟨rfl,rfl⟩;by_cases hal:alB c=true
    ·have hF:Hid (((bs s).take (p+d)).all (fun c=> !nAl c)=true):=by
      obtain⟨_,_,_,_,h5⟩:=HST.out;rcases h5 with⟨hp,e,rfl,_⟩|⟨e,_⟩
      ·show((bs s).take (p+1)).all _=true;rw[List.take_succ_eq_append_getElem hp,Dm,HQ.out];rw[e,DP]at hal;simp[nAl,hal]
      ·simp only[alB,decide_eq_true_eq]at hal;omega
     clear h58;go_wp2;go_roundg (gk-d)
     case measure=>omega
     case rel=>exact⟨p+d,by omega,HLE1.out,HIT1.out,hF.out⟩
    ·have hal2:alB c=false:=by simpa using hal
     have hres:Hid (BQ (bs s) u=none):=by
      obtain⟨_,_,_,_,h5⟩:=HST.out;have hp:p<(bs s).length:=by rw[HL.out];exact hlt
      rcases h5 with⟨_,e,rfl,_⟩|⟨e,h6⟩
      ·refine Fv _ _ p H3.out hp HQ.out (fun e2=>?_) (by rw[←DP,←e];exact hal2);rw[e2]at e;exact h58 e
      ·have h7:=h6 p hp (NL _) (by omega);refine Fv _ _ p H3.out hp HQ.out (fun e2=>?_) (PV _ h7);rw[e2]at h7;revert h7;decide
     clear hal h58;go_wp2_with fail
     refine(ER _ _).mono ?_;rintro e w3 ⟨rfl,hle3⟩;have HLE3:=Hi (Le.trans HLE1.out hle3);have HU3:=Hi (hu.le HLE3.out);clear hu hle3;go_wp2
     go_ret3
     exact Cw.none hres.out ⟨_,_,_,_,u,rfl,HU3.out,HLE3.out.kp b⟩
  ·have hnx:=fun ty=>Lib.run_next_end_at (P:=Tryz.prog) wr _ s p ty hit hlt
   have hall:Hid ((bs s).all (fun c=> !nAl c)=true):=by
    have h1:=HQ.out;rw[List.take_of_length_le (by rw[HL.out];omega)]at h1;exact h1
   clear hit;have hres:Hid (BQ (bs s) u=none):=It _ _ H3.out hall.out;go_wp2_with fail
   refine(ER _ _).mono ?_;rintro e w3 ⟨rfl,hle3⟩;have HLE3:=Hi (Le.trans HLE.out hle3);have HU3:=Hi (hu.le HLE3.out);clear hu hle3;go_wp2
   go_ret3
   exact Cw.none hres.out ⟨_,_,_,_,u,rfl,HU3.out,HLE3.out.kp b⟩
theorem Gy(s:ByteArray)(b:Nat)(u:PU)(w:World)(hu:UAt w b u)(h3:s.size<3):
 Calls Tryz.prog 65 #[.pointer (some ⟨b,0,none⟩),.string s] w (Cw b w (BQ (bs s) u)):=by
 have h3':(bs s).length<3:=by rw[BD];exact h3
 by_cases hst:bs s=[42]
 ·have hres:Hid (BQ (bs s) u=some (.stop,[],{u with host:=[42],wild:=true})):=by unfold BQ;rw[if_pos h3',if_pos hst];exact rfl
  have hb:(s.toList==[42])=true:=by rw[Bw];simpa using hst
  have g6:=hu.c6;have z6:=hu.frozen 6;have g2:=hu.c2;have z2:=hu.frozen 2;have HU:=Hi hu;clear hu hst h3';go_enter Tryz.func65,Tryz.ntmps65;go_wp2
  go_ret3
  refine Cw.some hres.out ⟨Ec rfl rfl rfl,?_,((BK _ _ _ _).set _ _)⟩;have sm:=HU.out.sm;refine UAt.put (UAt.put HU.out 6 _ {u with host:=[42]} (fun _ _=>rfl) rfl rfl ?_) 2 _ _ (fun _ _=>rfl) rfl rfl ?_;all_goals simp only[PU.small,LC,LN]at sm⊢;omega
 ·have hres:Hid (BQ (bs s) u=none):=by unfold BQ;rw[if_pos h3',if_neg hst];exact rfl
  have hb:(s.toList==[42])=false:=by rw[Bw];simpa using hst
  clear hst h3';go_enter Tryz.func65,Tryz.ntmps65;go_wp2_with fail
  refine(ER _ _).mono ?_;rintro e w3 ⟨rfl,hle3⟩;have HLE3:=Hi hle3;have HU3:=Hi (hu.le hle3);clear hu hle3;go_wp2
  go_ret3
  exact Cw.none hres.out ⟨_,_,_,_,u,rfl,HU3.out,HLE3.out.kp b⟩
theorem Kt(s:ByteArray)(b:Nat)(u:PU)(w:World)(hu:UAt w b u)(hs:s.size≤1099511627776):
 Calls Tryz.prog 65 #[.pointer (some ⟨b,0,none⟩),.string s] w (Cw b w (BQ (bs s) u)):=by
 by_cases h3:s.size<3
 ·exact Gy s b u w hu h3
 ·exact Mq s b u w hu hs h3
theorem KP(s p:ByteArray)(w:World)(hs:s.size≤1099511627776)(hp:p.size≤1099511627776):
 Calls Tryz.prog 139 #[.string s,.string p] w fun e w'=>∃r:Int,(r= -1∨0≤r∧r+p.size≤s.size)∧e= .returned (.int .i64 r)∧w=w':=by
 go_enter Tryz.func139,Tryz.ntmps139;go_wp2
 go_loopg [5] (s.size+1) (fun n i wr=>∃k:Nat,n+k=s.size+1∧i= .int .i64 k∧w=wr)
 case atStart=>exact⟨0,by omega,rfl,rfl⟩
 case round=>
  obtain⟨k,hn,rfl,rfl⟩:=hrel;by_cases hk:k+p.size≤s.size
  ·go_wp2
   ·go_ret;exact⟨k,.inr ⟨by omega,by omega⟩,rfl,rfl⟩
   ·go_roundg (gk-1)
    case measure=>omega
    case rel=>exact⟨k+1,by omega,by go_num,rfl⟩
  ·go_wp2;go_ret;exact⟨-1,.inl rfl,rfl,rfl⟩
end Go.Proofs.YtejhpdcjafbklaaGreatDoor
namespace Go.Proofs.YtejhpdcjafbklaaGreatDoor
open Go.RowKit
def Ra(b:Nat)(w:World)(l:Tx)(u:PU)(e:Ending)(w':World):Prop:=(∃k,EZ b w (fIp l k u) e w')∨Gq b w e w'
theorem ip_c(s:ByteArray)(b:Nat)(u:PU)(w:World)(hu:UAt w b u)(hs:s.size≤1099511627776):
 Calls Tryz.prog 133 #[.pointer (some ⟨b,0,none⟩),.string s] w (Ra b w (bs s) u):=by
 have HL:=Hi (BD s);have g6:=hu.c6;have z6:=hu.frozen 6;have HU:=Hi hu;clear hu;go_enter Tryz.func133,Tryz.ntmps133;go_wp2_with fail
 refine(KP _ _ _ ?_ (by simp[ByteArray.size])).mono ?_
 ·rw[←BD,Ao];simp only[List.length_drop,List.length_take,HL.out];omega
 rintro e w' ⟨r,hr,rfl,rfl⟩;have hr2:r= -1∨0≤r∧r+1≤s.size:=by
  rcases hr with h|⟨h1,h2⟩
  ·exact .inl h
  ·refine .inr ⟨h1,?_⟩;rw[←BD (s.extract _ _),Ao]at h2;simp only[List.length_drop,List.length_take,HL.out]at h2;have e1:(ByteArray.mk #[93]).size=1:=rfl;rw[e1]at h2;omega
 clear hr;by_cases hr0:r≤0
 ·clear hr2;go_wp2_with fail
  refine(ER _ _).mono ?_;rintro e w3 ⟨rfl,hle3⟩;have HLE3:=Hi hle3;have HU3:=Hi (HU.out.le hle3);clear hle3;go_wp2
  go_ret3
  exact .inr ⟨_,_,_,_,u,rfl,HU3.out,HLE3.out.kp b⟩
 ·obtain⟨n,rfl⟩:∃n:Nat,r=n:=⟨r.toNat,by omega⟩;have hn:n+1≤s.size∧1≤n:=by omega
  clear hr2 hr0;by_cases he:n+1=s.size
  ·have hb:(((n:Int)+1)==(s.size:Int))=true:=by simp;omega
   have hres:Hid (fIp (bs s) n u=(.params,[],{u with host:=(bs s).take (n+1)})):=by
    unfold fIp;rw[List.drop_of_length_le (by rw[HL.out];omega)];exact rfl
   clear he;go_wp2
   go_ret3
   refine .inl ⟨n,Ec ?_ ?_ rfl,?_,BK _ _ _ _⟩
   ·rw[hres.out];rfl
   ·rw[hres.out];rfl
   ·rw[hres.out];have sm:=HU.out.sm;have hl:=HL.out;refine UAt.put HU.out 6 _ _ (fun _ _=>by rw[CX];rfl) rfl rfl ?_;simp only[PU.small,List.length_take]at sm⊢;omega
  ·have hb:(((n:Int)+1)==(s.size:Int))=false:=by simp;omega
   have hn2:n+1<s.size:=by omega
   have hp:n+1<(bs s).length:=by rw[HL.out];exact hn2
   have h0:0<(s.extract (n+1) s.size).size:=by rw[←BD,Ao];simp only[List.length_drop,List.length_take,HL.out];omega
   have hx:(s.extract (n+1) s.size)[0]'h0=(bs s)[n+1]:=by
    rw[Nk _ _ h0];simp only[Ao,List.getElem_drop,List.getElem_take,Nat.add_zero]
   have hdr:(bs s).drop (n+1)=(bs s)[n+1]::(bs s).drop (n+2):=List.drop_eq_getElem_cons hp;have hext:Hid ((s.extract (n+1) s.size).extract 1 (s.size-(n+1))=st ((bs s).drop (n+2))):=by
    have hz:(s.extract (n+1) s.size).size=s.size-(n+1):=by rw[←BD,Ao];simp only[List.length_drop,List.length_take,HL.out];omega
    rw[←hz,BM,Ao,List.take_of_length_le (by rw[HL.out];exact NL _),List.drop_drop];exact rfl
   clear he;by_cases c1:(bs s)[n+1]=58
   ·have hres:=Hi (show fIp (bs s) n u=(.port,(bs s).drop (n+2),{u with host:=(bs s).take (n+1)})from by
     unfold fIp;rw[hdr];simp only[if_pos c1])
    have hv:(((s.extract (n+1) s.size)[0]'h0).toNat:Int)=58:=by rw[hx,c1];rfl
    clear c1 hx hdr hp;go_wp2
    go_quiet (fail)
    go_wp2
    go_ret3
    refine .inl ⟨n,Ec ?_ ?_ rfl,?_,(BK _ _ _ _).le ((AC _).drewN _)⟩
    ·rw[hres.out];rfl
    ·rw[hres.out];exact CB hext.out
    ·rw[hres.out];refine UAt.le ?_ ((AC _).drewN _);have sm:=HU.out.sm;have hl:=HL.out;refine UAt.put HU.out 6 _ _ (fun _ _=>by rw[CX];rfl) rfl rfl ?_;simp only[PU.small,List.length_take]at sm⊢;omega
   have b1:((((s.extract (n+1) s.size)[0]'h0).toNat:Int)==58)=false:=by
    rw[hx];simp only[beq_eq_false_iff_ne,ne_eq];intro h;exact c1 (Dw (n:=58) h (by decide))
   by_cases c2:(bs s)[n+1]=59
   ·have hres:=Hi (show fIp (bs s) n u=(.params,(bs s).drop (n+2),{u with host:=(bs s).take (n+1)})from by
     unfold fIp;rw[hdr];simp only[if_neg c1,if_pos c2])
    have hv:(((s.extract (n+1) s.size)[0]'h0).toNat:Int)=59:=by rw[hx,c2];rfl
    clear c1 c2 hx hdr hp b1;go_wp2
    go_quiet (fail)
    go_wp2
    go_ret3
    refine .inl ⟨n,Ec ?_ ?_ rfl,?_,(BK _ _ _ _).le ((AC _).drewN _)⟩
    ·rw[hres.out];rfl
    ·rw[hres.out];exact CB hext.out
    ·rw[hres.out];refine UAt.le ?_ ((AC _).drewN _);have sm:=HU.out.sm;have hl:=HL.out;refine UAt.put HU.out 6 _ _ (fun _ _=>by rw[CX];rfl) rfl rfl ?_;simp only[PU.small,List.length_take]at sm⊢;omega
   have b2:((((s.extract (n+1) s.size)[0]'h0).toNat:Int)==59)=false:=by
    rw[hx];simp only[beq_eq_false_iff_ne,ne_eq];intro h;exact c2 (Dw (n:=59) h (by decide))
   by_cases c3:(bs s)[n+1]=63
   ·have hres:=Hi (show fIp (bs s) n u=(.heads,(bs s).drop (n+2),{u with host:=(bs s).take (n+1)})from by
     unfold fIp;rw[hdr];simp only[if_neg c1,if_neg c2,if_pos c3])
    have hv:(((s.extract (n+1) s.size)[0]'h0).toNat:Int)=63:=by rw[hx,c3];rfl
    clear c1 c2 c3 hx hdr hp b1 b2;go_wp2
    go_quiet (fail)
    go_wp2
    go_ret3
    refine .inl ⟨n,Ec ?_ ?_ rfl,?_,(BK _ _ _ _).le ((AC _).drewN _)⟩
    ·rw[hres.out];rfl
    ·rw[hres.out];exact CB hext.out
    ·rw[hres.out];refine UAt.le ?_ ((AC _).drewN _);have sm:=HU.out.sm;have hl:=HL.out;refine UAt.put HU.out 6 _ _ (fun _ _=>by rw[CX];rfl) rfl rfl ?_;simp only[PU.small,List.length_take]at sm⊢;omega
   have b3:((((s.extract (n+1) s.size)[0]'h0).toNat:Int)==63)=false:=by
    rw[hx];simp only[beq_eq_false_iff_ne,ne_eq];intro h;exact c3 (Dw (n:=63) h (by decide))
   have hres:=Hi (show fIp (bs s) n u=(.params,[],{u with host:=(bs s).take (n+1)})from by
    unfold fIp;rw[hdr];simp only[if_neg c1,if_neg c2,if_neg c3])
   clear c1 c2 c3 hx hdr hp;go_wp2
   go_ret3
   refine .inl ⟨n,Ec ?_ ?_ rfl,?_,BK _ _ _ _⟩
   ·rw[hres.out];rfl
   ·rw[hres.out];rfl
   ·rw[hres.out];have sm:=HU.out.sm;have hl:=HL.out;refine UAt.put HU.out 6 _ _ (fun _ _=>by rw[CX];rfl) rfl rfl ?_;simp only[PU.small,List.length_take]at sm⊢;omega
end Go.Proofs.YtejhpdcjafbklaaGreatDoor
