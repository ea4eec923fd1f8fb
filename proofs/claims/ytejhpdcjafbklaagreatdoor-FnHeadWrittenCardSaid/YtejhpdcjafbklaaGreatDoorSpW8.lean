/- The law FnHeadWritten: SpW8. -/
import Derived.Test.YtejhpdcjafbklaaGreatDoorLw6
set_option linter.all false
set_option maxHeartbeats 20000000
set_option maxRecDepth 8000
namespace Go.Proofs.YtejhpdcjafbklaaGreatDoor
open Go.RowKit
section
variable {P:Program} {ops:Array Oper} {rest:List Oper} {o:Oper} {a:Act} {w:World} {Q:Exit→Act→World→Prop}
theorem AD(hgd:o.guard=none)(ty:TypeId)(x y:Operand)(ho:o.op= .store ty x y)
 (g:Nat)(cells:Array Value)(hx:a.eval x= .pointer (some ⟨g,0,none⟩))(hy:a.eval y= .agg cells)
 (t:TypeId)(old:Array Value)(hg:w.heap[g]? =some (.cells old t (0,0)))(hi:(P.info? ty).map (·.size)=some cells.size)
 (hold:old.size=cells.size)(h1:cells.all (·.oneCell')=true)
 (h:∀w',w'.heap[g]? =some (.cells cells t (0,0))→Kp g w w'→wpList P ops Q rest (a.put o.dst undef) w'):wpList P ops Q (o::rest) a w:=
 wpList_store_row hgd ty x y ho g cells hx hy t old hg hi hold h1 (h _ (setRow_heap w _ _ _ _ _ hg) (Bd w g cells))
theorem AH(hg:o.guard=none)(t:TypeId)(ho:o.op= .build t #[])(d:Option Tmp)(hd:o.dst=d)(cells:Array Value)(hf:P.built t []=some cells)
 (h:wpList P ops Q rest (a.put d (.agg cells)) w):wpList P ops Q (o::rest) a w:=
 wpList_buildTo hg t #[] ho d hd cells (by simpa using hf) h
theorem AM(hgd:o.guard=none)(ty:TypeId)(x y:Operand)(ho:o.op= .store ty x y)
 (g j:Nat)(v:Value)(hx:a.eval x= .pointer (some ⟨g,j,none⟩))(hy:a.eval y=v)(h1:v.oneCell'=true)
 (t:TypeId)(old:Array Value)(hg:w.heap[g]? =some (.cells old t (0,0)))(hj:j<old.size)(hi:(P.info? ty).map (·.size)=some 1)
 (h:∀w',w'.heap[g]? =some (.cells (old.setIfInBounds j v) t (0,0))→Kp g w w'→wpList P ops Q rest (a.put o.dst undef) w'):wpList P ops Q (o::rest) a w:=by
 refine wpList_plain hgd fun K hK=>?_;have c1:w.cell? ⟨g,j,none⟩=some old[j]:=by rw[AB hg j,Array.getElem?_eq_getElem hj]
 have z1:=AN hg j;have hr:(storeVar ty ⟨g,j,none⟩ v).run P w= .ok () (w.setCell ⟨g,j,none⟩ v):=by
  cases hq:P.info? ty with
  |none=>simp[hq]at hi
  |some i=>
   have hs:i.size=1:=by simpa[hq]using hi
   have hc:v.cells= #[v]:=by cases v<;>first|rfl|cases h1
   have e:(⟨g,j,none⟩:Addr).add 0=⟨g,j,none⟩:=by simp[Addr.add]
   simp[storeVar,sizeOf,typeInfo,hq,hs,hc,storeCells,e,run_store P w _ v _ h1,stored,c1,z1]
 unfold Oper.wp execOp;simp only[ho,hx,hy,Instr.storeAt,Instr.sureAddr,Sem.run_bind,Sem.run_pure,Result.andThen_ok,hr];exact hK _ _ (h _ (AX hg j v) (BK w g j v))
end
theorem AI:((Tryz.prog).info? 35).map (·.size)=some 10:=by kernel_rfl
def Ai:Array Value:= #[(.slice none 0 0),(.slice none 0 0),.bool false,.bool false,(.slice none 0 0),(.slice none 0 0),(.slice none 0 0),.int .i64 0,(.slice none 0 0),(.slice none 0 0)]
theorem AP:Ai.all (·.oneCell')=true:=by unfold Ai;simp only[List.all_toArray,List.all_cons,List.all_nil];rfl
theorem Af:(Tryz.prog).built 35 []=some Ai:=by kernel_rfl
def FD(sc uv pv hv:Value)(po:Int)(psv hsv:Value):Array Value:= #[sc,(.slice none 0 0),.bool false,.bool false,uv,pv,hv,.int .i64 po,psv,hsv]
structure SUB(w W:World)(row:Array Value):Prop where
 le:Le w W
 hb:W.heap[w.heap.size]? =some (.cells row 35 (0,0))
 hr:W.heap[w.heap.size+1]? =some (.cells Ai 35 (0,0))
theorem SUB.to{w W W':World}{row:Array Value}(h:SUB w W row)(k:Le W W'):SUB w W' row:=⟨Le.trans h.le k,k.heap h.hb,k.heap h.hr⟩
theorem SUB.set{w W W':World}{row row':Array Value}(h:SUB w W row)(k:Kp w.heap.size W W')(hb:W'.heap[w.heap.size]? =some (.cells row' 35 (0,0))):SUB w W' row':=
 ⟨Below.trans h.le (k.below (NL _) h.le.size),hb,k.heap (by omega) h.hr⟩
structure UqS(w0 w:World)(base:Nat)(x:UV)(u:PU):Prop where
 scheme:Bv w0 x.scheme u.scheme
 raw:Bv w0 x.raw u.raw
 wild:x.wild=u.wild
 slash:x.slash=u.slash
 user:Bv w0 x.user u.user
 pass:Bv w0 x.pass u.pass
 host:Bv w0 x.host u.host
 port:x.port=u.port
 ps:KrS w0 w base x.ps u.ps
 hs:KrS w0 w base x.hs u.hs
 pl:u.ps.length≤1099511627776
 hl:u.hs.length≤1099511627776
def No(w0:World)(sc l:Tx)(w:World)(e:Ending)(w':World):Prop:=
 ∃(x:UV) (kd:Int),e= .returned (.tuple #[x.val,.int .i64 kd])∧Le w w'∧x.row.all (·.oneCell')=true∧match Ac sc l with|some u=>kd=0∧UqS w0 w' (w.heap.size+2) x u|none=>kd= -2
theorem BU{W:World}{b:Nat}{row:Array Value}{a:Act}{kd:Int}(h:W.heap[b]? =some (.cells row 35 (0,0)))
 (h4:a.tmps.getD 4 undef= .pointer (some ⟨b,0,none⟩))(h5:a.tmps.getD 5 undef= .int .i64 kd)(hs:row.size=10:=by rfl):
 (results Tryz.f55 a.tmps).run Tryz.prog W= .ok (.tuple #[.agg row,.int .i64 kd]) W:=by
 rw[results_cell_tmp rfl,h4,h5];simp only[asAddr,Sem.run_pure,Result.andThen_ok,run_loadVar_row W _ _ _ _ _ _ h Tryz.underlying35 rfl (by rw[hs];exact AI)]
def SU1(w0 w:World)(l:Tx)(scv s1:Value)(W:World):Prop:=
 ∃un pw s uv pv,DI l=some (un,pw,s)∧Bv w0 s1 s∧Bv w0 uv un∧Bv w0 pv pw∧SUB w W (FD scv uv pv (.slice none 0 0) 0 (.slice none 0 0) (.slice none 0 0))
theorem Dg{sc l:Tx}(h:DI l=none):Ac sc l=none:=by unfold Ac;rw[h]
theorem JB{sc l un pw s:Tx}(h:DI l=some (un,pw,s))(h2:Bz s=none):Ac sc l=none:=by unfold Ac;rw[h];simp only[h2]
theorem JA{sc l un pw s s1:Tx}{hs:KVs}(h:DI l=some (un,pw,s))(h2:Bz s=some (hs,s1))(h3:Bh s1 hs=none):Ac sc l=none:=by unfold Ac;rw[h];simp only[h2,h3]
theorem Mn{sc l un pw s s1 s2:Tx}{hs ps:KVs}(h:DI l=some (un,pw,s))(h2:Bz s=some (hs,s1))(h3:Bh s1 hs=some (ps,s2))(h4:BF s2=none):Ac sc l=none:=by unfold Ac;rw[h];simp only[h2,h3,h4]
theorem Om{sc l un pw s s1 s2 ho:Tx}{hs ps:KVs}{n:Nat}(h:DI l=some (un,pw,s))(h2:Bz s=some (hs,s1))(h3:Bh s1 hs=some (ps,s2))(h4:BF s2=some (ho,n)):
 Ac sc l=some ⟨sc,[],false,false,un,pw,ho,n,ps,hs⟩:=by unfold Ac;rw[h];simp only[h2,h3,h4]
theorem Ms{l:Tx}(h:¬0≤lxI l 64):DI l=some ([],[],l):=by unfold DI;rw[if_neg h]
theorem Ow{l:Tx}{k c:Nat}(h:lxI l 64=k)(hc:BC (l.take k) 58=c)(hl:c<(l.take k).length):DI l=
 (if !((l.take k).drop (c+1)).isEmpty&&Ce J3 ((l.take k).drop (c+1))&& !((l.take k).take c).isEmpty&&Ce Gu ((l.take k).take c)then some ((l.take k).take c,(l.take k).drop (c+1),l.drop (k+1))else none):=by
 unfold DI;rw[if_pos (by rw[h];omega)];simp only[h,Int.toNat_natCast,hc,if_pos hl]
theorem Ov{l:Tx}{k:Nat}(h:lxI l 64=k)(hc:¬BC (l.take k) 58<(l.take k).length):DI l=
 (if !(l.take k).isEmpty&&Ce Gu (l.take k)then some (l.take k,[],l.drop (k+1))else none):=by
 unfold DI;rw[if_pos (by rw[h];omega)];simp only[h,Int.toNat_natCast,if_neg hc]
theorem Qr{l:Tx}{c:UInt8}(h:0≤lxI l c):∃k:Nat,lxI l c=k∧k<l.length:=by
 unfold lxI at h⊢;by_cases hi:l.reverse.findIdx (·==c)<l.length
 ·rw[if_pos hi];exact⟨_,rfl,by omega⟩
 ·rw[if_neg hi]at h;omega
theorem Kx{l un pw s:Tx}(h:DI l=some (un,pw,s)):s.length≤l.length:=by
 unfold DI at h;dsimp only at h
 (repeat' split at h)<;>first|(injection h with h;injection h with _ h;injection h with _ h;subst h;first|exact NL _|(rw[List.length_drop];omega))|cases h
theorem K5{s:Tx}{i:Nat}(h:BC s 63=i)(hi:i<s.length)(hp:BB (s.drop (i+1)) 38 Fs=none):Bz s=none:=by
 unfold Bz;rw[h,if_pos hi,hp]
theorem Jz{s:Tx}{i:Nat}{kvs:KVs}(h:BC s 63=i)(hi:i<s.length)(hp:BB (s.drop (i+1)) 38 Fs=some kvs)(hr:DV kvs=false):Bz s=none:=by
 unfold Bz;rw[h,if_pos hi,hp];simp only[hr];rfl
theorem Jw{s:Tx}{i:Nat}{kvs:KVs}(h:BC s 63=i)(hi:i<s.length)(hp:BB (s.drop (i+1)) 38 Fs=some kvs)(hr:DV kvs=true):Bz s=some (kvs,s.take i):=by
 unfold Bz;rw[h,if_pos hi,hp];simp only[hr,if_true]
theorem Jx{s:Tx}(h:¬BC s 63<s.length):Bz s=some ([],s):=by unfold Bz;rw[if_neg h]
theorem KrS.nil(w0 w:World)(base:Nat):KrS w0 w base (.slice none 0 0) []:=⟨[],World.ownsRow_nil _ _ _ _,I1.nil _⟩
theorem KrS.mono{w0 w:World}{base base':Nat}{v:Value}{l:KVs}(h:KrS w0 w base v l)(k:base'≤base):KrS w0 w base' v l:=by
 obtain⟨xs,h1,h2⟩:=h;exact⟨xs,h1.mono k,h2⟩
theorem SUB.sz{w W:World}{row:Array Value}(h:SUB w W row):w.heap.size+2≤W.heap.size:=by have:=AQ h.hr;omega
def SU2(w0 w:World)(s:Tx)(scv uv pv s1:Value)(W:World):Prop:=
 ∃hs s' hv,Bz s=some (hs,s')∧Bv w0 s1 s'∧hs.length≤1099511627776∧KrS w0 W (w.heap.size+2) hv hs∧SUB w W (FD scv uv pv (.slice none 0 0) 0 (.slice none 0 0) hv)
theorem Jy{s s1:Tx}{hs:KVs}(h:Bz s=some (hs,s1)):s1.length≤s.length:=by
 unfold Bz at h
 (repeat' split at h)<;>first|(injection h with h;injection h with _ h;subst h;first|exact NL _|(rw[List.length_take];omega))|cases h
theorem Ju{s:Tx}{hs:KVs}{i:Nat}(h:BC s 59=i)(hi:i<s.length)(hp:BB (s.drop (i+1)) 59 DQ=none):Bh s hs=none:=by
 unfold Bh;rw[h,if_pos hi,hp]
theorem IG{s:Tx}{hs kvs:KVs}{i:Nat}(h:BC s 59=i)(hi:i<s.length)(hp:BB (s.drop (i+1)) 59 DQ=some kvs)(hr:(!hs.isEmpty&&(FF kvs).isEmpty)=true):Bh s hs=none:=by
 unfold Bh;rw[h,if_pos hi,hp];simp only[hr,if_true]
theorem Fc{s:Tx}{hs kvs:KVs}{i:Nat}(h:BC s 59=i)(hi:i<s.length)(hp:BB (s.drop (i+1)) 59 DQ=some kvs)(hr:(!hs.isEmpty&&(FF kvs).isEmpty)=false):Bh s hs=some (kvs,s.take i):=by
 unfold Bh;rw[h,if_pos hi,hp];simp only[hr];rfl
theorem IF{s:Tx}{hs:KVs}(h:¬BC s 59<s.length):Bh s hs=some ([],s):=by unfold Bh;rw[if_neg h]
theorem M9{l:KVs}{m:Nat}(h:m<l.length)(e:m=l.length-1):FF l=l[m].2:=by
 unfold FF;subst e;rw[List.getLast?_eq_getElem?,List.getElem?_eq_getElem h];rfl
theorem KrS.shape{w0 w:World}{base:Nat}{v:Value}{l:KVs}(h:KrS w0 w base v l):∃A c,v= .slice A l.length c:=by
 obtain⟨xs,h1,_⟩:=h;rcases h1.2 with⟨rfl,hn⟩|⟨g,cap,cur,rfl,_⟩
 ·exact⟨none,0,by rw[hn]⟩
 ·exact⟨_,_,rfl⟩
theorem KrS.one{w0 w:World}{base:Nat}{v:Value}{l:KVs}(h:KrS w0 w base v l):v.oneCell'=true:=by obtain⟨A,c,rfl⟩:=h.shape;rfl
def SU3(w0 w:World)(s1:Tx)(scv uv pv hv:Value)(hs:KVs)(sv:Value)(W:World):Prop:=
 ∃ps s2 psv,Bh s1 hs=some (ps,s2)∧Bv w0 sv s2∧ps.length≤1099511627776∧KrS w0 W (w.heap.size+2) psv ps∧KrS w0 W (w.heap.size+2) hv hs∧SUB w W (FD scv uv pv (.slice none 0 0) 0 psv hv)
theorem bqT{w:World}{v:Value}{l:Tx}(h:Bv w v l):Bq (fun _=>True) w v l:=⟨h,fun _ _=>trivial⟩
theorem Bv.one{w:World}{v:Value}{l:Tx}(h:Bv w v l):v.oneCell'=true:=by obtain⟨A,c,rfl,_⟩:=h;rfl
theorem JN{w:World}{sc uv pv hv psv hsv:Value}{po:Int}{a b c:Tx}(h1:Bv w sc a)(h2:Bv w uv b)(h3:Bv w pv c)(h4:hv.oneCell'=true)(h5:psv.oneCell'=true)(h6:hsv.oneCell'=true):(FD sc uv pv hv po psv hsv).all (·.oneCell')=true:=by
 unfold FD;simp only[List.all_toArray,List.all_cons,List.all_nil,h1.one,h2.one,h3.one,h4,h5,h6];rfl
theorem HJ(v:Value)(l signs:Tx)(w:World)(b:Bool)(h:Ce signs l=b)(hv:Bv w v l)(hs:signs.length≤1099511627776):
 Calls Tryz.prog 76 #[v,.string (st signs)] w fun e w'=>e= .returned (.bool b)∧w=w':=by
 have:=EM v l (st signs) w hv (by rw[AF];exact hs);rw[AV]at this;exact AW this h
theorem Fz{l:Tx}{n:Nat}(h:l.length=n):l.isEmpty=((n:Int)==0):=by
 subst h;cases l with
 |nil=>rfl
 |cons x r=>
  have:((((x::r).length:Nat):Int)==0)=false:=by simp only[LC];simp;omega
  rw[this];rfl
theorem JE(v scv:Value)(sc l:Tx)(w0 w:World)(h0:Le w0 w)(hsc:Bv w0 scv sc)(hv:Bv w0 v l)(hl:l.length≤1099511627000):
 Calls Tryz.prog 55 #[.agg (FD scv (.slice none 0 0) (.slice none 0 0) (.slice none 0 0) 0 (.slice none 0 0) (.slice none 0 0)),v] w (No w0 sc l w):=by
 have HSC:=Hi hsc;have H0:=Hi h0;have HV:=Hi hv;obtain⟨A0,c0,rfl,hl0⟩:=As hv;obtain⟨A1,c1,hsv,_⟩:=As hsc;have HSV:=Hi hsv;have hlc:l.length≤c0:=by obtain⟨_,_,e,h,_⟩:=hv;injection e with _ _ e;omega
 have hrow:Hid (FD scv (.slice none 0 0) (.slice none 0 0) (.slice none 0 0) 0 (.slice none 0 0) (.slice none 0 0)= #[scv,(.slice none 0 0),.bool false,.bool false,(.slice none 0 0),(.slice none 0 0),(.slice none 0 0),.int .i64 0,(.slice none 0 0),(.slice none 0 0)]):=Hi rfl;have ci:=fun W (h:Le w W)=>NA _ l 64 W (hv.le (Le.trans h0 h));have CI:=Hi ci;clear hsc hv hsv ci h0
 rw[hrow.out];go_enter Tryz.func55,Tryz.ntmps55;go_wp2_with fail
 refine(CI.out _ (((AC w).alloc _).alloc _)).mono ?_;rintro e w' ⟨rfl,rfl⟩
 have HS0:Hid (SUB w ((w.alloc (Obj.cells #[scv,(.slice none 0 0),.bool false,.bool false,(.slice none 0 0),(.slice none 0 0),(.slice none 0 0),.int .i64 0,(.slice none 0 0),(.slice none 0 0)] 35)).alloc (Obj.cells Ai 35)) (FD scv (.slice none 0 0) (.slice none 0 0) (.slice none 0 0) 0 (.slice none 0 0) (.slice none 0 0))):=Hi ⟨((AC w).alloc _).alloc _,heap_alloc2_old w _ _,heap_alloc2_new w _ _⟩
 have hzr:Ai= #[(.slice none 0 0),(.slice none 0 0),.bool false,.bool false,(.slice none 0 0),(.slice none 0 0),(.slice none 0 0),.int .i64 0,(.slice none 0 0),(.slice none 0 0)]:=rfl;rw[hzr]at HS0
 generalize(w.alloc (Obj.cells #[scv,(.slice none 0 0),.bool false,.bool false,(.slice none 0 0),(.slice none 0 0),(.slice none 0 0),.int .i64 0,(.slice none 0 0),(.slice none 0 0)] 35)).alloc (Obj.cells #[(.slice none 0 0),(.slice none 0 0),.bool false,.bool false,(.slice none 0 0),(.slice none 0 0),(.slice none 0 0),.int .i64 0,(.slice none 0 0),(.slice none 0 0)] 35)=W0 at HS0⊢
 have y4:W0.cell? ⟨w.heap.size,4,none⟩=some (.slice none 0 0):=AB HS0.out.hb 4;have z4:W0.frozen? ⟨w.heap.size,4,none⟩=false:=AN HS0.out.hb 4;have y5:W0.cell? ⟨w.heap.size,5,none⟩=some (.slice none 0 0):=AB HS0.out.hb 5;have z5:W0.frozen? ⟨w.heap.size,5,none⟩=false:=AN HS0.out.hb 5;go_upto_if 19 with fail
 go_cut [1]from 6 (fun s1 wc=>SU1 w0 w l scv s1 wc)
 case first=>
  by_cases h0:0≤lxI l 64
  ·obtain⟨k,hk,hkl⟩:=Qr h0;have HK:=Hi hk;rw[hk];clear h0 hk;obtain⟨v2,hb2,q1,q2⟩:=Bb (k:=k+1) (z:=(k:Int)+1) HV.out hkl (by omega);have HBR:=Hi hb2;have HUS:=Hi (CD (k:=k) HV.out (by omega) (NL k) (by omega));have hul:(l.take k).length=k:=by rw[List.length_take];omega
   have ci:=Br _ (l.take k) 58 W0 (HUS.out.le (Le.trans H0.out HS0.out.le));clear hb2;go_wp2_with fail
   rcases Bo (l.take k) 58 with⟨c,e1,hc,e2⟩|⟨e1,e2⟩
   ·rw[e1]at ci;have CI:=Hi ci;have HSE:=Hi (Ow HK.out e2 hc);rw[hul]at hc;have HUS2:=HUS.out;obtain⟨v3,hb3,r1,r2⟩:=Bb (k:=c+1) (z:=(c:Int)+1) (l:=l.take k) HUS2 (by omega) (by omega);obtain⟨A3,c3,hv3,hml⟩:=As hb3;generalize hm3:((l.take k).drop (c+1)).length=m3 at hv3 hml;subst hv3;have HBP:=Hi hb3
    have HBU:=Hi (CD (k:=c) HUS2 (by omega) (NL c) (by omega));have HE3:=Hi (Fz hm3);have HEU:=Hi (Fz (l:=(l.take k).take c) (n:=c) (by rw[List.length_take];omega));clear hb3 HUS2 ci e1 e2 hm3;refine CI.out.mono ?_;rintro e w' ⟨rfl,rfl⟩
    have HSU:Hid (SUB w (W0.setCell ⟨w.heap.size,5,none⟩ (.slice A3 m3 c3)) (FD scv (.slice none 0 0) (.slice A3 m3 c3) (.slice none 0 0) 0 (.slice none 0 0) (.slice none 0 0))):=Hi (HS0.out.set (BK _ _ _ _) (AX HS0.out.hb 5 _));obtain⟨t3,E3⟩:∃t,((m3:Int)==0)=t:=⟨_,rfl⟩;obtain⟨tu,EU⟩:∃t,((c:Int)==0)=t:=⟨_,rfl⟩;obtain⟨o3,O3⟩:∃t,Ce J3 ((l.take k).drop (c+1))=t:=⟨_,rfl⟩
    obtain⟨ou,OU⟩:∃t,Ce Gu ((l.take k).take c)=t:=⟨_,rfl⟩;have HSE2:Hid (DI l=if !t3&&o3&& !tu&&ou then some ((l.take k).take c,(l.take k).drop (c+1),l.drop (k+1))else none):=Hi (by rw[HSE.out,HE3.out,HEU.out,E3,EU,O3,OU]);have H3:=Hi O3;have HU:=Hi OU;clear O3 OU;cases t3
    ·cases o3
     ·go_wp2_with fail
      refine(HJ _ _ J3 _ _ H3.out (HBP.out.le (Le.trans H0.out HSU.out.le)) (by decide)).mono ?_;rintro e w' ⟨rfl,rfl⟩;go_upto_if 50 with fail
      go_wp2_with (refine AH rfl 35 rfl (some 51) rfl Ai Af ?_;refine AD rfl 35 (.tmp 4) (.tmp 51) rfl (w.heap.size+1) Ai rfl rfl 35 Ai HSU.out.hr AI rfl AP ?_)
      intro WZ hz hkz;have HF:Hid (Ac sc l=none):=Hi (Dg HSE2.out);have HLZ:Hid (Le w WZ):=Hi (Below.trans HSU.out.le (hkz.below (by omega) HSU.out.le.size));have HZ:=Hi hz;clear hz hkz;go_wp2;refine bodyPost_ret (v:= .tuple #[UV.nil.val,.int .i64 (-2)]) ?_ rfl ⟨UV.nil,-2,rfl,HLZ.out,AP,by rw[HF.out]⟩;exact BU HZ.out rfl rfl
     ·cases tu
      ·go_wp2_with fail
       refine(HJ _ _ J3 _ _ H3.out (HBP.out.le (Le.trans H0.out HSU.out.le)) (by decide)).mono ?_;rintro e w' ⟨rfl,rfl⟩;go_wp2_with fail
       refine(HJ _ _ Gu _ _ HU.out (HBU.out.le (Le.trans H0.out HSU.out.le)) (by decide)).mono ?_;rintro e w' ⟨rfl,rfl⟩;cases ou
       ·go_upto_if 59 with fail
        go_wp2_with (refine AH rfl 35 rfl (some 60) rfl Ai Af ?_;refine AD rfl 35 (.tmp 4) (.tmp 60) rfl (w.heap.size+1) Ai rfl rfl 35 Ai HSU.out.hr AI rfl AP ?_)
        intro WZ hz hkz;have HF:Hid (Ac sc l=none):=Hi (Dg HSE2.out);have HLZ:Hid (Le w WZ):=Hi (Below.trans HSU.out.le (hkz.below (by omega) HSU.out.le.size));have HZ:=Hi hz;clear hz hkz;go_wp2;refine bodyPost_ret (v:= .tuple #[UV.nil.val,.int .i64 (-2)]) ?_ rfl ⟨UV.nil,-2,rfl,HLZ.out,AP,by rw[HF.out]⟩;exact BU HZ.out rfl rfl
       ·go_wp2;go_meet;case rel=>exact⟨_,_,_,(.slice A0 c c),(.slice A3 m3 c3),HSE2.out,HBR.out,HBU.out,HBP.out,HSU.out.set (row':=FD scv (.slice A0 c c) (.slice A3 m3 c3) (.slice none 0 0) 0 (.slice none 0 0) (.slice none 0 0)) (BK _ _ _ _) (AX HSU.out.hb 4 _)⟩
      ·go_wp2_with fail
       refine(HJ _ _ J3 _ _ H3.out (HBP.out.le (Le.trans H0.out HSU.out.le)) (by decide)).mono ?_;rintro e w' ⟨rfl,rfl⟩;go_upto_if 59 with fail
       go_wp2_with (refine AH rfl 35 rfl (some 60) rfl Ai Af ?_;refine AD rfl 35 (.tmp 4) (.tmp 60) rfl (w.heap.size+1) Ai rfl rfl 35 Ai HSU.out.hr AI rfl AP ?_)
       intro WZ hz hkz;have HF:Hid (Ac sc l=none):=Hi (Dg HSE2.out);have HLZ:Hid (Le w WZ):=Hi (Below.trans HSU.out.le (hkz.below (by omega) HSU.out.le.size));have HZ:=Hi hz;clear hz hkz;go_wp2;refine bodyPost_ret (v:= .tuple #[UV.nil.val,.int .i64 (-2)]) ?_ rfl ⟨UV.nil,-2,rfl,HLZ.out,AP,by rw[HF.out]⟩;exact BU HZ.out rfl rfl
    ·go_upto_if 50 with fail
     go_wp2_with (refine AH rfl 35 rfl (some 51) rfl Ai Af ?_;refine AD rfl 35 (.tmp 4) (.tmp 51) rfl (w.heap.size+1) Ai rfl rfl 35 Ai HSU.out.hr AI rfl AP ?_)
     intro WZ hz hkz;have HF:Hid (Ac sc l=none):=Hi (Dg HSE2.out);have HLZ:Hid (Le w WZ):=Hi (Below.trans HSU.out.le (hkz.below (by omega) HSU.out.le.size));have HZ:=Hi hz;clear hz hkz;go_wp2;refine bodyPost_ret (v:= .tuple #[UV.nil.val,.int .i64 (-2)]) ?_ rfl ⟨UV.nil,-2,rfl,HLZ.out,AP,by rw[HF.out]⟩;exact BU HZ.out rfl rfl
   ·rw[e1]at ci;have CI:=Hi ci;have HSE:=Hi (Ov HK.out e2);have HEU:=Hi (Fz hul);clear ci e1 e2;refine CI.out.mono ?_;rintro e w' ⟨rfl,rfl⟩;have HSU:=HS0;have HBU:=HUS;have HBP:Hid (Bv w0 (.slice none 0 0) []):=Hi (Bv.nil w0);obtain⟨tu,EU⟩:∃t,((k:Int)==0)=t:=⟨_,rfl⟩;obtain⟨ou,OU⟩:∃t,Ce Gu (l.take k)=t:=⟨_,rfl⟩
    have HSE2:Hid (DI l=if !tu&&ou then some (l.take k,[],l.drop (k+1))else none):=Hi (by rw[HSE.out,HEU.out,EU,OU]);have HU:=Hi OU;clear OU;cases tu
    ·go_wp2_with fail
     refine(HJ _ _ Gu _ _ HU.out (HBU.out.le (Le.trans H0.out HSU.out.le)) (by decide)).mono ?_;rintro e w' ⟨rfl,rfl⟩;cases ou
     ·go_upto_if 59 with fail
      go_wp2_with (refine AH rfl 35 rfl (some 60) rfl Ai Af ?_;refine AD rfl 35 (.tmp 4) (.tmp 60) rfl (w.heap.size+1) Ai rfl rfl 35 Ai HSU.out.hr AI rfl AP ?_)
      intro WZ hz hkz;have HF:Hid (Ac sc l=none):=Hi (Dg HSE2.out);have HLZ:Hid (Le w WZ):=Hi (Below.trans HSU.out.le (hkz.below (by omega) HSU.out.le.size));have HZ:=Hi hz;clear hz hkz;go_wp2;refine bodyPost_ret (v:= .tuple #[UV.nil.val,.int .i64 (-2)]) ?_ rfl ⟨UV.nil,-2,rfl,HLZ.out,AP,by rw[HF.out]⟩;exact BU HZ.out rfl rfl
     ·go_wp2;go_meet;case rel=>exact⟨_,_,_,(.slice A0 k k),(.slice none 0 0),HSE2.out,HBR.out,HBU.out,HBP.out,HSU.out.set (row':=FD scv (.slice A0 k k) (.slice none 0 0) (.slice none 0 0) 0 (.slice none 0 0) (.slice none 0 0)) (BK _ _ _ _) (AX HSU.out.hb 4 _)⟩
    ·go_upto_if 59 with fail
     go_wp2_with (refine AH rfl 35 rfl (some 60) rfl Ai Af ?_;refine AD rfl 35 (.tmp 4) (.tmp 60) rfl (w.heap.size+1) Ai rfl rfl 35 Ai HSU.out.hr AI rfl AP ?_)
     intro WZ hz hkz;have HF:Hid (Ac sc l=none):=Hi (Dg HSE2.out);have HLZ:Hid (Le w WZ):=Hi (Below.trans HSU.out.le (hkz.below (by omega) HSU.out.le.size));have HZ:=Hi hz;clear hz hkz;go_wp2;refine bodyPost_ret (v:= .tuple #[UV.nil.val,.int .i64 (-2)]) ?_ rfl ⟨UV.nil,-2,rfl,HLZ.out,AP,by rw[HF.out]⟩;exact BU HZ.out rfl rfl
  ·have HSE:=Hi (Ms h0);go_wp2;go_meet;case rel=>exact⟨[],[],l,(.slice none 0 0),(.slice none 0 0),HSE.out,HV.out,Bv.nil w0,Bv.nil w0,HS0.out⟩
 case rest=>
  clear HS0 y4 z4 y5 z5 CI;obtain⟨un,pw,s,uv,pv,hse,hbr,hbu,hbp,hsub⟩:=hcut;have HSE:=Hi hse;have HBR:=Hi hbr;have HBU:=Hi hbu;have HBP:=Hi hbp;have HSU:=Hi hsub;obtain⟨A5,c5,rfl,hsl⟩:=As hbr;have hsc5:s.length≤c5:=by obtain⟨_,_,e,h,_⟩:=hbr;injection e with _ _ e;omega
  have hsll:s.length≤1099511627000:=Nat.le_trans (Kx hse) hl;have ci:=Br _ s 63 wc (hbr.le (Le.trans H0.out hsub.le));have CI:=Hi ci;have y9:wc.cell? ⟨w.heap.size,9,none⟩=some (.slice none 0 0):=AB hsub.hb 9;have z9:wc.frozen? ⟨w.heap.size,9,none⟩=false:=AN hsub.hb 9;clear hse hbr hbu hbp hsub ci;go_wp2_with fail
  refine CI.out.mono ?_;rintro e w' ⟨rfl,rfl⟩;go_upto_if 66 with fail
  go_cut [1]from 9 (fun s1 wx=>SU2 w0 w s scv uv pv s1 wx)
  case first=>
   rcases Bo s 63 with⟨i,e1,hi,e2⟩|⟨e1,e2⟩
   ·rw[e1];obtain⟨v2,hb2,q1,q2⟩:=Bb (k:=i+1) (z:=(i:Int)+1) HBR.out hi (by omega);have HB2:=Hi hb2;have HBT:=Hi (CD (k:=i) HBR.out (by omega) (NL i) (by omega));have HE2:Hid (BC s 63=i∧i<s.length):=Hi ⟨e2,hi⟩;have hdl:(s.drop (i+1)).length≤1099511627000:=by rw[List.length_drop];omega
    have HDL:=Hi hdl;clear hb2 e1 e2 hdl;go_wp2_with fail
    refine(Fh v2 (s.drop (i+1)) 38 (st Fs) w0 wc (Le.trans H0.out HSU.out.le) HB2.out HDL.out (by decide)).mono ?_;rw[AV];rintro e w2 ⟨hv,ok,rfl,hle2,⟨A,m,c,rfl⟩,hif⟩;have HSU2:=Hi (HSU.out.to hle2);have HIF:=Hi hif;have HSZ:=Hi HSU.out.sz;have y9:w2.cell? ⟨w.heap.size,9,none⟩=some (.slice none 0 0):=AB HSU2.out.hb 9
    have z9:w2.frozen? ⟨w.heap.size,9,none⟩=false:=AN HSU2.out.hb 9;clear hle2 hif HSU q1 q2;have HSU:=HSU2;cases ok
    ·have HN:Hid (Bz s=none):=Hi (K5 HE2.out.1 HE2.out.2 HIF.out);go_upto_if 81 with fail
     go_wp2_with (refine AH rfl 35 rfl (some 82) rfl Ai Af ?_;refine AD rfl 35 (.tmp 4) (.tmp 82) rfl (w.heap.size+1) Ai rfl rfl 35 Ai HSU.out.hr AI rfl AP ?_)
     intro WZ hz hkz;have HF:Hid (Ac sc l=none):=Hi (JB HSE.out HN.out);have HLZ:Hid (Le w WZ):=Hi (Below.trans HSU.out.le (hkz.below (by omega) HSU.out.le.size));have HZ:=Hi hz;clear hz hkz;go_wp2;refine bodyPost_ret (v:= .tuple #[UV.nil.val,.int .i64 (-2)]) ?_ rfl ⟨UV.nil,-2,rfl,HLZ.out,AP,by rw[HF.out]⟩;exact BU HZ.out rfl rfl
    ·obtain⟨kvs,hp,hkl,hkr⟩:=HIF.out;have HP:=Hi hp;have HKR:=Hi hkr;have HKL:=Hi hkl;clear hp hkr hkl;go_wp2_with fail
     refine(I0 _ _ kvs w2 (HKR.out.kq (Le.trans H0.out HSU.out.le) HKL.out)).mono ?_;rintro e w' ⟨rfl,rfl⟩;obtain⟨r,hr⟩:∃r,DV kvs=r:=⟨_,rfl⟩;rw[hr];have HR:=Hi hr;clear hr;cases r
     ·have HN:Hid (Bz s=none):=Hi (Jz HE2.out.1 HE2.out.2 HP.out HR.out);go_upto_if 81 with fail
      go_wp2_with (refine AH rfl 35 rfl (some 82) rfl Ai Af ?_;refine AD rfl 35 (.tmp 4) (.tmp 82) rfl (w.heap.size+1) Ai rfl rfl 35 Ai HSU.out.hr AI rfl AP ?_)
      intro WZ hz hkz;have HF:Hid (Ac sc l=none):=Hi (JB HSE.out HN.out);have HLZ:Hid (Le w WZ):=Hi (Below.trans HSU.out.le (hkz.below (by omega) HSU.out.le.size));have HZ:=Hi hz;clear hz hkz;go_wp2;refine bodyPost_ret (v:= .tuple #[UV.nil.val,.int .i64 (-2)]) ?_ rfl ⟨UV.nil,-2,rfl,HLZ.out,AP,by rw[HF.out]⟩;exact BU HZ.out rfl rfl
     ·go_wp2;go_meet;case rel=>exact⟨kvs,_,(.slice A m c),Jw HE2.out.1 HE2.out.2 HP.out HR.out,HBT.out,HKL.out,(HKR.out.mono HSZ.out).kp (BK _ _ _ _) (by omega),HSU.out.set (row':=FD scv uv pv (.slice none 0 0) 0 (.slice none 0 0) (.slice A m c)) (BK _ _ _ _) (AX HSU.out.hb 9 _)⟩
   ·rw[e1];have HN:=Hi (Jx e2);go_wp2;go_meet;case rel=>exact⟨[],s,(.slice none 0 0),HN.out,HBR.out,by decide,KrS.nil _ _ _,HSU.out⟩
  case rest=>
   clear HBR HSU y9 z9 CI;obtain⟨hs,s1,hv,hsh,hbr,hhl,hkr,hsub⟩:=hcut;have HSH:=Hi hsh;have HBR:=Hi hbr;have HKR:=Hi hkr;have HSU:=Hi hsub;obtain⟨A6,c6,rfl,hsl6⟩:=As hbr;have hsc6:s1.length≤c6:=by obtain⟨_,_,e,h,_⟩:=hbr;injection e with _ _ e;omega
   have hsl1:s1.length≤1099511627000:=Nat.le_trans (Jy hsh) hsll;obtain⟨Ah,ch,rfl⟩:=hkr.shape;have ci:=Br _ s1 59 wc (hbr.le (Le.trans H0.out hsub.le));have CI:=Hi ci;have y8:wc.cell? ⟨w.heap.size,8,none⟩=some (.slice none 0 0):=AB hsub.hb 8;have z8:wc.frozen? ⟨w.heap.size,8,none⟩=false:=AN hsub.hb 8;clear hsh hbr hkr hsub ci;go_wp2_with fail
   refine CI.out.mono ?_;rintro e w' ⟨rfl,rfl⟩;go_upto_if 92 with fail
   go_cut [1]from 12 (fun s1' wx=>SU3 w0 w s1 scv uv pv (.slice Ah hs.length ch) hs s1' wx)
   case first=>
    rcases Bo s1 59 with⟨i,e1,hi,e2⟩|⟨e1,e2⟩
    ·rw[e1];obtain⟨v2,hb2,q1,q2⟩:=Bb (k:=i+1) (z:=(i:Int)+1) HBR.out hi (by omega);have HB2:=Hi hb2;have HBT:=Hi (CD (k:=i) HBR.out (by omega) (NL i) (by omega));have HE2:Hid (BC s1 59=i∧i<s1.length):=Hi ⟨e2,hi⟩;have hdl:(s1.drop (i+1)).length≤1099511627000:=by rw[List.length_drop];omega
     have HDL:=Hi hdl;clear hb2 e1 e2 hdl;go_wp2_with fail
     refine(Fh v2 (s1.drop (i+1)) 59 (st DQ) w0 wc (Le.trans H0.out HSU.out.le) HB2.out HDL.out (by decide)).mono ?_;rw[AV];rintro e w2 ⟨pv2,ok,rfl,hle2,⟨A,m,c,rfl⟩,hif⟩;have HSU2:=Hi (HSU.out.to hle2);have HIF:=Hi hif;have HSZ:=Hi HSU.out.sz;have HKR2:=Hi (HKR.out.le hle2);have y8:w2.cell? ⟨w.heap.size,8,none⟩=some (.slice none 0 0):=AB HSU2.out.hb 8
     have z8:w2.frozen? ⟨w.heap.size,8,none⟩=false:=AN HSU2.out.hb 8;have y9:w2.cell? ⟨w.heap.size,9,none⟩=some (.slice Ah hs.length ch):=AB HSU2.out.hb 9;clear hle2 hif HSU HKR q1 q2;have HSU:=HSU2;have HKR:=HKR2;cases ok
     ·have HN:Hid (Bh s1 hs=none):=Hi (Ju HE2.out.1 HE2.out.2 HIF.out);go_upto_if 119 with fail
      go_wp2_with (refine AH rfl 35 rfl (some 120) rfl Ai Af ?_;refine AD rfl 35 (.tmp 4) (.tmp 120) rfl (w.heap.size+1) Ai rfl rfl 35 Ai HSU.out.hr AI rfl AP ?_)
      intro WZ hz hkz;have HF:Hid (Ac sc l=none):=Hi (JA HSE.out HSH.out HN.out);have HLZ:Hid (Le w WZ):=Hi (Below.trans HSU.out.le (hkz.below (by omega) HSU.out.le.size));have HZ:=Hi hz;clear hz hkz;go_wp2;refine bodyPost_ret (v:= .tuple #[UV.nil.val,.int .i64 (-2)]) ?_ rfl ⟨UV.nil,-2,rfl,HLZ.out,AP,by rw[HF.out]⟩;exact BU HZ.out rfl rfl
     ·obtain⟨kvs,hp,hkl,hkp⟩:=HIF.out;obtain⟨m',hm'⟩:∃m',kvs.length=m'+1:=⟨kvs.length-1,by have:=List.length_pos_iff.2 (C8 hp).1;omega⟩;have hm0:m=kvs.length:=by obtain⟨_,_,e⟩:=hkp.shape;injection e
      obtain rfl:m=m'+1:=by omega
      have hmb:m'≤1099511627776:=by omega
      obtain⟨g,o,rfl,xv,vv,d1,d2,X,Y⟩:=(hkp.kq (Le.trans H0.out HSU.out.le) hkl).at_ (k:=m') (by omega);obtain⟨Av,cv,hvv,hvl⟩:=As Y.out;generalize hvn:kvs[m'].2.length=n at hvv hvl;subst hvv;have HLV:Hid ((FF kvs).isEmpty=((n:Int)==0)):=Hi (by
       rw[M9 (by omega:m'<kvs.length) (by omega)];exact Fz hvn)
      have HP:=Hi hp;have HKP:=Hi hkp;have HKL:=Hi hkl;clear hp hkp hkl d1 hvn X Y hm' hm0;by_cases hh0:hs.length=0
      ·have HHE:Hid (hs=[]):=Hi (List.eq_nil_of_length_eq_zero hh0);have hh1:((hs.length:Nat):Int)=0:=by omega
       go_wp2;go_meet
       case rel=>exact⟨kvs,_,(.slice (some ⟨g,o,none⟩) (m'+1) c),Fc HE2.out.1 HE2.out.2 HP.out (by rw[HHE.out];rfl),HBT.out,HKL.out,(HKP.out.mono HSZ.out).kp (BK _ _ _ _) (by omega),HKR.out.kp (BK _ _ _ _) (by omega),HSU.out.set (row':=FD scv uv pv (.slice none 0 0) 0 (.slice (some ⟨g,o,none⟩) (m'+1) c) (.slice Ah hs.length ch)) (BK _ _ _ _) (AX HSU.out.hb 8 _)⟩
      ·have hh1:(0:Int)<hs.length:=by omega
       have HHE:Hid (hs.isEmpty=false):=Hi (by cases hs with|nil=>exact absurd rfl hh0|cons _ _=>rfl);obtain⟨r,hr⟩:∃r,((n:Int)==0)=r:=⟨_,rfl⟩;rw[hr]at HLV;cases r
       ·go_wp2;go_meet
        case rel=>exact⟨kvs,_,(.slice (some ⟨g,o,none⟩) (m'+1) c),Fc HE2.out.1 HE2.out.2 HP.out (by rw[HLV.out];simp),HBT.out,HKL.out,(HKP.out.mono HSZ.out).kp (BK _ _ _ _) (by omega),HKR.out.kp (BK _ _ _ _) (by omega),HSU.out.set (row':=FD scv uv pv (.slice none 0 0) 0 (.slice (some ⟨g,o,none⟩) (m'+1) c) (.slice Ah hs.length ch)) (BK _ _ _ _) (AX HSU.out.hb 8 _)⟩
       ·have HN:Hid (Bh s1 hs=none):=Hi (IG HE2.out.1 HE2.out.2 HP.out (by rw[HHE.out,HLV.out];rfl));go_upto_if 119 with fail
        go_wp2_with (refine AH rfl 35 rfl (some 120) rfl Ai Af ?_;refine AD rfl 35 (.tmp 4) (.tmp 120) rfl (w.heap.size+1) Ai rfl rfl 35 Ai HSU.out.hr AI rfl AP ?_)
        intro WZ hz hkz;have HF:Hid (Ac sc l=none):=Hi (JA HSE.out HSH.out HN.out);have HLZ:Hid (Le w WZ):=Hi (Below.trans HSU.out.le (hkz.below (by omega) HSU.out.le.size));have HZ:=Hi hz;clear hz hkz;go_wp2;refine bodyPost_ret (v:= .tuple #[UV.nil.val,.int .i64 (-2)]) ?_ rfl ⟨UV.nil,-2,rfl,HLZ.out,AP,by rw[HF.out]⟩;exact BU HZ.out rfl rfl
    ·rw[e1];have HN:=Hi (IF (hs:=hs) e2);go_wp2;go_meet;case rel=>exact⟨[],s1,(.slice none 0 0),HN.out,HBR.out,by decide,KrS.nil _ _ _,HKR.out,HSU.out⟩
   case rest=>
    clear HBR HSU HKR y8 z8 CI;obtain⟨ps,s2,psv,hsp,hbr,hpl,hkp,hkr,hsub⟩:=hcut;have HSP:=Hi hsp;have HKP:=Hi hkp;have HKR:=Hi hkr;have HBR:=Hi hbr;have HSU0:=Hi hsub;have HP1:=Hi hkp.one;clear hsp hkp hkr hsub hbr;go_wp2_with fail
    refine(GN _ s2 w0 wc (Le.trans H0.out HSU0.out.le) HBR.out).mono ?_;rintro e w5 ⟨hv4,n,ok,rfl,hdr,⟨A,m,c,rfl⟩,hn,hif⟩;have HSU5:=Hi (HSU0.out.to hdr.le);have HKP5:=Hi (HKP.out.le hdr.le);have HKR5:=Hi (HKR.out.le hdr.le);have HIF:=Hi hif;have y6:w5.cell? ⟨w.heap.size,6,none⟩=some (.slice none 0 0):=AB HSU5.out.hb 6
    have z6:w5.frozen? ⟨w.heap.size,6,none⟩=false:=AN HSU5.out.hb 6;have y7:w5.cell? ⟨w.heap.size,7,none⟩=some (.int .i64 0):=AB HSU5.out.hb 7;have z7:w5.frozen? ⟨w.heap.size,7,none⟩=false:=AN HSU5.out.hb 7
    have HSU:Hid (SUB w ((w5.setCell ⟨w.heap.size,6,none⟩ (.slice A m c)).setCell ⟨w.heap.size,7,none⟩ (.int .i64 n)) (FD scv uv pv (.slice A m c) n psv (.slice Ah hs.length ch))):=Hi ((HSU5.out.set (row':=FD scv uv pv (.slice A m c) 0 psv (.slice Ah hs.length ch)) (BK _ _ _ _) (AX HSU5.out.hb 6 _)).set (BK _ _ _ _) (AX (AX HSU5.out.hb 6 _) 7 _));clear hdr hif
    cases ok
    ·have HN:Hid (BF s2=none):=Hi (by have h:=HIF.out;rw[if_neg (by decide)]at h;exact h);go_upto_if 136 with fail
     go_wp2_with (refine AH rfl 35 rfl (some 137) rfl Ai Af ?_;refine AD rfl 35 (.tmp 4) (.tmp 137) rfl (w.heap.size+1) Ai rfl rfl 35 Ai HSU.out.hr AI rfl AP ?_)
     intro WZ hz hkz;have HF:Hid (Ac sc l=none):=Hi (Mn HSE.out HSH.out HSP.out HN.out);have HLZ:Hid (Le w WZ):=Hi (Below.trans HSU.out.le (hkz.below (by omega) HSU.out.le.size));have HZ:=Hi hz;clear hz hkz;go_wp2;refine bodyPost_ret (v:= .tuple #[UV.nil.val,.int .i64 (-2)]) ?_ rfl ⟨UV.nil,-2,rfl,HLZ.out,AP,by rw[HF.out]⟩;exact BU HZ.out rfl rfl
    ·obtain⟨ho,hh,hbh⟩:∃h,BF s2=some (h,n)∧Bv w0 (.slice A m c) h:=by have h:=HIF.out;rw[if_pos rfl]at h;exact⟨_,h.choose_spec.1,h.choose_spec.2⟩
     have HSOME:=Hi (Om (sc:=sc) HSE.out HSH.out HSP.out hh);have HBH:=Hi hbh;clear hh hbh;go_upto_if 136 with fail
     go_wp2_with (refine wpList_load_row rfl 35 (.tmp 2) rfl w.heap.size rfl 35 (FD scv uv pv (.slice A m c) n psv (.slice Ah hs.length ch)) (0,0) _ HSU.out.hb Tryz.underlying35 rfl AI ?_;refine AD rfl 35 (.tmp 4) (.tmp 138) rfl (w.heap.size+1) (FD scv uv pv (.slice A m c) n psv (.slice Ah hs.length ch)) rfl rfl 35 Ai HSU.out.hr AI rfl (JN HSC.out HBU.out HBP.out rfl HP1.out rfl) ?_)
     intro WZ hz hkz;have HLZ:Hid (Le w WZ):=Hi (Below.trans HSU.out.le (hkz.below (by omega) HSU.out.le.size));have HKPZ:Hid (KrS w0 WZ (w.heap.size+2) psv ps):=Hi (((HKP5.out.kp (BK _ _ _ _) (by omega)).kp (BK _ _ _ _) (by omega)).kp hkz (by omega))
     have HKRZ:Hid (KrS w0 WZ (w.heap.size+2) (.slice Ah hs.length ch) hs):=Hi (((HKR5.out.kp (BK _ _ _ _) (by omega)).kp (BK _ _ _ _) (by omega)).kp hkz (by omega));have HZ:=Hi hz;clear hz hkz;go_wp2
     refine bodyPost_ret (v:= .tuple #[.agg (FD scv uv pv (.slice A m c) n psv (.slice Ah hs.length ch)),.int .i64 0]) ?_ rfl ⟨⟨scv,(.slice none 0 0),false,false,uv,pv,.slice A m c,n,psv,.slice Ah hs.length ch⟩,0,rfl,HLZ.out,JN HSC.out HBU.out HBP.out rfl HP1.out rfl,?_⟩
     ·exact BU HZ.out rfl rfl
     ·rw[HSOME.out];exact⟨rfl,⟨HSC.out,Bv.nil _,rfl,rfl,HBU.out,HBP.out,HBH.out,rfl,HKPZ.out,HKRZ.out,hpl,hhl⟩⟩
end Go.Proofs.YtejhpdcjafbklaaGreatDoor
