/- The law FnHeadWritten: Base Shelf. -/
import Derived.WalkKit
import Derived.WalkSpells
import Derived.WalkLawsBesides
import Derived.Handy
import Derived.Deep.QuietTactic
import Derived.BigQuiet
import Derived.Deep.LoopGhost
import Derived.Deep.RegionHeld3
import Derived.Deep.AppendLies
import Derived.Maps.AppendAt
import Derived.Lib.OthersKept
import Derived.Lib.ConvBytes
import Derived.Lib.Hide
import Derived.Lib.AtoiAll
import Derived.Test.YtejhpdcjafbklaaGreatDoorProg
import Derived.Shelf.Strings.Builder1
import Derived.Shelf.Strings.Builder2
import Derived.Shelf.Small.Wraps
import Derived.Shelf.Strings.BuilderF
import Derived.Shelf.Strings.BuilderK
import Derived.Shelf.Strings.Builder2Cap
import Derived.Shelf.Strconv.Atoi
import Derived.Shelf.Strconv.Itoa0
import Derived.Shelf.Strconv.Itoa1
import Derived.Shelf.LaysM
import Derived.Shelf.Strconv.Itoa2
import Derived.Shelf.Strconv.Itoa3
import Derived.Shelf.Strconv.AtoiErrFast
import Derived.Shelf.Strconv.ParseIntEmpty
import Derived.Shelf.Strconv.AtoiFail
import Derived.Shelf.Strconv.Clone
import Derived.Shelf.Strconv.SyntaxError
import Derived.Shelf.LaysC
import Derived.Shelf.Strconv.ToError
import Derived.Shelf.Strconv.AtoiErr
import Derived.Shelf.Strconv.Lower
import Derived.Shelf.Strconv.ParseUint10
import Derived.Shelf.Strconv.ParseUint10Empty
import Derived.Shelf.Strconv.ParseUint10Any
import Derived.Shelf.Strconv.ParseInt10
import Derived.Shelf.Strconv.AtoiLong
import Derived.Shelf.Strconv.AtoiInnerAll
import Derived.Shelf.Strconv.RangeError
import Derived.Shelf.Strconv.ToErrorRange
import Derived.Shelf.Strconv.AtoiAll
import Derived.Shelf.Strconv.ErrVarAll
import Derived.Shelf.GgClosure.StringsIndexFunc
import Derived.Shelf.GgClosure.StringsTrimFunc
import Derived.Shelf.GgClosure.StringsRunes
import Derived.Shelf.Strings.Prefix
import Derived.Shelf.Unicode.Latin
import Derived.Shelf.Unicode.Is16White
import Derived.Shelf.Unicode.IsSpaceAny
import Derived.Shelf.Unicode.Is16WhiteD
import Derived.Shelf.Unicode.IsSpaceAnyD
import Derived.Shelf.Unicode.Is16Any
import Derived.Shelf.Unicode.Is32Any
import Derived.Shelf.Unicode.ExclAny
import Derived.Shelf.Strings.FuncGrows
import Derived.Shelf.Strings.BuilderCap
set_option linter.all false
set_option maxHeartbeats 400000
namespace Go.Proofs.YtejhpdcjafbklaaGreatDoor
open Go.RowKit
theorem Hi{p:Prop}(h:p):Hid p:=h
theorem hq{ops:Array Operand}{P:Nat→Prop}(hop:∀t,Operand.tmp t∈ops→P t)(t:Nat)(h:Operand.tmp t∈ops:=by simp[Op.operands,Call.operands]):P t:=hop t h
theorem tg{a:Act}{t:Nat}{v:Value}(h:a.eval (.tmp t)=v):a.tmps[t]?.getD undef=v:=by simpa[Act.eval]using h
theorem LC{α:Type _}{a:α}{l:List α}:(a::l).length=l.length+1:=rfl
theorem LN{α:Type _}:([]:List α).length=0:=rfl
theorem LA{α:Type _}{a b:List α}:(a++b).length=a.length+b.length:=List.length_append
theorem NL(n:Nat):n≤n:=Nat.le_refl n
def bs(s:ByteArray):List UInt8:=s.data.toList
def st(l:List UInt8):ByteArray:=⟨l.toArray⟩
theorem AV(l:List UInt8):bs (st l)=l:=by simp[bs,st]
theorem FB(s:ByteArray):st (bs s)=s:=by cases s;simp[bs,st]
theorem BD(s:ByteArray):(bs s).length=s.size:=by simp[bs]
theorem AF(l:List UInt8):(st l).size=l.length:=by simp[st,ByteArray.size]
theorem MM{s t:ByteArray}(h:bs s=bs t):s=t:=by rw[←FB s,←FB t,h]
theorem Ao(s:ByteArray)(a b:Nat):bs (s.extract a b)=((bs s).take b).drop a:=by
 simp[bs,ByteArray.data_extract,Array.toList_extract,List.extract];rw[List.drop_take]
theorem Hm(s:ByteArray)(a b:Nat):s.extract a b=st (((bs s).take b).drop a):=by rw[←Ao,FB]
theorem OG(s:ByteArray)(k:Nat)(h:k<s.size):s.get! k=(bs s)[k]'(by rw[BD];exact h):=by
 rw[show s.get! k=s.get! (k+0)from rfl,get_at s k h];rfl
theorem Nk(s:ByteArray)(k:Nat)(h:k<s.size):s[k]'h=(bs s)[k]'(by rw[BD];exact h):=rfl
theorem Ev(s:ByteArray)(p:Nat)(h:p<s.size):
 (∃h':p<(bs s).length,(bs s)[p].toNat<128∧Utf8.decode s p=((bs s)[p].toNat,1))∨
 (128≤(Utf8.decode s p).1∧(Utf8.decode s p).1≤1114111∧1≤(Utf8.decode s p).2∧p+(Utf8.decode s p).2≤(bs s).length∧
  ∀j (hj:j<(bs s).length),p≤j→j<p+(Utf8.decode s p).2→128≤(bs s)[j].toNat):=by
 have hl:=BD s;have h':p<(bs s).length:=by omega
 have g0:s.get! (p+0)=(bs s)[p]:=OG s p h;by_cases ha:(bs s)[p].toNat<128
 ·left;refine⟨h',ha,?_⟩;simp only[Utf8.decode,g0,ha,if_true]
 ·right;have hc:∀k,(p+k<s.size&&(s.get! (p+k)).toNat/64==2)=true→∃hk:p+k<(bs s).length,s.get! (p+k)=(bs s)[p+k]∧128≤((bs s)[p+k]).toNat∧((bs s)[p+k]).toNat<192:=by
   intro k hk;simp only[Bool.and_eq_true,decide_eq_true_eq,beq_iff_eq]at hk;have hk':p+k<(bs s).length:=by omega
   have e:=OG s (p+k) hk.1;refine⟨hk',e,?_⟩;have:=hk.2;rw[e]at this;omega
  have b0:(bs s)[p].toNat<256:=(bs s)[p].toNat_lt;have one:∀j (hj:j<(bs s).length),p≤j→j<p+1→128≤(bs s)[j].toNat:=by
   intro j hj h1 h2;obtain rfl:j=p:=by omega
   omega
  simp only[Utf8.decode,g0,ha,if_false];have v2:Utf8.runeError=65533:=rfl;split
  ·rename_i hx
   simp only[Bool.and_eq_true]at hx;obtain⟨k1,e1,a1,z1⟩:=hc 1 (by simpa using hx.2);rw[e1];split
   ·refine⟨by omega,by omega,by omega,by omega,?_⟩;intro j hj h1 h2;rcases(by omega:j=p∨j=p+1)with rfl|rfl
    ·omega
    ·exact a1
   ·exact⟨by simp[v2],by simp[v2],by omega,by omega,one⟩
  ·split
   ·rename_i hx
    simp only[Bool.and_eq_true]at hx;obtain⟨k1,e1,a1,z1⟩:=hc 1 (by simpa using hx.1.2);obtain⟨k2,e2,a2,z2⟩:=hc 2 (by simpa using hx.2);rw[e1,e2];split
    ·refine⟨by rename_i h3;simp only[Bool.and_eq_true,decide_eq_true_eq]at h3;omega,by omega,by omega,by omega,?_⟩;intro j hj h1 h2;rcases(by omega:j=p∨j=p+1∨j=p+2)with rfl|rfl|rfl
     ·omega
     ·exact a1
     ·exact a2
    ·exact⟨by simp[v2],by simp[v2],by omega,by omega,one⟩
   ·split
    ·rename_i hx
     simp only[Bool.and_eq_true]at hx;obtain⟨k1,e1,a1,z1⟩:=hc 1 (by simpa using hx.1.1.2);obtain⟨k2,e2,a2,z2⟩:=hc 2 (by simpa using hx.1.2);obtain⟨k3,e3,a3,z3⟩:=hc 3 (by simpa using hx.2);rw[e1,e2,e3];split
     ·rename_i h3
      simp only[Bool.and_eq_true,decide_eq_true_eq,Utf8.valid,Bool.or_eq_true]at h3;refine⟨by omega,by omega,by omega,by omega,?_⟩;intro j hj h1 h2;rcases(by omega:j=p∨j=p+1∨j=p+2∨j=p+3)with rfl|rfl|rfl|rfl
      ·omega
      ·exact a1
      ·exact a2
      ·exact a3
     ·exact⟨by simp[v2],by simp[v2],by omega,by omega,one⟩
    ·exact⟨by simp[v2],by simp[v2],by omega,by omega,one⟩
theorem Ks{α:Type}(F:List UInt8→α)(hF:∀l x,128≤x.toNat→F (l++[x])=F l)(l:List UInt8)(p k:Nat)(hk:p+k≤l.length)
 (h:∀j (hj:j<l.length),p≤j→j<p+k→128≤l[j].toNat):F (l.take (p+k))=F (l.take p):=by
 induction k with
 |zero=>rfl
 |succ k ih=>
  have hj:p+k<l.length:=by omega
  rw[show p+(k+1)=(p+k)+1 from rfl,List.take_succ_eq_append_getElem hj,hF _ _ (h _ hj (by omega) (by omega))];exact ih (by omega) fun j hj' h1 h2=>h j hj' h1 (by omega)
def Cd(s:ByteArray)(p:Nat)(c:Int)(d:Nat):Prop:=
 1≤d∧p+d≤s.size∧0≤c∧c≤1114111∧
 ((∃h:p<(bs s).length,c=((bs s)[p].toNat:Int)∧d=1∧c<128)∨
  (128≤c∧∀j (hj:j<(bs s).length),p≤j→j<p+d→128≤(bs s)[j].toNat))
theorem On(s:ByteArray)(p:Nat)(h:p<s.size):Cd s p ((Utf8.decode s p).1:Nat) (Utf8.decode s p).2:=by
 have hl:=BD s;rcases Ev s p h with⟨h',h1,h2⟩|⟨h1,h2,h3,h4,h5⟩
 ·rw[h2];exact⟨NL 1,by dsimp only;omega,by dsimp only;omega,by dsimp only;omega,.inl ⟨h',rfl,rfl,by dsimp only;omega⟩⟩
 ·exact⟨h3,by omega,by omega,by omega,.inr ⟨by omega,h5⟩⟩
theorem CY{P:Program}{wr:World}{k:Nat}{s:ByteArray}{p:Nat}(hk:wr.heap[k]? =some (.stringIter s p))(h:p<s.size):
 ∃(c:Int) (d:Nat) (W1:World),(∀ty,(Instr.next (.pointer (some ⟨k,0,none⟩)) true ty).run P wr= .ok (.tuple #[.bool true,.int .i64 p,.int .i32 c]) W1)∧
  Cd s p c d∧W1.heap[k]? =some (.stringIter s (p+d))∧W1=wr.iterAt k s (p+d):=
 ⟨_,_,_,fun ty=>Lib.run_next_any_at wr _ s p ty hk h,On s p h,Lib.iterAt_heap _ _ _ _ _ hk,rfl⟩
theorem Cd.take{α:Type}{s:ByteArray}{p:Nat}{c:Int}{d:Nat}(h:Cd s p c d)(F:List UInt8→α)(hF:∀l x,128≤x.toNat→F (l++[x])=F l):
 (∃h:p<(bs s).length,c=((bs s)[p].toNat:Int)∧d=1∧F ((bs s).take (p+d))=F ((bs s).take p++[(bs s)[p]]))∨(128≤c∧F ((bs s).take (p+d))=F ((bs s).take p)):=by
 obtain⟨h1,h2,h3,h4,h5⟩:=h;rcases h5 with⟨h',e1,rfl,e3⟩|⟨e1,e2⟩
 ·exact .inl ⟨h',e1,rfl,by rw[List.take_succ_eq_append_getElem h']⟩
 ·exact .inr ⟨e1,Ks F hF _ _ _ (by rw[BD];exact h2) e2⟩
abbrev Le(w w':World):Prop:=Below w.heap.size w w'
theorem AC(w:World):Le w w:=Below.refl _ _
theorem Le.trans{a b c:World}(h:Le a b)(k:Le b c):Le a c:=Below.trans h (k.mono h.size)
theorem Le.alloc{a w:World}(h:Le a w)(o:Obj):Le a (w.alloc o):=Below.alloc h h.size o
theorem Le.iter{a w:World}(h:Le a w)(s:ByteArray)(p:Nat):Le a (w.iter s p):=Below.alloc h h.size _
theorem Le.drew{a w:World}(h:Le a w):Le a w.drew:=Below.drew h
theorem Ni{B:Nat}{a w:World}(h:Below B a w)(n:Nat):Below B a (w.drewN n):=⟨h.os,h.tape,h.output,h.size,h.block⟩
theorem Le.drewN{a w:World}(h:Le a w)(n:Nat):Le a (w.drewN n):=Ni h n
theorem Le.iterAt{a w:World}(h:Le a w){k:Nat}(hk:a.heap.size≤k)(s:ByteArray)(p:Nat):Le a (w.iterAt k s p):=Lib.below_iterAt h hk s p
theorem Le.setCell{a w:World}(h:Le a w){p:Addr}(hp:a.heap.size≤p.block)(u:Value):Le a (w.setCell p u):=Below.setCell h hp u
theorem Az{w:World}{a:Addr}{v:Value}(h:w.cell? a=some v):a.block<w.heap.size:=World.block_lt_of_cell? w a h
theorem Le.cell{w w':World}(h:Le w w'){a:Addr}{v:Value}(hc:w.cell? a=some v):w'.cell? a=some v:=(Below.cell h (Az hc)).trans hc
theorem AQ{w:World}{k:Nat}{o:Obj}(h:w.heap[k]? =some o):k<w.heap.size:=(Array.getElem?_eq_some_iff.1 h).1
theorem Le.heap{w w':World}(h:Le w w'){k:Nat}{o:Obj}(hk:w.heap[k]? =some o):w'.heap[k]? =some o:=(h.block k (AQ hk)).trans hk
theorem Le.frozen{w w':World}(h:Le w w'){a:Addr}(ha:a.block<w.heap.size){b:Bool}(hc:w.frozen? a=b):w'.frozen? a=b:=(Below.frozen h ha).trans hc
def Dr(w w':World):Prop:=∃n,w'=w.drewN n
theorem Dr.le{w w':World}(h:Dr w w'):Le w w':=by obtain⟨n,rfl⟩:=h;exact(AC w).drewN n
theorem Dr.refl(w:World):Dr w w:=⟨0,by cases w;rfl⟩
theorem Dr.step{w w':World}(h:Dr w w')(n:Nat):Dr w (w'.drewN n):=by obtain⟨m,rfl⟩:=h;exact⟨m+n,World.drewN_drewN ..⟩
theorem Dr.trans{a b c:World}(h:Dr a b)(k:Dr b c):Dr a c:=by obtain⟨n,rfl⟩:=k;exact h.step n
theorem Dr.eq{w w':World}(h:w=w'):Dr w w':=h▸Dr.refl w
def Rb(w:World)(A:Option Addr)(l:List UInt8):Prop:=
 l.length≤140737488355328∧(0<l.length→∃b o,A=some ⟨b,o,none⟩∧∀j (h:j<l.length),w.cell? ⟨b,o+j,none⟩=some (.int .u8 (l[j].toNat:Int)))
theorem Rb.le{w w':World}{A:Option Addr}{l:List UInt8}(h:Rb w A l)(hw:Le w w'):Rb w' A l:=
 ⟨h.1,fun hn=>by obtain⟨b,o,e,hc⟩:=h.2 hn;exact⟨b,o,e,fun j hj=>hw.cell (hc j hj)⟩⟩
def Bv(w:World)(v:Value)(l:List UInt8):Prop:=∃A c,v= .slice A l.length c∧l.length≤c∧c≤9223372036854775807∧Rb w A l
theorem Bv.le{w w':World}{v:Value}{l:List UInt8}(h:Bv w v l)(hw:Le w w'):Bv w' v l:=by
 obtain⟨A,c,e,h1,h2,h3⟩:=h;exact⟨A,c,e,h1,h2,h3.le hw⟩
theorem Bv.nil(w:World):Bv w (.slice none 0 0) []:=⟨none,0,rfl,by simp,by simp,by simp,fun h=>by simp at h⟩
def Mg(w:World)(e:TypeId)(s:ByteArray):Nat:=grownCap w s.size 0 e
theorem Iw{P:Program}{src dst e:TypeId}(hs:P.underlying src=some .string)(hd:P.underlying dst=some (.slice e))(he:P.underlying e=some (.int .u8))(s:ByteArray)(w:World):
 (convert src dst (.string s)).run P w= .ok (.slice (some ⟨w.heap.size,0,none⟩) s.size (Mg w e s)) (Lib.bytesWorld w e s):=Lib.run_convert_string_bytes w src dst e s hs hd he
theorem LR(w:World)(e:TypeId)(s:ByteArray):Le w (Lib.bytesWorld w e s):=by
 refine⟨?_,?_,?_,by rw[Lib.bytesWorld_size];omega,fun k hk=>Lib.bytesWorld_at_old w e s k hk⟩<;>
 ·simp only[Lib.bytesWorld,World.freeze];split<;>rfl
theorem P2(w:World)(e:TypeId)(s:ByteArray)(hs:s.size≤140737488355328)(hm:Mg w e s≤9223372036854775807):Bv (Lib.bytesWorld w e s) (.slice (some ⟨w.heap.size,0,none⟩) s.size (Mg w e s)) (bs s):=by
 refine⟨_,_,by rw[BD],by rw[BD];exact grownCap_ge w s.size 0 e,hm,by rw[BD];exact hs,fun _=>⟨_,_,rfl,fun j hj=>?_⟩⟩;have hj':j<s.size:=by rw[←BD];exact hj
 have hj2:j<s.data.toList.length:=hj;have h:=Lib.bytesWorld_cell w e s j hj';have hg:s.data.toList.getD j 0=(bs s)[j]:=by rw[List.getD_eq_getElem?_getD,List.getElem?_eq_getElem hj2];rfl
 rw[hg]at h;rw[Nat.zero_add];exact h
theorem Gm(w:World)(e:TypeId)(s:ByteArray)(hs:s.size≤140737488355328):Mg w e s≤9223372036854775807:=by
 have:=grownCap_le_maxLen w s.size 0 e (by unfold maxLen;omega);unfold maxLen at this;exact this
theorem BT{P:Program}{src dst e:TypeId}(hs:P.underlying src=some (.slice e))(he:P.underlying e=some (.int .u8))(hd:P.underlying dst=some .string){w:World}{v:Value}{l:List UInt8}(h:Bv w v l):
 (convert src dst v).run P w= .ok (.string (st l)) w:=by
 obtain⟨A,c,rfl,h1,h2,h3,h4⟩:=h;rcases Nat.eq_zero_or_pos l.length with h0|h0
 ·obtain rfl:l=[]:=List.eq_nil_of_length_eq_zero h0;have e:=run_convert_bytes_string w src dst e A 0 c hs he hd;refine e.trans ?_;cases A with
  |none=>rfl
  |some a=>rw[run_bytesToString w a 0 c [] (by simp[go_sem])];rfl
 ·obtain⟨b,o,rfl,hc⟩:=h4 h0;refine run_convert_bytes_back w src dst e _ c l hs he hd (fun j hj=>?_);have ha:(⟨b,o,none⟩:Addr).add j=⟨b,o+j,none⟩:=by unfold Addr.add;split<;>simp_all
  rw[ha];exact hc j hj
end Go.Proofs.YtejhpdcjafbklaaGreatDoor
namespace Go.Proofs.YtejhpdcjafbklaaGreatDoor
open Go.RowKit
abbrev Tx:=List UInt8
abbrev KVs:=List (Tx×Tx)
structure PU where
 scheme:Tx
 raw:Tx
 wild:Bool
 slash:Bool
 user:Tx
 pass:Tx
 host:Tx
 port:Int
 ps:KVs
 hs:KVs
def PU.zero:PU:=⟨[],[],false,false,[],[],[],0,[],[]⟩
inductive Sq|slashes|user|host|ip|port|params|heads|stop
def FG(c:UInt8):Bool:=(97≤c&&c≤122)||(65≤c&&c≤90)
def Bf(c:UInt8):UInt8:=if 65≤c&&c≤90 then c+32 else c
def C4(l:Tx):Nat:=l.length-1-l.reverse.findIdx (·==58)
theorem GJ(l:Tx)(x:UInt8):C4 (l++[x])=if x=58 then l.length else C4 l:=by
 simp only[C4,List.reverse_append,List.reverse_cons,List.reverse_nil,List.nil_append,List.singleton_append,LA,LC,LN,List.findIdx_cons];by_cases h:x=58
 ·simp[h]
 ·have:(x==58)=false:=by simp[h]
  rw[this,if_neg h];simp only[cond_false];omega
def Fb:Tx:=[115,105,112]
def DT:Tx:=[115,105,112,115]
def BQ(l:Tx)(u:PU):Option (Sq×Tx×PU):=
 if l.length<3 then(if l=[42]then some (.stop,[],{u with host:=[42],wild:=true})else none)
 else
  let i:=l.findIdx (fun c=> !FG c)
  if i<l.length then
   if l.getD i 0=58 then
    let sc:=(l.take i).map Bf
    if sc=Fb∨sc=DT then some (.slashes,l.drop (i+1),{u with scheme:=sc})else some (.stop,[],{u with scheme:=sc,raw:=l.drop (i+1)})
   else none
  else none
def Cl(l:Tx)(u:PU):Sq×Tx×PU:=
 if [47,47].isPrefixOf l then(.user,l.drop 2,{u with slash:=true})else(.user,l,{u with slash:=false})
def DG(c:UInt8):Bool:=c==91||c==64
def FH(l:Tx)(u:PU):Sq×Tx×PU:=
 let i:=l.findIdx DG
 if i<l.length then
  if l.getD i 0=91 then(.host,l.drop i,u)
  else
   let e:=C4 (l.take i)
   if 0<e then(.host,l.drop (i+1),{u with user:=l.take e,pass:=(l.take i).drop (e+1)})else(.host,l.drop (i+1),{u with user:=l.take i})
 else(.host,l,u)
def El(c:UInt8):Bool:=c==91||c==58||c==59||c==63
def Do(l:Tx)(u:PU):Sq×Tx×PU:=
 let i:=l.findIdx El
 if i<l.length then
  if l.getD i 0=91 then(.ip,l.drop i,u)
  else if l.getD i 0=58 then(.port,l.drop (i+1),{u with host:=l.take i})
  else if l.getD i 0=59 then(.params,l.drop (i+1),{u with host:=l.take i})
  else(.heads,l.drop (i+1),{u with host:=l.take i})
 else(.params,[],{u with host:=l,wild:=decide (l=[42])})
def fIp(l:Tx)(k:Nat)(u:PU):Sq×Tx×PU:=
 let v:={u with host:=l.take (k+1)}
 match l.drop (k+1)with
 |[]=>(.params,[],v)
 |c::t=>if c=58 then(.port,t,v)else if c=59 then(.params,t,v)else if c=63 then(.heads,t,v)else(.params,[],v)
def Ei(c:UInt8):Bool:=c==59||c==63
def En(l:Tx):Tx×Sq×Tx:=
 let i:=l.findIdx Ei
 if i<l.length then(l.take i,if l.getD i 0=59 then .params else .heads,l.drop (i+1))else(l,.params,[])
def B7:KVs→Tx→Tx→KVs
 |[],k,v=>[(k,v)]
 |x::r,k,v=>if x.1=k then(k,v)::r else x::B7 r k v
structure UM where
 start:Nat
 sep:Nat
 quote:Int
 state:Nat
 acc:KVs
def sub(l:Tx)(a b:Nat):Tx:=(l.take b).drop a
def CR(l:Tx)(sp:UInt8)(i:Nat)(c:UInt8)(m:UM):UM:=
 match m.state with
 |1=>{m with sep:=0,start:=i,state:=2}
 |2=>if c=sp then {m with acc:=B7 m.acc (sub l m.start i) [],state:=1} else if c=61 then {m with sep:=i,state:=3} else m
 |3=>if c=34 then {m with state:=4,quote:=i} else if c=sp then {m with acc:=B7 m.acc (sub l m.start m.sep) (sub l (m.sep+1) i),start:=m.sep+1,state:=1} else m
 |_=>if c=34 then {m with acc:=B7 m.acc (l.drop m.start) (sub l (m.quote.toNat+1) i),state:=1} else m
def KK(l:Tx)(sp en:UInt8):Nat→Nat→UM→Nat×UM
 |0,i,m=>(i,m)
 |f+1,i,m=>if h:i<l.length then(if l[i]=en then(i,m)else KK l sp en f (i+1) (CR l sp i l[i] m))else(l.length,m)
def FS(l:Tx)(n:Nat)(m:UM):KVs:=
 let a:=if 0<m.sep∧m.start<m.sep then B7 m.acc (sub l m.start m.sep) (sub l (m.sep+1) n)else m.acc
 if m.sep=0∧m.start<n then B7 a (l.drop m.start) []else a
def unm(l:Tx)(sp en:UInt8)(p:KVs):Nat×KVs:=
 let r:=KK l sp en (l.length+1) 0 ⟨0,0,-1,1,p⟩
 (r.1,FS l r.1 r.2)
end Go.Proofs.YtejhpdcjafbklaaGreatDoor
namespace Go.Proofs.YtejhpdcjafbklaaGreatDoor
open Go.RowKit
def GA(c:UInt8):Bool:=48≤c&&c≤57
def Du(c:UInt8):Bool:=FG c||GA c
def JX(c:UInt8):Bool:=GA c||(97≤c&&c≤102)||(65≤c&&c≤70)
def Gu:Tx:=[45,95,46,33,126,42,39,40,41,38,61,43,36,44,59,63,47]
def J3:Tx:=[45,95,46,33,126,42,39,40,41,38,61,43,36,44]
def DQ:Tx:=[45,95,46,33,126,42,39,40,41,47,58,38,43,36]
def Fs:Tx:=[45,95,46,33,126,42,39,40,41,47,63,58,43,36]
def GF:Tx:=[45,46,33,37,42,95,43,96,39,126]
def Ce(signs:Tx):Tx→Bool
 |[]=>true
 |c::r=>if c=37 then(match r with|a::b::r'=>JX a&&JX b&&Ce signs r'|_=>false)else(Du c||signs.contains c)&&Ce signs r
def DU(l:Tx):Bool:=l.all (fun c=>Du c||GF.contains c)&& !l.isEmpty
def BC(l:Tx)(c:UInt8):Nat:=l.findIdx (·==c)
def ixI(l:Tx)(c:UInt8):Int:=if BC l c<l.length then(BC l c:Int)else-1
def lxI(l:Tx)(c:UInt8):Int:=if l.reverse.findIdx (·==c)<l.length then((l.length-1-l.reverse.findIdx (·==c):Nat):Int)else-1
def pcs(c:UInt8):Tx→List Tx
 |[]=>[[]]
 |x::r=>if x=c then []::pcs c r else(match pcs c r with|[]=>[[x]]|p::ps=>(x::p)::ps)
def D3(p:Tx):Tx×Tx:=if BC p 61<p.length then(p.take (BC p 61),p.drop (BC p 61+1))else(p,[])
def IV(signs p:Tx):Bool:= !(decide (BC p 61<p.length)&&(D3 p).2.isEmpty)&& !(D3 p).1.isEmpty&&Ce signs (D3 p).1&&Ce signs (D3 p).2
def apB(l:KVs):Bool:=decide (l.Pairwise (fun x y=>x.1.map Bf≠y.1.map Bf))
def BB(l:Tx)(sep:UInt8)(signs:Tx):Option KVs:=
 if(pcs sep l).all (IV signs)&&apB ((pcs sep l).map D3)then some ((pcs sep l).map D3)else none
def Bp(l:Tx):Bool:=l.all (fun c=>Du c||c==45||c==46)&&(match l.head?,l.getLast? with|some a,some b=>Du a&&Du b|_,_=>false)
def Iu(l:Tx):Nat:=l.foldl (fun n c=>10*n+(c.toNat-48)) 0
def FE(l:Tx):Option Nat:=if l.all GA&& !l.isEmpty&& !(l.head? ==some 48)&&decide (Iu l≤65535)then some (Iu l)else none
def BF(l:Tx):Option (Tx×Nat):=
 if BC l 58<l.length then(match FE (l.drop (BC l 58+1))with|some n=>if Bp (l.take (BC l 58))then some (l.take (BC l 58),n)else none|none=>none)
 else if Bp l then some (l,0)else none
def DV(l:KVs):Bool:=l.all (fun x=> !x.2.isEmpty)
def DI(l:Tx):Option (Tx×Tx×Tx):=
 if 0≤lxI l 64 then
  let k:=(lxI l 64).toNat
  let us:=l.take k
  if BC us 58<us.length then
   (if !(us.drop (BC us 58+1)).isEmpty&&Ce J3 (us.drop (BC us 58+1))&& !(us.take (BC us 58)).isEmpty&&Ce Gu (us.take (BC us 58))then some (us.take (BC us 58),us.drop (BC us 58+1),l.drop (k+1))else none)
  else(if !us.isEmpty&&Ce Gu us then some (us,[],l.drop (k+1))else none)
 else some ([],[],l)
def Bz(l:Tx):Option (KVs×Tx):=
 if BC l 63<l.length then(match BB (l.drop (BC l 63+1)) 38 Fs with|some hs=>if DV hs then some (hs,l.take (BC l 63))else none|none=>none)
 else some ([],l)
def FF(l:KVs):Tx:=(l.getLast?.getD ([],[])).2
def Bh(l:Tx)(hs:KVs):Option (KVs×Tx):=
 if BC l 59<l.length then(match BB (l.drop (BC l 59+1)) 59 DQ with|some ps=>if !hs.isEmpty&&(FF ps).isEmpty then none else some (ps,l.take (BC l 59))|none=>none)
 else some ([],l)
def Ac(sc l:Tx):Option PU:=
 match DI l with
 |none=>none
 |some (un,pw,s)=>
  match Bz s with
  |none=>none
  |some (hs,s1)=>
   match Bh s1 hs with
   |none=>none
   |some (ps,s2)=>
    match BF s2 with
    |none=>none
    |some (h,n)=>some ⟨sc,[],false,false,un,pw,h,n,ps,hs⟩
def prB(l:Tx):Bool:=l.all (fun c=>33≤c&&c≤126&&c != 60&&c != 62&&c != 34&&c != 44)
inductive SR|told|open_|val (u:PU)
def SR.of:Option PU→SR|none=> .open_|some u=> .val u
def By(l:Tx):SR:=
 if l=[]then .told
 else if l=[42]then .val {PU.zero with host:=[42],wild:=true}
 else
  let k:=BC l 58
  if 0<k&&decide (k<l.length)&&(l.take k).all FG then
   let sc:=l.take k
   let rest:=l.drop (k+1)
   let low:=sc.map Bf
   if low≠Fb∧low≠DT then
    (if !rest.isEmpty&&prB rest&& !(rest.head? ==some 47)&&decide (low=sc)then .val {PU.zero with scheme:=sc,raw:=rest} else .open_)
   else if low≠sc then .open_
   else if [47,47].isPrefixOf rest then .open_
   else SR.of (Ac sc rest)
  else .open_
end Go.Proofs.YtejhpdcjafbklaaGreatDoor
namespace Go.Proofs.YtejhpdcjafbklaaGreatDoor
open Go.RowKit
def BO:KVs→List Value
 |[]=>[]
 |x::r=> .string (st x.1):: .string (st x.2)::BO r
theorem GD(l:KVs):(BO l).length=l.length*2:=by
 induction l with
 |nil=>rfl
 |cons x r ih=>simp only[BO,LC,ih];omega
theorem Dt(a b:KVs):BO (a++b)=BO a++BO b:=by
 induction a with
 |nil=>rfl
 |cons x r ih=>simp[BO,ih]
theorem J5(l:KVs)(j:Nat)(h:j<l.length):(BO l)[2*j]? =some (.string (st l[j].1))∧(BO l)[2*j+1]? =some (.string (st l[j].2)):=by
 induction l generalizing j with
 |nil=>simp at h
 |cons x r ih=>
  cases j with
  |zero=>exact⟨rfl,rfl⟩
  |succ j=>
   have:=ih j (by simpa using h);rw[show 2*(j+1)=2*j+1+1 from by omega];simpa[BO]using this
def Hp(w:World)(v:Value)(l:KVs):Prop:=
 ∃A c,v= .slice A l.length c∧l.length≤c∧c≤9223372036854775807∧l.length≤1099511627776∧
  (∀x∈l,x.1.length≤1099511627776∧x.2.length≤1099511627776)∧
  (0<l.length→∃g o,A=some ⟨g,o,none⟩∧(∃cur fz,w.heap[g]? =some (.cells cur 172 fz))∧
   ∀j (h:j<l.length),w.cell? ⟨g,o+j*2,none⟩=some (.string (st l[j].1))∧w.cell? ⟨g,o+j*2+1,none⟩=some (.string (st l[j].2)))
theorem Hp.nil(w:World):Hp w (.slice none 0 0) []:=⟨none,0,rfl,by simp,by simp,by simp,by simp,fun h=>by simp at h⟩
abbrev Kp(b:Nat)(w w':World):Prop:=w.grownBy w' (some b)
theorem Kp.refl(b:Nat)(w:World):Kp b w w:=⟨rfl,rfl,rfl,NL _,fun _ _ _=>rfl⟩
theorem Kp.trans{b:Nat}{u v w:World}(h:Kp b u v)(k:Kp b v w):Kp b u w:=
 ⟨k.os.trans h.os,k.tape.trans h.tape,k.output.trans h.output,Nat.le_trans h.size k.size,fun i hi hb=>(k.block i (Nat.lt_of_lt_of_le hi h.size) hb).trans (h.block i hi hb)⟩
theorem Kp.le{b:Nat}{u v w:World}(h:Kp b u v)(k:Le v w):Kp b u w:=
 ⟨k.os.trans h.os,k.tape.trans h.tape,k.output.trans h.output,Nat.le_trans h.size k.size,fun i hi hb=>(k.block i (Nat.lt_of_lt_of_le hi h.size)).trans (h.block i hi hb)⟩
theorem Le.kp{v w:World}(k:Le v w)(b:Nat):Kp b v w:=(Kp.refl b v).le k
theorem Kp.set{b:Nat}{u v:World}(h:Kp b u v)(o:Nat)(x:Value):Kp b u (v.setCell ⟨b,o,none⟩ x):=
 h.trans ⟨rfl,rfl,rfl,by simp[World.setCell],fun k _ hb=>Below.heap_setCell _ _ _ _ (fun e=>hb (by rw[e]))⟩
theorem Kp.below{b B:Nat}{u v:World}(h:Kp b u v)(hb:B≤b)(hB:B≤u.heap.size):Below B u v:=
 ⟨h.os,h.tape,h.output,h.size,fun k hk=>h.block k (by omega) (fun e=>by injection e;omega)⟩
theorem Kp.heap{b:Nat}{w w':World}(h:Kp b w w'){k:Nat}(hb:k≠b){o:Obj}(hk:w.heap[k]? =some o):w'.heap[k]? =some o:=
 (h.block k (AQ hk) (fun e=>hb (by injection e))).trans hk
theorem Hp.of_blocks{w w':World}{v:Value}{l:KVs}(h:Hp w v l)(hk:∀(g:Nat) (cur:Array Value) (fz:Nat×Nat),w.heap[g]? =some (.cells cur 172 fz)→w'.heap[g]? =w.heap[g]?):Hp w' v l:=by
 obtain⟨A,c,e,h1,h2,h3,h4,h5⟩:=h;refine⟨A,c,e,h1,h2,h3,h4,fun hn=>?_⟩;obtain⟨g,o,e,⟨cur,fz,hg⟩,hc⟩:=h5 hn;have e1:=hk g cur fz hg;exact⟨g,o,e,⟨cur,fz,e1.trans hg⟩,fun j hj=>⟨(World.cell?_of_block (a:=⟨g,o+j*2,none⟩) e1).trans (hc j hj).1,(World.cell?_of_block (a:=⟨g,o+j*2+1,none⟩) e1).trans (hc j hj).2⟩⟩
theorem Hp.le{w w':World}{v:Value}{l:KVs}(h:Hp w v l)(hw:Le w w'):Hp w' v l:=h.of_blocks fun g _ _ hg=>hw.block g (AQ hg)
theorem Hp.kp{w w':World}{v:Value}{l:KVs}{b:Nat}(h:Hp w v l)(hw:Kp b w w'){cs:Array Value}{T:TypeId}{fz:Nat×Nat}(hb:w.heap[b]? =some (.cells cs T fz))(hT:T≠172):Hp w' v l:=
 h.of_blocks fun g cur fz' hg=>hw.block g (AQ hg) (fun e=>by
  injection e with e;subst e;rw[hb]at hg;injection hg with hg;injection hg with _ h2;exact hT h2)
theorem Hp.of_own{w:World}{base:Nat}{v:Value}{l:KVs}(h:w.ownsRow base 172 2 v l.length (BO l))(h3:l.length≤1099511627776)(h4:∀x∈l,x.1.length≤1099511627776∧x.2.length≤1099511627776):Hp w v l:=by
 have h0:=h;obtain⟨_,h2⟩:=h;rcases h2 with⟨rfl,hn⟩|⟨g,cap,cur,rfl,hg,hh,hle,hm,hs,ht⟩
 ·obtain rfl:l=[]:=List.eq_nil_of_length_eq_zero hn;exact Hp.nil w
 ·unfold maxLen at hm;refine⟨_,_,rfl,hle,hm,h3,h4,fun _=>⟨g,0,rfl,⟨cur,_,hh⟩,fun j hj=>?_⟩⟩;have k:=J5 l j hj;have a1:=h0.cells (g:=g) rfl (2*j) _ k.1;have a2:=h0.cells (g:=g) rfl (2*j+1) _ k.2;have e1:∀i,(⟨g,0,none⟩:Addr).add i=⟨g,0+i,none⟩:=fun i=>by unfold Addr.add;split<;>simp_all
  rw[e1,Nat.mul_comm 2 j]at a1 a2;exact⟨a1,a2⟩
def PU.cells(u:PU)(pv hv:Value):Array Value:=
 #[.string (st u.scheme),.string (st u.raw),.bool u.wild,.bool u.slash,.string (st u.user),.string (st u.pass),.string (st u.host),.int .i64 u.port,pv,hv]
def PU.small(u:PU):Prop:=
 u.scheme.length≤1099511627776∧u.raw.length≤1099511627776∧u.user.length≤1099511627776∧u.pass.length≤1099511627776∧u.host.length≤1099511627776∧
 -9223372036854775808≤u.port∧u.port≤9223372036854775807
def UAt(w:World)(b:Nat)(u:PU):Prop:=
 ∃pv hv,w.heap[b]? =some (.cells (u.cells pv hv) 84 (0,0))∧Hp w pv u.ps∧Hp w hv u.hs∧u.small
theorem UAt.le{w w':World}{b:Nat}{u:PU}(h:UAt w b u)(hw:Le w w'):UAt w' b u:=by
 obtain⟨pv,hv,h1,h2,h3,h4⟩:=h;exact⟨pv,hv,hw.heap h1,h2.le hw,h3.le hw,h4⟩
theorem UAt.lt{w:World}{b:Nat}{u:PU}(h:UAt w b u):b<w.heap.size:=by obtain⟨pv,hv,h1,_⟩:=h;exact AQ h1
theorem UAt.sm{w:World}{b:Nat}{u:PU}(h:UAt w b u):u.small:=by obtain⟨pv,hv,_,_,_,h4⟩:=h;exact h4
theorem AN{w:World}{b:Nat}{cs:Array Value}{T:TypeId}(h:w.heap[b]? =some (.cells cs T (0,0)))(j:Nat):w.frozen? ⟨b,j,none⟩=false:=by simp[World.frozen?,h]
theorem AB{w:World}{b:Nat}{cs:Array Value}{T:TypeId}{fz:Nat×Nat}(h:w.heap[b]? =some (.cells cs T fz))(j:Nat):w.cell? ⟨b,j,none⟩=cs[j]? :=by simp[World.cell?,h]
theorem AX{w:World}{b:Nat}{cs:Array Value}{T:TypeId}{fz:Nat×Nat}(h:w.heap[b]? =some (.cells cs T fz))(j:Nat)(x:Value):(w.setCell ⟨b,j,none⟩ x).heap[b]? =some (.cells (cs.setIfInBounds j x) T fz):=by
 simp[World.setCell,Array.getElem?_modify,h]
theorem BK(w:World)(b o:Nat)(x:Value):Kp b w (w.setCell ⟨b,o,none⟩ x):=(Kp.refl b w).set o x
section
variable {w:World} {b:Nat} {u:PU}
theorem UAt.put(h:UAt w b u)(j:Nat)(x:Value)(u':PU)(hc:∀pv hv,(u.cells pv hv).setIfInBounds j x=u'.cells pv hv)(hp:u'.ps=u.ps)(hh:u'.hs=u.hs)(hs:u'.small):UAt (w.setCell ⟨b,j,none⟩ x) b u':=by
 obtain⟨pv,hv,h1,h2,h3,h4⟩:=h;refine⟨pv,hv,by rw[AX h1,hc],?_,?_,hs⟩
 ·rw[hp];exact h2.kp (BK w b j x) h1 (by decide)
 ·rw[hh];exact h3.kp (BK w b j x) h1 (by decide)
theorem UAt.frozen(h:UAt w b u)(j:Nat):w.frozen? ⟨b,j,none⟩=false:=by obtain⟨pv,hv,h1,_⟩:=h;exact AN h1 j
theorem UAt.c0(h:UAt w b u):w.cell? ⟨b,0,none⟩=some (.string (st u.scheme)):=by obtain⟨pv,hv,h1,_⟩:=h;exact AB h1 0
theorem UAt.c1(h:UAt w b u):w.cell? ⟨b,1,none⟩=some (.string (st u.raw)):=by obtain⟨pv,hv,h1,_⟩:=h;exact AB h1 1
theorem UAt.c2(h:UAt w b u):w.cell? ⟨b,2,none⟩=some (.bool u.wild):=by obtain⟨pv,hv,h1,_⟩:=h;exact AB h1 2
theorem UAt.c3(h:UAt w b u):w.cell? ⟨b,3,none⟩=some (.bool u.slash):=by obtain⟨pv,hv,h1,_⟩:=h;exact AB h1 3
theorem UAt.c4(h:UAt w b u):w.cell? ⟨b,4,none⟩=some (.string (st u.user)):=by obtain⟨pv,hv,h1,_⟩:=h;exact AB h1 4
theorem UAt.c5(h:UAt w b u):w.cell? ⟨b,5,none⟩=some (.string (st u.pass)):=by obtain⟨pv,hv,h1,_⟩:=h;exact AB h1 5
theorem UAt.c6(h:UAt w b u):w.cell? ⟨b,6,none⟩=some (.string (st u.host)):=by obtain⟨pv,hv,h1,_⟩:=h;exact AB h1 6
theorem UAt.c7(h:UAt w b u):w.cell? ⟨b,7,none⟩=some (.int .i64 u.port):=by obtain⟨pv,hv,h1,_⟩:=h;exact AB h1 7
end
theorem Bw(s:ByteArray)(l:Tx):(s.toList==l)=decide (bs s=l):=by
 rw[ByteArray.toList_eq s];show(bs s==l)=_;by_cases h:bs s=l
 ·rw[h];simp
 ·have h1:(bs s==l)=false:=by simpa using h
  rw[h1];simp[h]
theorem Ec{a b c a' b' c':Value}(h1:a=a')(h2:b=b')(h3:c=c'):Ending.returned (.tuple #[a,b,c])= .returned (.tuple #[a',b',c']):=by rw[h1,h2,h3]
theorem CB{s t:ByteArray}(h:s=t):Value.string s= .string t:=by rw[h]
theorem BM(s:ByteArray)(p:Nat):s.extract p s.size=st ((bs s).drop p):=by
 rw[Hm,List.take_of_length_le (by rw[BD];exact NL _)]
theorem CX(s:ByteArray)(p:Nat):s.extract 0 p=st ((bs s).take p):=by rw[Hm];rfl
theorem Eg{p:UInt8→Bool}{l:Tx}{i:Nat}(hi:i<l.length)(hp:p l[i]=true)(hn:(l.take i).all (fun c=> !p c)=true):l.findIdx p=i:=by
 rw[List.findIdx_eq hi];refine⟨hp,fun j hj=>?_⟩;have:=List.all_eq_true.1 hn l[j] (by rw[List.mem_take_iff_getElem];exact⟨j,by omega,rfl⟩);simpa using this
theorem EC{p:UInt8→Bool}{l:Tx}(hn:l.all (fun c=> !p c)=true):l.findIdx p=l.length:=by
 rw[List.findIdx_eq_length];intro x hx;have:=List.all_eq_true.1 hn x hx;simpa using this
theorem Dm(p:UInt8→Bool)(l:Tx)(x:UInt8):(l++[x]).all p=(l.all p&&p x):=by simp
theorem Db{l:Tx}{i:Nat}(h:i<l.length):l.getD i 0=l[i]:=by simp[List.getD_eq_getElem?_getD,List.getElem?_eq_getElem h]
theorem Dw{x:UInt8}{n:Nat}(h:(x.toNat:Int)=n)(hn:n<256):x=UInt8.ofNat n:=by
 apply UInt8.toNat_inj.1;rw[UInt8.toNat_ofNat',Nat.mod_eq_of_lt hn];omega
theorem Ci{s:ByteArray}{p d:Nat}{c:Int}(h:Cd s p c d)(n:Nat)(hn:n<128)(hc:c=n):∃hp:p<(bs s).length,(bs s)[p]=UInt8.ofNat n:=by
 obtain⟨_,_,_,_,h5⟩:=h;rcases h5 with⟨hp,e,_⟩|⟨e,_⟩
 ·exact⟨hp,Dw (by omega) (by omega)⟩
 ·omega
theorem FV{q:UInt8→Bool}(hq:∀x:UInt8,128≤x.toNat→q x=false){s:ByteArray}{p d:Nat}{c:Int}(h:Cd s p c d)(ha:((bs s).take p).all (fun c=> !q c)=true)(hc:∀x:UInt8,c=(x.toNat:Int)→q x=false):
 ((bs s).take (p+d)).all (fun c=> !q c)=true:=by
 rcases h.take (fun l=>l.all (fun c=> !q c)) (fun l x hx=>by rw[Dm,hq x hx];simp)with⟨hp,e,_,hF⟩|⟨_,hF⟩
 ·rw[hF,Dm,ha,hc _ e];rfl
 ·rw[hF,ha]
end Go.Proofs.YtejhpdcjafbklaaGreatDoor
namespace Go.Proofs.YtejhpdcjafbklaaGreatDoor
open Go.RowKit
theorem Ho(a b:List UInt8)(k:Nat)(h:a.take k=b.take k)(ha:k<a.length)(hb:k<b.length)(he:a[k]=b[k]):a.take (k+1)=b.take (k+1):=by
 rw[List.take_succ_eq_append_getElem ha,List.take_succ_eq_append_getElem hb,h,he]
theorem MF(w:World)(a b:Value)(la lb:List UInt8)(ha:Bv w a la)(hb:Bv w b lb):
 Calls Tryz.prog 11 #[a,b] w fun e w'=>e= .returned (.bool (decide (la=lb)))∧Dr w w':=by
 obtain⟨A,c,rfl,h1,h2,h4⟩:=ha;obtain⟨B,d,rfl,k1,k2,k4⟩:=hb;by_cases hl:la.length=lb.length
 ·have E1:((la.length:Int) != (lb.length:Int))=false:=by simp[hl]
  have E2:Hid (la.length=lb.length):=hl;clear hl;go_enter Tryz.func11,Tryz.ntmps11;go_wp2
  go_loopg [5] (la.length) (fun n i wr=>∃k:Nat,n+k=la.length∧i= .int .i64 k∧Dr w wr∧la.take k=lb.take k)
  case atStart=>exact⟨0,by omega,rfl,Dr.refl _,rfl⟩
  case round=>
   obtain⟨k,hn,rfl,hd,ht⟩:=hrel;have HT:=Hi ht;have HD:=Hi hd;have HN:gk+k≤la.length∧la.length≤gk+k:=by omega
   have R1:=Rb.le h4 hd.le;have R2:=Rb.le k4 hd.le;clear ht hn hd h4 k4;by_cases hlt:k<la.length
   ·have hlt2:k<lb.length:=by have:=E2.out;omega
    obtain⟨b1,o1,rfl,c1⟩:=R1.2 (by omega);obtain⟨b2,o2,rfl,c2⟩:=R2.2 (by omega);have d1:=c1 k hlt;have d2:=c2 k hlt2;clear c1 c2 R1 R2;by_cases hx:la[k]=lb[k]
    ·have HX:=Hi hx;rw[←hx]at d2;clear hx;generalize(la[k].toNat:Int)=x at d1 d2;go_wp2
     go_quiet (fail)
     go_wp2;go_roundg (gk-1)
     case measure=>omega
     case rel=>exact⟨k+1,by omega,by go_num,HD.out.step _,Ho _ _ _ HT.out hlt hlt2 HX.out⟩
    ·have hf:decide (la=lb)=false:=by
      simp only[decide_eq_false_iff_not];intro h;subst h;exact hx rfl
     have HF:=Hi hf;have hx':((la[k].toNat:Int) != (lb[k].toNat:Int))=true:=by
      simp only[bne_iff_ne,ne_eq];intro h;exact hx (UInt8.toNat_inj.1 (by omega))
     clear hx hf;generalize(la[k].toNat:Int)=x at d1 hx';generalize(lb[k].toNat:Int)=y at d2 hx';go_wp2
     go_quiet (fail)
     go_wp2;go_ret;exact⟨by rw[HF.out];rfl,HD.out.step _⟩
   ·have hf:decide (la=lb)=true:=by
     simp only[decide_eq_true_eq];have e1:=List.take_of_length_le (i:=k) (l:=la) (by omega);have e2:=List.take_of_length_le (i:=k) (l:=lb) (by have:=E2.out;omega);rw[←e1,←e2,HT.out]
    have HF:=Hi hf;clear hf;go_wp2;go_ret;exact⟨by rw[HF.out];rfl,HD.out⟩
 ·have E1:((la.length:Int) != (lb.length:Int))=true:=by simp;omega
  have E2:decide (la=lb)=false:=by simp;intro h;exact hl (by rw[h])
  rw[E2];clear hl E2;go_enter Tryz.func11,Tryz.ntmps11;go_wp2;go_ret;exact⟨rfl,Dr.refl _⟩
theorem is_c(w:World)(a:Value)(la:List UInt8)(s:ByteArray)(ha:Bv w a la)(hs:s.size≤140737488355328):
 Calls Tryz.prog 23 #[a,.string s] w fun e w'=>e= .returned (.bool (decide (la=bs s)))∧Le w w':=by
 have hcv:=fun w=>Iw (P:=Tryz.prog) (e:=5) Tryz.underlying9 Tryz.underlying22 Tryz.underlying5 s w;go_enter Tryz.func23,Tryz.ntmps23;go_wp2_with fail
 refine(MF _ _ _ la (bs s) (ha.le (LR w _ s)) (P2 w _ s hs (Gm w _ s hs))).mono ?_;rintro e w' ⟨rfl,hd⟩;have HD:=Hi hd;clear hd hcv;go_wp2;go_ret;exact⟨rfl,(LR w _ s).trans HD.out.le⟩
end Go.Proofs.YtejhpdcjafbklaaGreatDoor
namespace Go.Proofs
open Go.Shelf
def Tryz.lays169_ren:Go.Shelf.Ren:=⟨fun|169=>70|n=>n,fun|70=>127|9=>9|0=>0|72=>129|37=>22|127=>179|3=>3|5=>5|n=>n,fun|n=>n⟩
theorem Tryz.lays169:Go.Proofs.Lays.n169 Tryz.prog Tryz.lays169_ren:={
 mixed:=by kernel_rfl
 f169:=Tryz.func70.trans (congrArg some (by kernel_rfl))
 t0:=Tryz.underlying0
 a0:=Tryz.isAgg0
 z0:=Tryz.sizeOf0
 v0:=Tryz.zeroValue0
 t3:=Tryz.underlying3
 a3:=Tryz.isAgg3
 z3:=Tryz.sizeOf3
 v3:=Tryz.zeroValue3
 t9:=Tryz.underlying9
 a9:=Tryz.isAgg9
 z9:=Tryz.sizeOf9
 v9:=Tryz.zeroValue9
 t37:=Tryz.underlying22
 a37:=Tryz.isAgg22
 z37:=Tryz.sizeOf22
 v37:=Tryz.zeroValue22
 t70:=Tryz.underlying127
 a70:=Tryz.isAgg127
 z70:=Tryz.sizeOf127
 v70:=Tryz.zeroValue127
 t72:=Tryz.underlying129
 a72:=Tryz.isAgg129
 z72:=Tryz.sizeOf129
 v72:=Tryz.zeroValue129
 t127:=Tryz.underlying179
 a127:=Tryz.isAgg179
 z127:=Tryz.sizeOf179
 v127:=Tryz.zeroValue179}
theorem Tryz.Builder_Extra_169:Builder.Extra Tryz.prog Tryz.lays169_ren:={
 sizeBuilder:=by kernel_rfl
 liesBuilder:=by kernel_rfl
 t5:=Tryz.underlying5
 a5:=Tryz.isAgg5
 z5:=Tryz.sizeOf5
 v5:=Tryz.zeroValue5
 infoByte:=by kernel_rfl
 cellsByte:=by kernel_rfl
 sizeByte:=by kernel_rfl
 neB5:=by decide}
def Tryz.lays165_ren:Go.Shelf.Ren:=⟨fun|165=>106|240=>120|241=>121|276=>130|277=>131|n=>n,fun|70=>127|3=>3|0=>0|4=>4|9=>9|20=>20|72=>129|37=>22|164=>208|5=>5|n=>n,fun|n=>n⟩
theorem Tryz.lays165:Go.Proofs.Lays.n165 Tryz.prog Tryz.lays165_ren:={
 mixed:=by kernel_rfl
 f165:=Tryz.func106.trans (congrArg some (by kernel_rfl))
 f240:=Tryz.func120.trans (congrArg some (by kernel_rfl))
 f241:=Tryz.func121.trans (congrArg some (by kernel_rfl))
 f276:=Tryz.func130.trans (congrArg some (by kernel_rfl))
 f277:=Tryz.func131.trans (congrArg some (by kernel_rfl))
 t0:=Tryz.underlying0
 a0:=Tryz.isAgg0
 z0:=Tryz.sizeOf0
 v0:=Tryz.zeroValue0
 t3:=Tryz.underlying3
 a3:=Tryz.isAgg3
 z3:=Tryz.sizeOf3
 v3:=Tryz.zeroValue3
 t4:=Tryz.underlying4
 a4:=Tryz.isAgg4
 z4:=Tryz.sizeOf4
 v4:=Tryz.zeroValue4
 t9:=Tryz.underlying9
 a9:=Tryz.isAgg9
 z9:=Tryz.sizeOf9
 v9:=Tryz.zeroValue9
 t20:=Tryz.underlying20
 a20:=Tryz.isAgg20
 z20:=Tryz.sizeOf20
 v20:=Tryz.zeroValue20
 t37:=Tryz.underlying22
 a37:=Tryz.isAgg22
 z37:=Tryz.sizeOf22
 v37:=Tryz.zeroValue22
 t70:=Tryz.underlying127
 a70:=Tryz.isAgg127
 z70:=Tryz.sizeOf127
 v70:=Tryz.zeroValue127
 t72:=Tryz.underlying129
 a72:=Tryz.isAgg129
 z72:=Tryz.sizeOf129
 v72:=Tryz.zeroValue129
 t164:=Tryz.underlying208
 a164:=Tryz.isAgg208
 z164:=Tryz.sizeOf208
 v164:=Tryz.zeroValue208}
theorem Tryz.Builder_Extra_165:Builder.Extra Tryz.prog Tryz.lays165_ren:={
 sizeBuilder:=by kernel_rfl
 liesBuilder:=by kernel_rfl
 t5:=Tryz.underlying5
 a5:=Tryz.isAgg5
 z5:=Tryz.sizeOf5
 v5:=Tryz.zeroValue5
 infoByte:=by kernel_rfl
 cellsByte:=by kernel_rfl
 sizeByte:=by kernel_rfl
 neB5:=by decide}
open Go.RowKit in
theorem Tryz.Builder_Grow_fresh(B b n:Nat)(w:World)(hB:B≤b)(hbk:w.heap[b]? =some (.cells #[.pointer none,.slice none 0 0] 129 (0,0)))(hBw:B≤w.heap.size)(hn:n≤281474976710656):
 Calls Tryz.prog 106 #[.pointer (some ⟨b,0,none⟩),.int .i64 n] w fun e w'=>e= .returned (.tuple #[])∧(Lib.BuilderAt 129 5 B b (.pointer (some ⟨b,0,none⟩)) [] w'∧Below B w w'):=Any.Builder_Grow_fresh Tryz.lays165 Tryz.Builder_Extra_165 B b n w hB hbk hBw hn
def Tryz.lays103_ren:Go.Shelf.Ren:=⟨fun|103=>109|210=>122|206=>132|n=>n,fun|9=>9|4=>4|24=>191|3=>3|n=>n,fun|n=>n⟩
theorem Tryz.lays103:Go.Proofs.Lays.n103 Tryz.prog Tryz.lays103_ren:={
 mixed:=by kernel_rfl
 f103:=Tryz.func109.trans (congrArg some (by kernel_rfl))
 f206:=Tryz.func132.trans (congrArg some (by kernel_rfl))
 f210:=Tryz.func122.trans (congrArg some (by kernel_rfl))
 t3:=Tryz.underlying3
 a3:=Tryz.isAgg3
 z3:=Tryz.sizeOf3
 v3:=Tryz.zeroValue3
 t4:=Tryz.underlying4
 a4:=Tryz.isAgg4
 z4:=Tryz.sizeOf4
 v4:=Tryz.zeroValue4
 t9:=Tryz.underlying9
 a9:=Tryz.isAgg9
 z9:=Tryz.sizeOf9
 v9:=Tryz.zeroValue9
 t24:=Tryz.underlying191
 a24:=Tryz.isAgg191
 z24:=Tryz.sizeOf191
 v24:=Tryz.zeroValue191}
open Go.RowKit in
theorem Tryz.strings_CutPrefix(s p:ByteArray)(w:World):
 Calls Tryz.prog 109 #[.string s,.string p] w fun e w'=>e= .returned (.tuple #[.string ⟨(Lib.trimPrefix s.data.toList p.data.toList).toArray⟩,.bool (Lib.hasPrefix s.data.toList p.data.toList)])∧w'=w:=Any.strings_CutPrefix Tryz.lays103 s p w
open Go.RowKit in
theorem Tryz.Builder_String_any_k(B b:Nat)(l:List UInt8)(w:World)(h:Lib.IsBuilderF 129 5 B b (Lib.byteCells l) w)(hBw:B≤w.heap.size):
 Calls Tryz.prog 70 #[.pointer (some ⟨b,0,none⟩)] w fun e w'=>e= .returned (.string ⟨l.toArray⟩)∧(Lib.IsBuilderF 129 5 B b (Lib.byteCells l) w'∧Below B w w'∧Lib.OthersKept 5 (some b) w w'):=Any.Builder_String_any_k Tryz.lays169 Tryz.Builder_Extra_169 B b l w h hBw
def Tryz.laysM171_ren:Go.Shelf.Ren:=⟨fun|171=>92|243=>112|246=>126|283=>95|284=>96|285=>97|286=>98|129=>115|317=>114|318=>116|319=>117|320=>118|337=>128|338=>129|n=>n,fun|3=>3|9=>9|2=>2|4=>4|171=>180|0=>0|53=>108|37=>22|5=>5|173=>183|212=>197|51=>26|20=>20|213=>198|46=>200|232=>214|233=>215|n=>n,fun|17=>0|18=>1|19=>2|n=>n⟩
theorem Tryz.laysM171:Go.Proofs.LaysM.n171 Tryz.prog Tryz.laysM171_ren:={
 mixed:=by kernel_rfl
 f129:=Tryz.func115.trans (congrArg some (by kernel_rfl))
 f171:=Tryz.func92.trans (congrArg some (by kernel_rfl))
 f243:=Tryz.func112.trans (congrArg some (by kernel_rfl))
 f246:=Tryz.func126.trans (congrArg some (by kernel_rfl))
 f283:=Tryz.func95.trans (congrArg some (by kernel_rfl))
 f284:=Tryz.func96.trans (congrArg some (by kernel_rfl))
 f285:=Tryz.func97.trans (congrArg some (by kernel_rfl))
 f286:=Tryz.func98.trans (congrArg some (by kernel_rfl))
 f317:=Tryz.func114.trans (congrArg some (by kernel_rfl))
 f318:=Tryz.func116.trans (congrArg some (by kernel_rfl))
 f319:=Tryz.func117.trans (congrArg some (by kernel_rfl))
 f320:=Tryz.func118.trans (congrArg some (by kernel_rfl))
 f337:=Tryz.func128.trans (congrArg some (by kernel_rfl))
 f338:=Tryz.func129.trans (congrArg some (by kernel_rfl))
 t0:=Tryz.underlying0
 a0:=Tryz.isAgg0
 z0:=Tryz.sizeOf0
 v0:=Tryz.zeroValue0
 t2:=Tryz.underlying2
 a2:=Tryz.isAgg2
 z2:=Tryz.sizeOf2
 v2:=Tryz.zeroValue2
 t3:=Tryz.underlying3
 a3:=Tryz.isAgg3
 z3:=Tryz.sizeOf3
 v3:=Tryz.zeroValue3
 t4:=Tryz.underlying4
 a4:=Tryz.isAgg4
 z4:=Tryz.sizeOf4
 v4:=Tryz.zeroValue4
 t5:=Tryz.underlying5
 a5:=Tryz.isAgg5
 z5:=Tryz.sizeOf5
 v5:=Tryz.zeroValue5
 t9:=Tryz.underlying9
 a9:=Tryz.isAgg9
 z9:=Tryz.sizeOf9
 v9:=Tryz.zeroValue9
 t20:=Tryz.underlying20
 a20:=Tryz.isAgg20
 z20:=Tryz.sizeOf20
 v20:=Tryz.zeroValue20
 t37:=Tryz.underlying22
 a37:=Tryz.isAgg22
 z37:=Tryz.sizeOf22
 v37:=Tryz.zeroValue22
 t46:=Tryz.underlying200
 a46:=Tryz.isAgg200
 z46:=Tryz.sizeOf200
 v46:=Tryz.zeroValue200
 t51:=Tryz.underlying26
 a51:=Tryz.isAgg26
 z51:=Tryz.sizeOf26
 v51:=Tryz.zeroValue26
 t53:=Tryz.underlying108
 a53:=Tryz.isAgg108
 z53:=Tryz.sizeOf108
 v53:=Tryz.zeroValue108
 t171:=Tryz.underlying180
 a171:=Tryz.isAgg180
 z171:=Tryz.sizeOf180
 v171:=Tryz.zeroValue180
 t173:=Tryz.underlying183
 a173:=Tryz.isAgg183
 z173:=Tryz.sizeOf183
 v173:=Tryz.zeroValue183
 t212:=Tryz.underlying197
 a212:=Tryz.isAgg197
 z212:=Tryz.sizeOf197
 v212:=Tryz.zeroValue197
 t213:=Tryz.underlying198
 a213:=Tryz.isAgg198
 z213:=Tryz.sizeOf198
 t232:=Tryz.underlying214
 a232:=Tryz.isAgg214
 z232:=Tryz.sizeOf214
 v232:=Tryz.zeroValue214
 t233:=Tryz.underlying215
 a233:=Tryz.isAgg215
 z233:=Tryz.sizeOf215
 v233:=Tryz.zeroValue215
 g17:=by kernel_rfl
 g18:=by kernel_rfl
 g19:=by kernel_rfl
 i0:=by kernel_rfl
 i2:=by kernel_rfl
 i3:=by kernel_rfl
 i4:=by kernel_rfl
 i5:=by kernel_rfl
 i9:=by kernel_rfl
 i20:=by kernel_rfl
 i37:=by kernel_rfl
 i46:=by kernel_rfl
 i51:=by kernel_rfl
 i53:=by kernel_rfl
 i171:=by kernel_rfl
 i173:=by kernel_rfl
 i212:=by kernel_rfl
 i232:=by kernel_rfl
 i233:=by kernel_rfl
 m17:=by kernel_rfl
 m18:=by kernel_rfl
 m19:=by kernel_rfl}
open Go.RowKit Go.Sort Go.Lib in
theorem Tryz.strconv_Itoa(n:Int)(h0: -9223372036854775808≤n)(h1:n≤9223372036854775807)(w:World)(htab:Lib.TabIs Tryz.prog w "internal/strconv.uint64pow10" .u64 Lib.pow10Tab):
 Calls Tryz.prog 92 #[.int .i64 n] w fun e w'=>e= .returned (.string ⟨(Lib.itoa n).toArray⟩)∧∃k os,w'=grow (w.drewN k) os:=Any.strconv_Itoa Tryz.laysM171 n h0 h1 w htab
def Tryz.laysC172_ren:Go.Shelf.Ren:=⟨fun|172=>140|244=>146|245=>147|247=>155|279=>156|280=>157|281=>158|282=>159|287=>169|316=>170|171=>92|205=>64|321=>176|322=>177|243=>112|246=>126|283=>95|284=>96|285=>97|286=>98|129=>115|317=>114|318=>116|319=>117|320=>118|337=>128|338=>129|n=>n,fun|9=>9|3=>3|75=>86|76=>175|4=>4|5=>5|167=>237|37=>22|0=>0|85=>238|2=>2|168=>240|53=>108|175=>254|46=>200|210=>257|127=>179|145=>168|143=>166|21=>21|171=>180|173=>183|212=>197|51=>26|20=>20|213=>198|232=>214|233=>215|80=>65|n=>n,fun|15=>6|16=>7|17=>0|18=>1|19=>2|n=>n⟩
theorem Tryz.laysC172:Go.Proofs.LaysC.n172 Tryz.prog Tryz.laysC172_ren:={
 mixed:=by kernel_rfl
 f129:=Tryz.func115.trans (congrArg some (by kernel_rfl))
 f171:=Tryz.func92.trans (congrArg some (by kernel_rfl))
 f172:=Tryz.func140.trans (congrArg some (by kernel_rfl))
 f205:=Tryz.func64.trans (congrArg some (by kernel_rfl))
 f243:=Tryz.func112.trans (congrArg some (by kernel_rfl))
 f244:=Tryz.func146.trans (congrArg some (by kernel_rfl))
 f245:=Tryz.func147.trans (congrArg some (by kernel_rfl))
 f246:=Tryz.func126.trans (congrArg some (by kernel_rfl))
 f247:=Tryz.func155.trans (congrArg some (by kernel_rfl))
 f279:=Tryz.func156.trans (congrArg some (by kernel_rfl))
 f280:=Tryz.func157.trans (congrArg some (by kernel_rfl))
 f281:=Tryz.func158.trans (congrArg some (by kernel_rfl))
 f282:=Tryz.func159.trans (congrArg some (by kernel_rfl))
 f283:=Tryz.func95.trans (congrArg some (by kernel_rfl))
 f284:=Tryz.func96.trans (congrArg some (by kernel_rfl))
 f285:=Tryz.func97.trans (congrArg some (by kernel_rfl))
 f286:=Tryz.func98.trans (congrArg some (by kernel_rfl))
 f287:=Tryz.func169.trans (congrArg some (by kernel_rfl))
 f316:=Tryz.func170.trans (congrArg some (by kernel_rfl))
 f317:=Tryz.func114.trans (congrArg some (by kernel_rfl))
 f318:=Tryz.func116.trans (congrArg some (by kernel_rfl))
 f319:=Tryz.func117.trans (congrArg some (by kernel_rfl))
 f320:=Tryz.func118.trans (congrArg some (by kernel_rfl))
 f321:=Tryz.func176.trans (congrArg some (by kernel_rfl))
 f322:=Tryz.func177.trans (congrArg some (by kernel_rfl))
 f337:=Tryz.func128.trans (congrArg some (by kernel_rfl))
 f338:=Tryz.func129.trans (congrArg some (by kernel_rfl))
 t0:=Tryz.underlying0
 a0:=Tryz.isAgg0
 z0:=Tryz.sizeOf0
 v0:=Tryz.zeroValue0
 t2:=Tryz.underlying2
 a2:=Tryz.isAgg2
 z2:=Tryz.sizeOf2
 v2:=Tryz.zeroValue2
 t3:=Tryz.underlying3
 a3:=Tryz.isAgg3
 z3:=Tryz.sizeOf3
 v3:=Tryz.zeroValue3
 t4:=Tryz.underlying4
 a4:=Tryz.isAgg4
 z4:=Tryz.sizeOf4
 v4:=Tryz.zeroValue4
 t5:=Tryz.underlying5
 a5:=Tryz.isAgg5
 z5:=Tryz.sizeOf5
 v5:=Tryz.zeroValue5
 t9:=Tryz.underlying9
 a9:=Tryz.isAgg9
 z9:=Tryz.sizeOf9
 v9:=Tryz.zeroValue9
 t20:=Tryz.underlying20
 a20:=Tryz.isAgg20
 z20:=Tryz.sizeOf20
 v20:=Tryz.zeroValue20
 t21:=Tryz.underlying21
 a21:=Tryz.isAgg21
 z21:=Tryz.sizeOf21
 v21:=Tryz.zeroValue21
 t37:=Tryz.underlying22
 a37:=Tryz.isAgg22
 z37:=Tryz.sizeOf22
 v37:=Tryz.zeroValue22
 t46:=Tryz.underlying200
 a46:=Tryz.isAgg200
 z46:=Tryz.sizeOf200
 v46:=Tryz.zeroValue200
 t51:=Tryz.underlying26
 a51:=Tryz.isAgg26
 z51:=Tryz.sizeOf26
 v51:=Tryz.zeroValue26
 t53:=Tryz.underlying108
 a53:=Tryz.isAgg108
 z53:=Tryz.sizeOf108
 v53:=Tryz.zeroValue108
 t75:=Tryz.underlying86
 a75:=Tryz.isAgg86
 z75:=Tryz.sizeOf86
 v75:=Tryz.zeroValue86
 t76:=Tryz.underlying175
 a76:=Tryz.isAgg175
 z76:=Tryz.sizeOf175
 v76:=Tryz.zeroValue175
 t85:=Tryz.underlying238
 a85:=Tryz.isAgg238
 z85:=Tryz.sizeOf238
 v85:=Tryz.zeroValue238
 t127:=Tryz.underlying179
 a127:=Tryz.isAgg179
 z127:=Tryz.sizeOf179
 v127:=Tryz.zeroValue179
 t143:=Tryz.underlying166
 a143:=Tryz.isAgg166
 z143:=Tryz.sizeOf166
 v143:=Tryz.zeroValue166
 t145:=Tryz.underlying168
 a145:=Tryz.isAgg168
 z145:=Tryz.sizeOf168
 v145:=Tryz.zeroValue168
 t167:=Tryz.underlying237
 a167:=Tryz.isAgg237
 z167:=Tryz.sizeOf237
 v167:=Tryz.zeroValue237
 t168:=Tryz.underlying240
 a168:=Tryz.isAgg240
 z168:=Tryz.sizeOf240
 v168:=Tryz.zeroValue240
 t171:=Tryz.underlying180
 a171:=Tryz.isAgg180
 z171:=Tryz.sizeOf180
 v171:=Tryz.zeroValue180
 t173:=Tryz.underlying183
 a173:=Tryz.isAgg183
 z173:=Tryz.sizeOf183
 v173:=Tryz.zeroValue183
 t175:=Tryz.underlying254
 a175:=Tryz.isAgg254
 z175:=Tryz.sizeOf254
 v175:=Tryz.zeroValue254
 t210:=Tryz.underlying257
 a210:=Tryz.isAgg257
 z210:=Tryz.sizeOf257
 v210:=Tryz.zeroValue257
 t212:=Tryz.underlying197
 a212:=Tryz.isAgg197
 z212:=Tryz.sizeOf197
 v212:=Tryz.zeroValue197
 t213:=Tryz.underlying198
 a213:=Tryz.isAgg198
 z213:=Tryz.sizeOf198
 t232:=Tryz.underlying214
 a232:=Tryz.isAgg214
 z232:=Tryz.sizeOf214
 v232:=Tryz.zeroValue214
 t233:=Tryz.underlying215
 a233:=Tryz.isAgg215
 z233:=Tryz.sizeOf215
 v233:=Tryz.zeroValue215
 g15:=by kernel_rfl
 g16:=by kernel_rfl
 g17:=by kernel_rfl
 g18:=by kernel_rfl
 g19:=by kernel_rfl
 t80:=Tryz.underlying65
 a80:=Tryz.isAgg65
 z80:=Tryz.sizeOf65
 v80:=Tryz.zeroValue65
 i0:=by kernel_rfl
 i2:=by kernel_rfl
 i3:=by kernel_rfl
 i4:=by kernel_rfl
 i5:=by kernel_rfl
 i9:=by kernel_rfl
 i20:=by kernel_rfl
 i21:=by kernel_rfl
 i37:=by kernel_rfl
 i46:=by kernel_rfl
 i51:=by kernel_rfl
 i53:=by kernel_rfl
 i75:=by kernel_rfl
 i76:=by kernel_rfl
 i80:=by kernel_rfl
 i85:=by kernel_rfl
 i127:=by kernel_rfl
 i143:=by kernel_rfl
 i145:=by kernel_rfl
 i167:=by kernel_rfl
 i168:=by kernel_rfl
 i171:=by kernel_rfl
 i173:=by kernel_rfl
 i175:=by kernel_rfl
 i210:=by kernel_rfl
 i212:=by kernel_rfl
 i232:=by kernel_rfl
 i233:=by kernel_rfl
 m15:=by kernel_rfl
 m16:=by kernel_rfl
 m17:=by kernel_rfl
 m18:=by kernel_rfl
 m19:=by kernel_rfl
 c0:=by kernel_rfl
 c2:=by kernel_rfl
 c3:=by kernel_rfl
 c4:=by kernel_rfl
 c5:=by kernel_rfl
 c9:=by kernel_rfl
 c20:=by kernel_rfl
 c21:=by kernel_rfl
 c37:=by kernel_rfl
 c46:=by kernel_rfl
 c51:=by kernel_rfl
 c53:=by kernel_rfl
 c75:=by kernel_rfl
 c76:=by kernel_rfl
 c80:=by kernel_rfl
 c85:=by kernel_rfl
 c127:=by kernel_rfl
 c143:=by kernel_rfl
 c145:=by kernel_rfl
 c167:=by kernel_rfl
 c168:=by kernel_rfl
 c171:=by kernel_rfl
 c173:=by kernel_rfl
 c175:=by kernel_rfl
 c210:=by kernel_rfl
 c212:=by kernel_rfl
 c213:=by kernel_rfl
 c232:=by kernel_rfl
 c233:=by kernel_rfl}
open Go.RowKit in
theorem Tryz.strconv_Atoi_ok(s:ByteArray)(hmax:s.size≤9223372036854775806)(v:Int)(h:Lib.atoiAll s.data.toList= .ok v)(w:World):
 Calls Tryz.prog 140 #[.string s] w fun e w'=>e= .returned (.tuple #[.int .i64 v,.nilIface])∧(w'=w∨∃t,w'=Lib.bytesWorld w 5 t):=Any.strconv_Atoi_ok Tryz.laysC172 s hmax v h w
open Go.RowKit in
theorem Tryz.strconv_Atoi_syntax_var(s:ByteArray)(hlim:s.size≤281474976710656)(h:Lib.atoiAll s.data.toList=Lib.atoiAll [])(tp:TypeId)(p:Value)(w:World)(hvar:w.var? Tryz.prog "strconv.ErrSyntax" =some #[.iface tp p]):
 Calls Tryz.prog 140 #[.string s] w fun e w'=>∃N,e= .returned (.tuple #[.int .i64 0,.iface 240 (.pointer (some ⟨N,0,none⟩))])∧w.heap.size≤N∧w'.heap[N]? =some (.cells #[.string ⟨#[65,116,111,105]⟩,.string s,.iface tp p] 257 (0,0))∧Below w.heap.size w w':=Any.strconv_Atoi_syntax_var Tryz.laysC172 s hlim h tp p w hvar
open Go.RowKit in
theorem Tryz.strconv_Atoi_range_var(s:ByteArray)(hlim:s.size≤281474976710656)(h:Lib.atoiAll s.data.toList= .range)(tp:TypeId)(p:Value)(w:World)(hvar:w.var? Tryz.prog "strconv.ErrRange" =some #[.iface tp p]):
 Calls Tryz.prog 140 #[.string s] w fun e w'=>∃N,e= .returned (.tuple #[.int .i64 (Lib.atoiSat s.data.toList),.iface 240 (.pointer (some ⟨N,0,none⟩))])∧w.heap.size≤N∧w'.heap[N]? =some (.cells #[.string ⟨#[65,116,111,105]⟩,.string s,.iface tp p] 257 (0,0))∧Below w.heap.size w w':=Any.strconv_Atoi_range_var Tryz.laysC172 s hlim h tp p w hvar
def Tryz.lays272_ren:Go.Shelf.Ren:=⟨fun|272=>148|315=>160|n=>n,fun|9=>9|40=>170|4=>4|3=>3|0=>0|21=>21|n=>n,fun|n=>n⟩
theorem Tryz.lays272:Go.Proofs.Lays.n272 Tryz.prog Tryz.lays272_ren:={
 mixed:=by kernel_rfl
 f272:=Tryz.func148.trans (congrArg some (by kernel_rfl))
 f315:=Tryz.func160.trans (congrArg some (by kernel_rfl))
 t0:=Tryz.underlying0
 a0:=Tryz.isAgg0
 z0:=Tryz.sizeOf0
 v0:=Tryz.zeroValue0
 t3:=Tryz.underlying3
 a3:=Tryz.isAgg3
 z3:=Tryz.sizeOf3
 v3:=Tryz.zeroValue3
 t4:=Tryz.underlying4
 a4:=Tryz.isAgg4
 z4:=Tryz.sizeOf4
 v4:=Tryz.zeroValue4
 t9:=Tryz.underlying9
 a9:=Tryz.isAgg9
 z9:=Tryz.sizeOf9
 v9:=Tryz.zeroValue9
 t21:=Tryz.underlying21
 a21:=Tryz.isAgg21
 z21:=Tryz.sizeOf21
 v21:=Tryz.zeroValue21
 t40:=Tryz.underlying170
 a40:=Tryz.isAgg170
 z40:=Tryz.sizeOf170
 v40:=Tryz.zeroValue170}
def Tryz.lays199_ren:Go.Shelf.Ren:=⟨fun|199=>149|261=>161|311=>171|312=>172|n=>n,fun|21=>21|4=>4|51=>26|141=>245|0=>0|196=>261|193=>258|3=>3|198=>264|49=>262|194=>259|201=>267|226=>271|46=>200|227=>272|n=>n,fun|6=>5|n=>n⟩
theorem Tryz.lays199:Go.Proofs.Lays.n199 Tryz.prog Tryz.lays199_ren:={
 mixed:=by kernel_rfl
 f199:=Tryz.func149.trans (congrArg some (by kernel_rfl))
 f261:=Tryz.func161.trans (congrArg some (by kernel_rfl))
 f311:=Tryz.func171.trans (congrArg some (by kernel_rfl))
 f312:=Tryz.func172.trans (congrArg some (by kernel_rfl))
 t0:=Tryz.underlying0
 a0:=Tryz.isAgg0
 z0:=Tryz.sizeOf0
 v0:=Tryz.zeroValue0
 t3:=Tryz.underlying3
 a3:=Tryz.isAgg3
 z3:=Tryz.sizeOf3
 v3:=Tryz.zeroValue3
 t4:=Tryz.underlying4
 a4:=Tryz.isAgg4
 z4:=Tryz.sizeOf4
 v4:=Tryz.zeroValue4
 t21:=Tryz.underlying21
 a21:=Tryz.isAgg21
 z21:=Tryz.sizeOf21
 v21:=Tryz.zeroValue21
 t46:=Tryz.underlying200
 a46:=Tryz.isAgg200
 z46:=Tryz.sizeOf200
 v46:=Tryz.zeroValue200
 t49:=Tryz.underlying262
 a49:=Tryz.isAgg262
 z49:=Tryz.sizeOf262
 v49:=Tryz.zeroValue262
 t51:=Tryz.underlying26
 a51:=Tryz.isAgg26
 z51:=Tryz.sizeOf26
 v51:=Tryz.zeroValue26
 t141:=Tryz.underlying245
 a141:=Tryz.isAgg245
 z141:=Tryz.sizeOf245
 v141:=Tryz.zeroValue245
 t193:=Tryz.underlying258
 a193:=Tryz.isAgg258
 z193:=Tryz.sizeOf258
 v193:=Tryz.zeroValue258
 t194:=Tryz.underlying259
 a194:=Tryz.isAgg259
 z194:=Tryz.sizeOf259
 v194:=Tryz.zeroValue259
 t196:=Tryz.underlying261
 a196:=Tryz.isAgg261
 z196:=Tryz.sizeOf261
 v196:=Tryz.zeroValue261
 t198:=Tryz.underlying264
 a198:=Tryz.isAgg264
 z198:=Tryz.sizeOf264
 v198:=Tryz.zeroValue264
 t201:=Tryz.underlying267
 a201:=Tryz.isAgg267
 z201:=Tryz.sizeOf267
 v201:=Tryz.zeroValue267
 t226:=Tryz.underlying271
 a226:=Tryz.isAgg271
 z226:=Tryz.sizeOf271
 v226:=Tryz.zeroValue271
 t227:=Tryz.underlying272
 a227:=Tryz.isAgg272
 z227:=Tryz.sizeOf272
 v227:=Tryz.zeroValue272
 g6:=by kernel_rfl}
open Go.RowKit Go.Lib in
theorem Tryz.unicode_IsSpace_any(r:Int)(w:World)(hlo: -2147483648≤r)(hhi:r≤2147483647)(hW:Lib.WhiteTab 5 w):
 Calls Tryz.prog 149 #[.int .i32 r] w fun e w'=>e= .returned (.bool (Lib.isSpaceZ r))∧Below w.heap.size w w':=Any.unicode_IsSpace_any Tryz.lays199 r w hlo hhi hW
open Go.RowKit Go.Lib in
theorem Tryz.strings_TrimLeftFunc_grows(g:Nat)(lb:Array Value)(eg:∀args w,(callFunc g args).run Tryz.prog w= .ok (.enter g args) w)(p:Nat→Bool)(s:ByteArray)(w:World)(hp:PredGrows Tryz.prog g lb p w):
 Calls Tryz.prog 148 #[.string s,.func (.func g) #[] lb] w fun e w'=>e= .returned (.string (Lib.trimLeftF p s))∧Below w.heap.size w w':=Any.strings_TrimLeftFunc_grows Tryz.lays272 g lb eg p s w hp
def Tryz.lays167_ren:Go.Shelf.Ren:=⟨fun|167=>108|240=>120|276=>130|n=>n,fun|0=>0|4=>4|5=>5|9=>9|20=>20|37=>22|70=>127|72=>129|75=>86|80=>65|164=>208|n=>n,fun|n=>n⟩
theorem Tryz.lays167:Go.Proofs.Lays.n167 Tryz.prog Tryz.lays167_ren:={
 mixed:=by kernel_rfl
 f167:=Tryz.func108.trans (congrArg some (by kernel_rfl))
 f240:=Tryz.func120.trans (congrArg some (by kernel_rfl))
 f276:=Tryz.func130.trans (congrArg some (by kernel_rfl))
 t0:=Tryz.underlying0
 a0:=Tryz.isAgg0
 z0:=Tryz.sizeOf0
 v0:=Tryz.zeroValue0
 t4:=Tryz.underlying4
 a4:=Tryz.isAgg4
 z4:=Tryz.sizeOf4
 v4:=Tryz.zeroValue4
 t5:=Tryz.underlying5
 a5:=Tryz.isAgg5
 z5:=Tryz.sizeOf5
 v5:=Tryz.zeroValue5
 t9:=Tryz.underlying9
 a9:=Tryz.isAgg9
 z9:=Tryz.sizeOf9
 v9:=Tryz.zeroValue9
 t20:=Tryz.underlying20
 a20:=Tryz.isAgg20
 z20:=Tryz.sizeOf20
 v20:=Tryz.zeroValue20
 t37:=Tryz.underlying22
 a37:=Tryz.isAgg22
 z37:=Tryz.sizeOf22
 v37:=Tryz.zeroValue22
 t70:=Tryz.underlying127
 a70:=Tryz.isAgg127
 z70:=Tryz.sizeOf127
 v70:=Tryz.zeroValue127
 t72:=Tryz.underlying129
 a72:=Tryz.isAgg129
 z72:=Tryz.sizeOf129
 v72:=Tryz.zeroValue129
 t75:=Tryz.underlying86
 a75:=Tryz.isAgg86
 z75:=Tryz.sizeOf86
 v75:=Tryz.zeroValue86
 t164:=Tryz.underlying208
 a164:=Tryz.isAgg208
 z164:=Tryz.sizeOf208
 v164:=Tryz.zeroValue208}
theorem Tryz.Builder_Extra_167:Builder.Extra Tryz.prog Tryz.lays167_ren:={
 sizeBuilder:=by kernel_rfl
 liesBuilder:=by kernel_rfl
 t5:=Tryz.underlying5
 a5:=Tryz.isAgg5
 z5:=Tryz.sizeOf5
 v5:=Tryz.zeroValue5
 infoByte:=by kernel_rfl
 cellsByte:=by kernel_rfl
 sizeByte:=by kernel_rfl
 neB5:=by decide}
def Tryz.lays166_ren:Go.Shelf.Ren:=⟨fun|166=>107|240=>120|276=>130|n=>n,fun|0=>0|3=>3|4=>4|5=>5|9=>9|20=>20|37=>22|70=>127|72=>129|75=>86|80=>65|164=>208|n=>n,fun|n=>n⟩
theorem Tryz.lays166:Go.Proofs.Lays.n166 Tryz.prog Tryz.lays166_ren:={
 mixed:=by kernel_rfl
 f166:=Tryz.func107.trans (congrArg some (by kernel_rfl))
 f240:=Tryz.func120.trans (congrArg some (by kernel_rfl))
 f276:=Tryz.func130.trans (congrArg some (by kernel_rfl))
 t0:=Tryz.underlying0
 a0:=Tryz.isAgg0
 z0:=Tryz.sizeOf0
 v0:=Tryz.zeroValue0
 t3:=Tryz.underlying3
 a3:=Tryz.isAgg3
 z3:=Tryz.sizeOf3
 v3:=Tryz.zeroValue3
 t4:=Tryz.underlying4
 a4:=Tryz.isAgg4
 z4:=Tryz.sizeOf4
 v4:=Tryz.zeroValue4
 t9:=Tryz.underlying9
 a9:=Tryz.isAgg9
 z9:=Tryz.sizeOf9
 v9:=Tryz.zeroValue9
 t20:=Tryz.underlying20
 a20:=Tryz.isAgg20
 z20:=Tryz.sizeOf20
 v20:=Tryz.zeroValue20
 t37:=Tryz.underlying22
 a37:=Tryz.isAgg22
 z37:=Tryz.sizeOf22
 v37:=Tryz.zeroValue22
 t70:=Tryz.underlying127
 a70:=Tryz.isAgg127
 z70:=Tryz.sizeOf127
 v70:=Tryz.zeroValue127
 t72:=Tryz.underlying129
 a72:=Tryz.isAgg129
 z72:=Tryz.sizeOf129
 v72:=Tryz.zeroValue129
 t75:=Tryz.underlying86
 a75:=Tryz.isAgg86
 z75:=Tryz.sizeOf86
 v75:=Tryz.zeroValue86
 t164:=Tryz.underlying208
 a164:=Tryz.isAgg208
 z164:=Tryz.sizeOf208
 v164:=Tryz.zeroValue208}
theorem Tryz.Builder_Extra_166:Builder.Extra Tryz.prog Tryz.lays166_ren:={
 sizeBuilder:=by kernel_rfl
 liesBuilder:=by kernel_rfl
 t5:=Tryz.underlying5
 a5:=Tryz.isAgg5
 z5:=Tryz.sizeOf5
 v5:=Tryz.zeroValue5
 infoByte:=by kernel_rfl
 cellsByte:=by kernel_rfl
 sizeByte:=by kernel_rfl
 neB5:=by decide}
open Go.RowKit in
theorem Tryz.Builder_WriteByte_k(B b:Nat)(bs:List Value)(c:Int)(w:World)(h:Lib.IsBuilderF 129 5 B b bs w)(hlen:bs.length+1≤140737488355328)(hBw:B≤w.heap.size):
 Calls Tryz.prog 108 #[.pointer (some ⟨b,0,none⟩),.int .u8 c] w fun e w'=>e= .returned .nilIface∧(Lib.BuilderAtF 129 5 B b (.pointer (some ⟨b,0,none⟩)) (bs++[.int .u8 c]) w'∧Below B w w'∧Lib.OthersKept 5 (some b) w w'):=Any.Builder_WriteByte_k Tryz.lays167 Tryz.Builder_Extra_167 B b bs c w h hlen hBw
open Go.RowKit in
theorem Tryz.Builder_WriteString_k(B b:Nat)(bs:List Value)(s:ByteArray)(w:World)(h:Lib.IsBuilderF 129 5 B b bs w)(hlen:bs.length+s.size≤140737488355328)(hBw:B≤w.heap.size):
 Calls Tryz.prog 107 #[.pointer (some ⟨b,0,none⟩),.string s] w fun e w'=>e= .returned (.tuple #[.int .i64 s.size,.nilIface])∧(Lib.BuilderAtF 129 5 B b (.pointer (some ⟨b,0,none⟩)) (bs++Lib.strCells s) w'∧Below B w w'∧Lib.OthersKept 5 (some b) w w'):=Any.Builder_WriteString_k Tryz.lays166 Tryz.Builder_Extra_166 B b bs s w h hlen hBw
end Go.Proofs
